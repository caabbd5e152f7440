import Derived.Test.Qxb6600404aSum
namespace Go.Proofs.Qxb6600404a
open Go.RowKit
set_option linter.unusedVariables false
set_option linter.unusedSimpArgs false

def Within (al ah bl bh : List Int) : Prop := al.length = ah.length ∧ (∀ i, i + 1 < al.length → al.getD i 0 ≤ al.getD (i + 1) 0) ∧ ∀ i, i < al.length → ∃ m, m < bl.length ∧ bl.getD m 0 ≤ al.getD i 0 ∧ al.getD i 0 < ah.getD i 0 ∧ ah.getD i 0 ≤ bh.getD m 0

theorem within_at {al ah bl bh : List Int} (hc : Canon bl bh) (h : Within al ah bl bh) {i k : Nat} (hi : i < al.length) (hp : ∀ p, p < k → bh.getD p 0 ≤ al.getD i 0) (hk : k < bl.length → ¬ bh.getD k 0 ≤ al.getD i 0) :
    k < bl.length ∧ bl.getD k 0 ≤ al.getD i 0 ∧ ah.getD i 0 ≤ bh.getD k 0 := by
  obtain ⟨m, hm, h1, h2, h3⟩ := h.2.2 i hi
  have hkm : k ≤ m := by
    rcases Nat.lt_or_ge m k with h' | h'
    · have := hp m h'; omega
    · exact h'
  rcases Nat.lt_or_eq_of_le hkm with h' | h'
  · have e1 := canon_mono' hc (p := k) (q := m - 1) (by omega) (by omega)
    have e2 := hc.2.2 (m - 1) (by omega)
    rw [show m - 1 + 1 = m by omega] at e2
    exact absurd (by omega) (hk (by omega))
  · subst h'
    exact ⟨hm, h1, h3⟩

set_option maxHeartbeats 1000000 in
theorem within_any (a1 a2 a3 a4 : Option Addr) (c1 c2 c3 c4 : Nat) (al ah bl bh : List Int) (w : World) (s1 : SI .i64 w a1 al) (s2 : SI .i64 w a2 ah) (s3 : SI .i64 w a3 bl) (s4 : SI .i64 w a4 bh) (hc : Canon bl bh) (hw : Within al ah bl bh) (l1 : al.length ≤ 2000000) (l2 : bl.length ≤ 2000000) :
    Calls Try.prog 45 #[.slice a1 al.length c1, .slice a2 ah.length c2, .slice a3 bl.length c3, .slice a4 bh.length c4] w fun e w' => e = .returned (.bool true) ∧ ∃ n, w' = w.drewN n := by
  rcases s1 with rfl | ⟨b1, o1, rfl, _, h1⟩
  · go_enter Try.func45, Try.ntmps45
    go_wp2
    refine wp_loop_rounds 1 ?_
    rw [rounds_succ]
    go_wp2
    go_ret
    exact ⟨rfl, 0, rfl⟩
  by_cases hz : al = []
  · subst hz
    clear h1
    go_enter Try.func45, Try.ntmps45
    go_wp2
    refine wp_loop_rounds 1 ?_
    rw [rounds_succ]
    go_wp2
    go_ret
    exact ⟨rfl, 0, rfl⟩
  have hpos : 0 < al.length := List.length_pos_iff.2 hz
  have hbp : 0 < bl.length := by
    obtain ⟨m, hm, _⟩ := hw.2.2 0 hpos
    omega
  rcases s2 with rfl | ⟨b2, o2, rfl, _, h2⟩
  · have := hw.1; rw [List.length_nil] at this; omega
  rcases s3 with rfl | ⟨b3, o3, rfl, _, h3⟩
  · simp at hbp
  rcases s4 with rfl | ⟨b4, o4, rfl, _, h4⟩
  · have := hc.1; rw [List.length_nil] at this; omega
  have H1 : Hid (∀ i, i < al.length → w.cell? ⟨b1, o1 + i, none⟩ = some (.int .i64 (al.getD i 0))) := h1
  have H2 : Hid (∀ i, i < ah.length → w.cell? ⟨b2, o2 + i, none⟩ = some (.int .i64 (ah.getD i 0))) := h2
  have H3 : Hid (∀ i, i < bl.length → w.cell? ⟨b3, o3 + i, none⟩ = some (.int .i64 (bl.getD i 0))) := h3
  have H4 : Hid (∀ i, i < bh.length → w.cell? ⟨b4, o4 + i, none⟩ = some (.int .i64 (bh.getD i 0))) := h4
  have HC : Hid (Canon bl bh) := hc
  have HW : Hid (Within al ah bl bh) := hw
  have e1 : ah.length = al.length := hw.1.symm
  have e2 : bh.length = bl.length := hc.1.symm
  rw [e1, e2]
  have E1 : Hid (ah.length = al.length) := e1
  have E2 : Hid (bh.length = bl.length) := e2
  clear h1 h2 h3 h4 hc hw e1 e2 hz
  generalize hn : al.length = n at *
  generalize hm : bl.length = m at *
  have HN : Hid (al.length = n) := hn
  have HM : Hid (bl.length = m) := hm
  clear hn hm
  go_enter Try.func45, Try.ntmps45
  go_wp2
  go_loopw [9, 10] (fun kk ii w' => ∃ k i d : Nat, k ≤ m ∧ i ≤ n ∧ kk = .int .i64 k ∧ ii = .int .i64 i ∧ w' = w.drewN d ∧ ∀ p, p < k → i < n → bh.getD p 0 ≤ al.getD i 0) (fun _ ii _ => n - (intOf ii).toNat)
  case atStart => exact ⟨0, 0, 0, by omega, by omega, rfl, rfl, rfl, fun p h => by omega⟩
  case round =>
    obtain ⟨k, i, d, hk, hi, rfl, rfl, rfl, hp⟩ := hrel
    have HP : Hid (∀ p, p < k → i < n → bh.getD p 0 ≤ al.getD i 0) := hp
    clear hp
    by_cases hlt : i < n
    · obtain ⟨x, hx⟩ : ∃ x, x = al.getD i 0 := ⟨_, rfl⟩
      have cx := H1.out i hlt
      rw [← hx] at cx
      have HX : Hid (x = al.getD i 0) := hx
      clear hx
      have i1 : (i : Int) < (n : Int) := by omega
      go_wp2
      go_loopw [9] (fun kk w' => ∃ q d' : Nat, q ≤ m ∧ kk = .int .i64 q ∧ w' = w.drewN d' ∧ ∀ p, p < q → bh.getD p 0 ≤ al.getD i 0) (fun kk _ => m - (intOf kk).toNat)
      case atStart => exact ⟨k, d, hk, rfl, rfl, fun p h => HP.out p h hlt⟩
      case round =>
        obtain ⟨q, d', hq, rfl, rfl, he⟩ := hrel
        have HE : Hid (∀ p, p < q → bh.getD p 0 ≤ al.getD i 0) := he
        clear he
        by_cases hqm : q < m
        · obtain ⟨y, hy⟩ : ∃ y, y = bh.getD q 0 := ⟨_, rfl⟩
          have cy := H4.out q (by have := E2.out; omega)
          rw [← hy] at cy
          have HY : Hid (y = bh.getD q 0) := hy
          clear hy
          have i2 : (q : Int) < (m : Int) := by omega
          have g1 : decide ((q : Int) < (m : Int)) = true := by simp; omega
          by_cases hxy : y ≤ x
          · go_wp2
            go_quiet (fail)
            go_wp2
            go_roundw
            case rel =>
              refine ⟨q + 1, _, by omega, by go_num, rfl, fun p h => ?_⟩
              rcases Nat.lt_succ_iff_lt_or_eq.1 h with h | rfl
              · exact HE.out p h
              · rw [← HX.out, ← HY.out]; exact hxy
            case measure => simp [intOf]; omega
          · have hxy' : decide (y ≤ x) = false := by simpa using hxy
            obtain ⟨_, f1, f2⟩ := within_at HC.out HW.out (by have := HN.out; omega) HE.out (fun _ => by rw [← HX.out, ← HY.out]; exact hxy)
            obtain ⟨z, hz⟩ : ∃ z, z = bl.getD q 0 := ⟨_, rfl⟩
            obtain ⟨v, hv⟩ : ∃ v, v = ah.getD i 0 := ⟨_, rfl⟩
            have cz := H3.out q (by have := HM.out; omega)
            rw [← hz] at cz
            have cv := H2.out i (by have := E1.out; omega)
            rw [← hv] at cv
            rw [← hz, ← HX.out] at f1
            rw [← hv, ← HY.out] at f2
            clear hz hv
            have g2 : decide ((m : Int) ≤ (q : Int)) = false := by simp; omega
            have g3 : decide (x < z) = false := by simp; omega
            have g4 : decide (y < v) = false := by simp; omega
            go_wp2
            go_quiet (fail)
            go_wp2
            go_quiet (fail)
            go_wp2
            go_roundw
            case rel =>
              refine ⟨q, i + 1, _, by omega, by omega, rfl, by go_num, rfl, fun p h1' h2' => ?_⟩
              have := HW.out.2.1 i (by have := HN.out; omega)
              have := HE.out p h1'
              omega
            case measure => simp [intOf]; omega
        · exfalso
          obtain ⟨h, _⟩ := within_at HC.out HW.out (k := q) (by have := HN.out; omega) HE.out (fun h => by have := HM.out; omega)
          have := HM.out
          omega
    · go_wp2
      go_ret
      exact ⟨rfl, _, rfl⟩
end Go.Proofs.Qxb6600404a
