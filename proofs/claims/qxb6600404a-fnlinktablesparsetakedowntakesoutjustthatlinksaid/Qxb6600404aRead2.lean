import Derived.Test.Qxb6600404aRead
namespace Go.Proofs.Qxb6600404a
open Go.RowKit
set_option linter.unusedVariables false

def Distinct (s : List Int) : Prop := ∀ i k, i < k → k < s.length → s.getD i 0 ≠ s.getD k 0

set_option maxHeartbeats 1000000 in
theorem distinct_any (a : Option Addr) (ca : Nat) (s : List Int) (w : World) (ha : SI .i64 w a s) (hl : s.length ≤ 2000000) :
    Calls Try.prog 53 #[.slice a s.length ca] w fun e w' => RetIf e (Distinct s) ∧ ∃ n, w' = w.drewN n := by
  rcases ha with rfl | ⟨b1, o1, rfl, _, h1⟩
  · go_enter Try.func53, Try.ntmps53
    go_wp2
    refine wp_loop_rounds 1 ?_
    rw [rounds_succ]
    go_wp2
    go_ret
    exact ⟨.yes rfl (by intro i k _ h; simp at h), 0, rfl⟩
  have H1 : Hid (∀ i, i < s.length → w.cell? ⟨b1, o1 + i, none⟩ = some (.int .i64 (s.getD i 0))) := h1
  clear h1
  generalize hn : s.length = n at *
  have HN : Hid (s.length = n) := hn
  clear hn
  go_enter Try.func53, Try.ntmps53
  go_wp2
  go_loopw [3] (fun i w' => ∃ k m : Nat, k ≤ n ∧ i = .int .i64 k ∧ w' = w.drewN m ∧ ∀ p q, p < k → p < q → q < n → s.getD p 0 ≠ s.getD q 0) (fun i _ => n - (intOf i).toNat)
  case atStart => exact ⟨0, 0, by omega, rfl, rfl, fun p q h => by omega⟩
  case round =>
    obtain ⟨k, m, hk, rfl, rfl, hd⟩ := hrel
    have HD : Hid (∀ p q, p < k → p < q → q < n → s.getD p 0 ≠ s.getD q 0) := hd
    clear hd
    by_cases hlt : k < n
    · obtain ⟨x, hx⟩ : ∃ x, x = s.getD k 0 := ⟨_, rfl⟩
      have c1 := H1.out k hlt
      rw [← hx] at c1
      have HX : Hid (x = s.getD k 0) := hx
      clear hx
      have i1 : (k : Int) < (n : Int) := by omega
      go_wp2
      go_loopw [4] (fun j w' => ∃ q m' : Nat, k < q ∧ q ≤ n ∧ j = .int .i64 q ∧ w' = w.drewN m' ∧ ∀ q', k < q' → q' < q → s.getD k 0 ≠ s.getD q' 0) (fun j _ => n - (intOf j).toNat)
      case atStart => exact ⟨k + 1, m, by omega, by omega, by go_num, rfl, fun q h h' => by omega⟩
      case round =>
        obtain ⟨q, m', hkq, hq, rfl, rfl, he⟩ := hrel
        have HE : Hid (∀ q', k < q' → q' < q → s.getD k 0 ≠ s.getD q' 0) := he
        clear he
        by_cases hqn : q < n
        · obtain ⟨y, hy⟩ : ∃ y, y = s.getD q 0 := ⟨_, rfl⟩
          have c2 := H1.out q hqn
          rw [← hy] at c2
          have HY : Hid (y = s.getD q 0) := hy
          clear hy
          have i2 : (q : Int) < (n : Int) := by omega
          by_cases hxy : x = y
          · have hb : (x == y) = true := by simp [hxy]
            clear hxy
            go_wp2
            go_quiet (fail)
            go_wp2
            go_ret
            exact ⟨.no rfl, _, by rw [World.drewN_drewN]⟩
          · have hb : (x == y) = false := by simp [hxy]
            have HXY : Hid (¬ x = y) := hxy
            clear hxy
            go_wp2
            go_quiet (fail)
            go_wp2
            go_roundw
            case rel =>
              refine ⟨q + 1, _, by omega, by omega, by go_num, rfl, fun q' h1' h2' => ?_⟩
              rcases Nat.lt_succ_iff_lt_or_eq.1 h2' with h | rfl
              · exact HE.out q' h1' h
              · rw [← HX.out, ← HY.out]; exact HXY.out
            case measure => simp [intOf]; omega
        · have : q = n := by omega
          subst this
          go_wp2
          go_roundw
          case rel =>
            refine ⟨k + 1, _, by omega, by go_num, rfl, fun p q' h1' h2' h3' => ?_⟩
            rcases Nat.lt_succ_iff_lt_or_eq.1 h1' with h | rfl
            · exact HD.out p q' h h2' h3'
            · exact HE.out q' h2' h3'
          case measure => simp [intOf]; omega
    · go_wp2
      go_ret
      exact ⟨.yes rfl (fun i q h1' h2' => HD.out i q (by have := HN.out; omega) h1' (by have := HN.out; omega)), _, rfl⟩

def Canon (lo hi : List Int) : Prop := lo.length = hi.length ∧ (∀ i, i < lo.length → -1152921504606846975 ≤ lo.getD i 0 ∧ hi.getD i 0 ≤ 1152921504606846975 ∧ lo.getD i 0 < hi.getD i 0) ∧ ∀ i, i + 1 < lo.length → hi.getD i 0 < lo.getD (i + 1) 0


set_option maxHeartbeats 1000000 in
theorem canon_any (a b : Option Addr) (ca cb : Nat) (lo hi : List Int) (u : Int) (w : World) (ha : SI .i64 w a lo) (hb : SI .i64 w b hi) (hl : lo.length ≤ 2000000) (hl2 : hi.length ≤ 2000000) :
    Calls Try.prog 11 #[.slice a lo.length ca, .slice b hi.length cb, .int .i64 u] w fun e w' => RetIf e (Canon lo hi) ∧ ∃ n, w' = w.drewN n := by
  by_cases hlen : lo.length = hi.length
  · rw [← hlen]
    have HL : Hid (lo.length = hi.length) := hlen
    clear hlen hl2
    have hne : ((lo.length : Int) != (lo.length : Int)) = false := by simp
    rcases ha with rfl | ⟨b1, o1, rfl, _, h1⟩
    · go_enter Try.func11, Try.ntmps11
      go_wp2
      refine wp_loop_rounds 1 ?_
      rw [rounds_succ]
      go_wp2
      go_ret
      exact ⟨⟨_, rfl, fun _ => ⟨HL.out, by simp, by simp⟩⟩, 0, rfl⟩
    rcases hb with rfl | ⟨b2, o2, rfl, _, h2⟩
    · have : lo = [] := by rw [← List.length_eq_zero_iff, HL.out]; rfl
      subst this
      clear h1
      go_enter Try.func11, Try.ntmps11
      go_wp2
      refine wp_loop_rounds 1 ?_
      rw [rounds_succ]
      go_wp2
      go_ret
      exact ⟨⟨_, rfl, fun _ => ⟨rfl, by simp, by simp⟩⟩, 0, rfl⟩
    have H1 : Hid (∀ i, i < lo.length → w.cell? ⟨b1, o1 + i, none⟩ = some (.int .i64 (lo.getD i 0))) := h1
    have H2 : Hid (∀ i, i < hi.length → w.cell? ⟨b2, o2 + i, none⟩ = some (.int .i64 (hi.getD i 0))) := h2
    clear h1 h2
    generalize hn : lo.length = n at *
    have HN : Hid (lo.length = n) := hn
    clear hn
    go_enter Try.func11, Try.ntmps11
    go_wp2
    go_loopw [7, 8] (fun t i w' => ∃ k m : Nat, ∃ sm : Int, k ≤ n ∧ i = .int .i64 k ∧ t = .int .i64 sm ∧ w' = w.drewN m ∧ (∀ i, i < k → -1152921504606846975 ≤ lo.getD i 0 ∧ hi.getD i 0 ≤ 1152921504606846975 ∧ lo.getD i 0 < hi.getD i 0) ∧ ∀ i, i + 1 < k → hi.getD i 0 < lo.getD (i + 1) 0) (fun _ i _ => n - (intOf i).toNat)
    case atStart => exact ⟨0, 0, 0, by omega, rfl, rfl, rfl, fun i h => by omega, fun i h => by omega⟩
    case round =>
      obtain ⟨k, m, sm, hk, rfl, rfl, rfl, f1, f2⟩ := hrel
      have F1 : Hid (∀ i, i < k → -1152921504606846975 ≤ lo.getD i 0 ∧ hi.getD i 0 ≤ 1152921504606846975 ∧ lo.getD i 0 < hi.getD i 0) := f1
      have F2 : Hid (∀ i, i + 1 < k → hi.getD i 0 < lo.getD (i + 1) 0) := f2
      clear f1 f2
      by_cases hlt : k < n
      · obtain ⟨y, hy⟩ : ∃ y, y = lo.getD k 0 := ⟨_, rfl⟩
        obtain ⟨z, hz⟩ : ∃ z, z = hi.getD k 0 := ⟨_, rfl⟩
        have c1 := H1.out k hlt
        have c2 := H2.out k (by have := HL.out; omega)
        rw [← hy] at c1
        rw [← hz] at c2
        have HY : Hid (y = lo.getD k 0) := hy
        have HZ : Hid (z = hi.getD k 0) := hz
        clear hy hz
        have i1 : (k : Int) < (n : Int) := by omega
        by_cases q1 : y < -1152921504606846975
        · go_wp2
          go_quiet (fail)
          go_wp2
          go_ret
          exact ⟨.no rfl, _, by rw [World.drewN_drewN]⟩
        have q1' : decide (y < -1152921504606846975) = false := by simpa using q1
        by_cases q2 : 1152921504606846975 < z
        · go_wp2
          go_quiet (fail)
          go_wp2
          go_ret
          exact ⟨.no rfl, _, by rw [World.drewN_drewN]⟩
        have q2' : decide (1152921504606846975 < z) = false := by simpa using q2
        by_cases q3 : z ≤ y
        · go_wp2
          go_quiet (fail)
          go_wp2
          go_ret
          exact ⟨.no rfl, _, by rw [World.drewN_drewN]⟩
        have q3' : decide (z ≤ y) = false := by simpa using q3
        by_cases k0 : 0 < k
        · obtain ⟨x, hx⟩ : ∃ x, x = hi.getD (k - 1) 0 := ⟨_, rfl⟩
          have c3 := H2.out (k - 1) (by have := HL.out; omega)
          rw [← hx] at c3
          have HX : Hid (x = hi.getD (k - 1) 0) := hx
          clear hx
          have ek : ((k : Int) - 1).toNat = k - 1 := by omega
          have i3 : (0 : Int) ≤ (k : Int) - 1 := by omega
          have i4 : (k : Int) - 1 < (n : Int) := by omega
          by_cases q4 : y ≤ x
          · go_wp2
            go_quiet (fail)
            go_wp2
            go_quiet (fail)
            go_wp2
            go_ret
            exact ⟨.no rfl, _, by rw [World.drewN_drewN, World.drewN_drewN]⟩
          · have q4' : decide (y ≤ x) = false := by simpa using q4
            go_wp2
            go_quiet (fail)
            go_wp2
            go_quiet (fail)
            go_wp2
            go_quiet (fail)
            go_wp2
            go_roundw
            case rel =>
              refine ⟨k + 1, _, _, by omega, by go_num, rfl, rfl, fun i h => ?_, fun i h => ?_⟩
              · rcases Nat.lt_succ_iff_lt_or_eq.1 h with h | rfl
                · exact F1.out i h
                · rw [← HY.out, ← HZ.out]; omega
              · rcases Nat.lt_succ_iff_lt_or_eq.1 h with h | h
                · exact F2.out i h
                · have : i = k - 1 := by omega
                  subst this
                  rw [← HX.out, h, ← HY.out]; omega
            case measure => simp [intOf]; omega
        · have k0' : decide ((0 : Int) < (k : Int)) = false := by simp; omega
          go_wp2
          go_quiet (fail)
          go_wp2
          go_quiet (fail)
          go_wp2
          go_quiet (fail)
          go_wp2
          go_roundw
          case rel =>
            refine ⟨k + 1, _, _, by omega, by go_num, rfl, rfl, fun i h => ?_, fun i h => by omega⟩
            · rcases Nat.lt_succ_iff_lt_or_eq.1 h with h | rfl
              · exact F1.out i h
              · rw [← HY.out, ← HZ.out]; omega
          case measure => simp [intOf]; omega
      · go_wp2
        go_ret
        have : k = n := by omega
        subst this
        exact ⟨⟨_, rfl, fun _ => ⟨HN.out.trans HL.out, by rw [HN.out]; exact F1.out, by rw [HN.out]; exact F2.out⟩⟩, _, rfl⟩
  · have hne : ((lo.length : Int) != (hi.length : Int)) = true := by simp; omega
    go_enter Try.func11, Try.ntmps11
    go_wp2
    go_ret
    exact ⟨.no rfl, 0, rfl⟩
end Go.Proofs.Qxb6600404a
