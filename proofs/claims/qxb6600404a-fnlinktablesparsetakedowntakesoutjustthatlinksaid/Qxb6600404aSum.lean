import Derived.Test.Qxb6600404aLawLem
namespace Go.Proofs.Qxb6600404a
open Go.RowKit
set_option linter.unusedVariables false
set_option linter.unusedSimpArgs false

/-- the numbers that the first k runs hold -/
def tot (lo hi : List Int) : Nat → Int
  | 0 => 0
  | k + 1 => tot lo hi k + (hi.getD k 0 - lo.getD k 0)

def CanS (lo hi : List Int) (u : Int) : Prop := Canon lo hi ∧ tot lo hi lo.length = u

def SumAt (lo hi : List Int) (k : Nat) (sm : Int) : Prop := sm = tot lo hi k ∧ 0 ≤ sm ∧ (k = 0 → sm = 0) ∧ (0 < k → sm ≤ hi.getD (k - 1) 0 + 1152921504606846975)

theorem SumAt.zero (lo hi : List Int) : SumAt lo hi 0 0 := ⟨rfl, by omega, fun _ => rfl, fun h => by omega⟩

theorem SumAt.le {lo hi : List Int} {k : Nat} {sm : Int} (h : SumAt lo hi k sm) {n : Nat} (hk : k ≤ n) (f : ∀ i, i < k → -1152921504606846975 ≤ lo.getD i 0 ∧ hi.getD i 0 ≤ 1152921504606846975 ∧ lo.getD i 0 < hi.getD i 0) : sm ≤ 2305843009213693950 := by
  rcases Nat.eq_zero_or_pos k with h0 | h0
  · rw [h.2.2.1 h0]; omega
  · have := h.2.2.2 h0
    have := (f (k - 1) (by omega)).2.1
    omega

theorem SumAt.step {lo hi : List Int} {k : Nat} {sm y z : Int} (h : SumAt lo hi k sm) (hy : y = lo.getD k 0) (hz : z = hi.getD k 0) (h1 : y < z) (h2 : -1152921504606846975 ≤ y) (h3 : 0 < k → hi.getD (k - 1) 0 < y) : SumAt lo hi (k + 1) (sm + (z - y)) := by
  refine ⟨?_, by have := h.2.1; omega, fun h => by omega, fun _ => ?_⟩
  · rw [tot, ← hy, ← hz, h.1]
  · rw [Nat.add_sub_cancel, ← hz]
    rcases Nat.eq_zero_or_pos k with h0 | h0
    · rw [h.2.2.1 h0]; omega
    · have := h.2.2.2 h0
      have := h3 h0
      omega

theorem canS_nil {hi : List Int} {u : Int} (h : ([] : List Int).length = hi.length) : ((0 : Int) == u) = true ↔ CanS [] hi u := by
  constructor
  · intro h'
    exact ⟨⟨h, by simp, by simp⟩, by simpa [tot] using h'⟩
  · intro h'
    have := h'.2
    simp only [List.length_nil, tot] at this
    simp [this]

theorem canS_end {lo hi : List Int} {u sm : Int} (h : lo.length = hi.length) (f1 : ∀ i, i < lo.length → -1152921504606846975 ≤ lo.getD i 0 ∧ hi.getD i 0 ≤ 1152921504606846975 ∧ lo.getD i 0 < hi.getD i 0)
    (f2 : ∀ i, i + 1 < lo.length → hi.getD i 0 < lo.getD (i + 1) 0) (f3 : SumAt lo hi lo.length sm) : (sm == u) = true ↔ CanS lo hi u := by
  rw [beq_iff_eq, f3.1]
  exact ⟨fun e => ⟨⟨h, f1, f2⟩, e⟩, fun e => e.2⟩

set_option maxHeartbeats 1000000 in
theorem canS_any (a b : Option Addr) (ca cb : Nat) (lo hi : List Int) (u : Int) (w : World) (ha : SI .i64 w a lo) (hb : SI .i64 w b hi) (hl : lo.length ≤ 2000000) (hl2 : hi.length ≤ 2000000) :
    Calls Try.prog 11 #[.slice a lo.length ca, .slice b hi.length cb, .int .i64 u] w fun e w' => RetIff e (CanS lo hi u) ∧ ∃ n, w' = w.drewN n := by
  by_cases hlen : lo.length = hi.length
  · rw [← hlen]
    have HL : Hid (lo.length = hi.length) := hlen
    clear hlen hl2
    have hne : ((lo.length : Int) != (lo.length : Int)) = false := by simp
    rcases ha with rfl | ⟨b1, o1, rfl, _, h1⟩
    · go_enter Try.func11, Try.ntmps11
      go_wp2
      refine wp_loop_rounds 1 ?_
      rw [rounds_succ]
      go_wp2
      go_ret
      exact ⟨⟨_, rfl, canS_nil HL.out⟩, 0, rfl⟩
    rcases hb with rfl | ⟨b2, o2, rfl, _, h2⟩
    · have : lo = [] := by rw [← List.length_eq_zero_iff, HL.out]; rfl
      subst this
      clear h1
      go_enter Try.func11, Try.ntmps11
      go_wp2
      refine wp_loop_rounds 1 ?_
      rw [rounds_succ]
      go_wp2
      go_ret
      exact ⟨⟨_, rfl, canS_nil rfl⟩, 0, rfl⟩
    have H1 : Hid (∀ i, i < lo.length → w.cell? ⟨b1, o1 + i, none⟩ = some (.int .i64 (lo.getD i 0))) := h1
    have H2 : Hid (∀ i, i < hi.length → w.cell? ⟨b2, o2 + i, none⟩ = some (.int .i64 (hi.getD i 0))) := h2
    clear h1 h2
    generalize hn : lo.length = n at *
    have HN : Hid (lo.length = n) := hn
    clear hn
    go_enter Try.func11, Try.ntmps11
    go_wp2
    go_loopw [7, 8] (fun t i w' => ∃ k m : Nat, ∃ sm : Int, k ≤ n ∧ i = .int .i64 k ∧ t = .int .i64 sm ∧ w' = w.drewN m ∧ (∀ i, i < k → -1152921504606846975 ≤ lo.getD i 0 ∧ hi.getD i 0 ≤ 1152921504606846975 ∧ lo.getD i 0 < hi.getD i 0) ∧ (∀ i, i + 1 < k → hi.getD i 0 < lo.getD (i + 1) 0) ∧ SumAt lo hi k sm) (fun _ i _ => n - (intOf i).toNat)
    case atStart => exact ⟨0, 0, 0, by omega, rfl, rfl, rfl, fun i h => by omega, fun i h => by omega, .zero lo hi⟩
    case round =>
      obtain ⟨k, m, sm, hk, rfl, rfl, rfl, f1, f2, f3⟩ := hrel
      have F3 : Hid (SumAt lo hi k sm) := f3
      have s0 : 0 ≤ sm := f3.2.1
      have s1 : sm ≤ 2305843009213693950 := f3.le (by have := HL.out; have := HN.out; omega) f1
      have F1 : Hid (∀ i, i < k → -1152921504606846975 ≤ lo.getD i 0 ∧ hi.getD i 0 ≤ 1152921504606846975 ∧ lo.getD i 0 < hi.getD i 0) := f1
      have F2 : Hid (∀ i, i + 1 < k → hi.getD i 0 < lo.getD (i + 1) 0) := f2
      clear f1 f2 f3
      by_cases hlt : k < n
      · obtain ⟨y, hy⟩ : ∃ y, y = lo.getD k 0 := ⟨_, rfl⟩
        obtain ⟨z, hz⟩ : ∃ z, z = hi.getD k 0 := ⟨_, rfl⟩
        have c1 := H1.out k hlt
        have c2 := H2.out k (by have := HL.out; omega)
        rw [← hy] at c1
        rw [← hz] at c2
        have HY : Hid (y = lo.getD k 0) := hy
        have HZ : Hid (z = hi.getD k 0) := hz
        clear hy hz
        have i1 : (k : Int) < (n : Int) := by omega
        by_cases q1 : y < -1152921504606846975
        · go_wp2
          go_quiet (fail)
          go_wp2
          go_ret
          exact ⟨.no rfl (fun h => by have := h.1.2.1 k (by have := HN.out; omega); have e1 := HY.out; have e2 := HZ.out; rw [← e1, ← e2] at this; omega), _, by rw [World.drewN_drewN]⟩
        have q1' : decide (y < -1152921504606846975) = false := by simpa using q1
        by_cases q2 : 1152921504606846975 < z
        · go_wp2
          go_quiet (fail)
          go_wp2
          go_ret
          exact ⟨.no rfl (fun h => by have := h.1.2.1 k (by have := HN.out; omega); have e1 := HY.out; have e2 := HZ.out; rw [← e1, ← e2] at this; omega), _, by rw [World.drewN_drewN]⟩
        have q2' : decide (1152921504606846975 < z) = false := by simpa using q2
        by_cases q3 : z ≤ y
        · go_wp2
          go_quiet (fail)
          go_wp2
          go_ret
          exact ⟨.no rfl (fun h => by have := h.1.2.1 k (by have := HN.out; omega); have e1 := HY.out; have e2 := HZ.out; rw [← e1, ← e2] at this; omega), _, by rw [World.drewN_drewN]⟩
        have q3' : decide (z ≤ y) = false := by simpa using q3
        have w1 : IntKind.i64.wrap (z - y) = z - y := by rw [IntKind.wrap_i64]; omega
        have w2 : IntKind.i64.wrap (sm + (z - y)) = sm + (z - y) := by rw [IntKind.wrap_i64]; omega
        by_cases k0 : 0 < k
        · obtain ⟨x, hx⟩ : ∃ x, x = hi.getD (k - 1) 0 := ⟨_, rfl⟩
          have c3 := H2.out (k - 1) (by have := HL.out; omega)
          rw [← hx] at c3
          have HX : Hid (x = hi.getD (k - 1) 0) := hx
          clear hx
          have ek : ((k : Int) - 1).toNat = k - 1 := by omega
          have i3 : (0 : Int) ≤ (k : Int) - 1 := by omega
          have i4 : (k : Int) - 1 < (n : Int) := by omega
          by_cases q4 : y ≤ x
          · go_wp2
            go_quiet (fail)
            go_wp2
            go_quiet (fail)
            go_wp2
            go_ret
            exact ⟨.no rfl (fun h => by have := h.1.2.2 (k - 1) (by have := HN.out; omega); have e1 := HY.out; have e2 := HX.out; rw [show k - 1 + 1 = k by omega, ← e1, ← e2] at this; omega), _, by rw [World.drewN_drewN, World.drewN_drewN]⟩
          · have q4' : decide (y ≤ x) = false := by simpa using q4
            go_wp2
            go_quiet (fail)
            go_wp2
            go_quiet (fail)
            go_wp2
            go_quiet (fail)
            go_wp2
            go_roundw
            case rel =>
              refine ⟨k + 1, _, _, by omega, by go_num, rfl, rfl, fun i h => ?_, fun i h => ?_, F3.out.step HY.out HZ.out (by omega) (by omega) (fun _ => by rw [← HX.out]; omega)⟩
              · rcases Nat.lt_succ_iff_lt_or_eq.1 h with h | rfl
                · exact F1.out i h
                · rw [← HY.out, ← HZ.out]; omega
              · rcases Nat.lt_succ_iff_lt_or_eq.1 h with h | h
                · exact F2.out i h
                · have : i = k - 1 := by omega
                  subst this
                  rw [← HX.out, h, ← HY.out]; omega
            case measure => simp [intOf]; omega
        · have k0' : decide ((0 : Int) < (k : Int)) = false := by simp; omega
          go_wp2
          go_quiet (fail)
          go_wp2
          go_quiet (fail)
          go_wp2
          go_quiet (fail)
          go_wp2
          go_roundw
          case rel =>
            refine ⟨k + 1, _, _, by omega, by go_num, rfl, rfl, fun i h => ?_, fun i h => by omega, F3.out.step HY.out HZ.out (by omega) (by omega) (fun h => absurd h k0)⟩
            · rcases Nat.lt_succ_iff_lt_or_eq.1 h with h | rfl
              · exact F1.out i h
              · rw [← HY.out, ← HZ.out]; omega
          case measure => simp [intOf]; omega
      · go_wp2
        go_ret
        have : k = n := by omega
        subst this
        exact ⟨⟨_, rfl, canS_end (HN.out.trans HL.out) (by rw [HN.out]; exact F1.out) (by rw [HN.out]; exact F2.out) (by rw [HN.out]; exact F3.out)⟩, _, rfl⟩
  · have hne : ((lo.length : Int) != (hi.length : Int)) = true := by simp; omega
    go_enter Try.func11, Try.ntmps11
    go_wp2
    go_ret
    exact ⟨.no rfl (fun h => hlen h.1.1), 0, rfl⟩
def SparseS (ps ts lo hi : List Int) (u : Int) : Prop := ps.length = ts.length ∧ CanS lo hi u ∧ Distinct ps ∧ ∀ i, i < ps.length → InRuns lo hi (ps.getD i 0)

set_option maxHeartbeats 1000000 in
theorem sparseS_any (a0 a1 a2 a3 : Option Addr) (c0 c1 c2 c3 : Nat) (ps ts lo hi : List Int) (u : Int) (w : World) (h0 : SI .i64 w a0 ps) (h2 : SI .i64 w a2 lo) (h3 : SI .i64 w a3 hi)
    (l0 : ps.length ≤ 2000000) (l2 : lo.length ≤ 2000000) (l3 : hi.length ≤ 2000000) :
    Calls Try.prog 36 #[.slice a0 ps.length c0, .slice a1 ts.length c1, .slice a2 lo.length c2, .slice a3 hi.length c3, .int .i64 u] w fun e w' => RetIf e (SparseS ps ts lo hi u) ∧ ∃ n, w' = w.drewN n := by
  by_cases hlen : ps.length = ts.length
  · have hne : ((ps.length : Int) != (ts.length : Int)) = false := by simp [hlen]
    have HL : Hid (ps.length = ts.length) := hlen
    clear hlen
    have h0' := h0
    rcases h0 with hnil | ⟨b1, o1, ea, hb, h1⟩
    · subst hnil
      have hts : ts = [] := List.length_eq_zero_iff.1 HL.out.symm
      subst hts
      clear HL hne
      go_enter Try.func36, Try.ntmps36
      go_wp2_with fail
      refine (canS_any a2 a3 c2 c3 lo hi u _ h2 h3 l2 l3).mono ?_
      rintro e w1 ⟨⟨B, rfl, hC⟩, n1, rfl⟩
      cases B
      · clear hC
        go_wp2_with fail
        go_ret
        exact ⟨.no rfl, _, rfl⟩
      have hcan := hC.1 rfl
      have HC : Hid (CanS lo hi u) := hcan
      clear hC
      go_wp2_with fail
      refine (distinct_any a0 c0 [] _ (h0'.drewN _) l0).mono ?_
      rintro e w1 ⟨⟨B, rfl, hD⟩, n2, rfl⟩
      cases B
      · clear hD
        go_wp2_with fail
        go_ret
        exact ⟨.no rfl, _, rfl⟩
      have hdis := hD rfl
      have HD : Hid (Distinct []) := hdis
      clear hD hcan hdis
      go_wp2_with fail
      refine wp_loop_rounds 1 ?_
      rw [rounds_succ]
      go_wp2
      go_ret
      exact ⟨.yes rfl ⟨rfl, HC.out, HD.out, fun i h => by simp at h⟩, _, rfl⟩
    · subst ea
      have H1 : Hid (∀ i, i < ps.length → w.cell? ⟨b1, o1 + i, none⟩ = some (.int .i64 (ps.getD i 0))) := h1
      clear h1
      go_enter Try.func36, Try.ntmps36
      go_wp2_with fail
      refine (canS_any a2 a3 c2 c3 lo hi u _ h2 h3 l2 l3).mono ?_
      rintro e w1 ⟨⟨B, rfl, hC⟩, n1, rfl⟩
      cases B
      · clear hC
        go_wp2_with fail
        go_ret
        exact ⟨.no rfl, _, rfl⟩
      have hcan := hC.1 rfl
      have HC : Hid (CanS lo hi u) := hcan
      clear hC
      go_wp2_with fail
      refine (distinct_any (some ⟨b1, o1, none⟩) c0 ps _ (h0'.drewN _) l0).mono ?_
      rintro e w1 ⟨⟨B, rfl, hD⟩, n2, rfl⟩
      cases B
      · clear hD
        go_wp2_with fail
        go_ret
        exact ⟨.no rfl, _, rfl⟩
      have hdis := hD rfl
      have HD : Hid (Distinct ps) := hdis
      clear hD hcan hdis
      go_wp2_with fail
      generalize hn : ps.length = n at *
      have HN : Hid (ps.length = n) := hn
      clear hn
      go_loopw [11] (fun i w' => ∃ k m : Nat, k ≤ n ∧ i = .int .i64 k ∧ w' = w.drewN m ∧ ∀ i, i < k → InRuns lo hi (ps.getD i 0)) (fun i _ => n - (intOf i).toNat)
      case atStart => exact ⟨0, _, by omega, rfl, rfl, fun i h => by omega⟩
      case round =>
        obtain ⟨k, m, hk, rfl, rfl, hr⟩ := hrel
        have HR : Hid (∀ i, i < k → InRuns lo hi (ps.getD i 0)) := hr
        clear hr
        by_cases hlt : k < n
        · obtain ⟨x, hx⟩ : ∃ x, x = ps.getD k 0 := ⟨_, rfl⟩
          have c1 := H1.out k hlt
          rw [← hx] at c1
          have HX : Hid (x = ps.getD k 0) := hx
          clear hx
          go_wp2_with fail
          refine (bisect_any a2 a3 c2 c3 lo hi x _ (h2.drewN _) (h3.drewN _) HC.out.1.1 l2).mono ?_
          rintro e w1 ⟨⟨B, rfl, hI⟩, rfl⟩
          cases B
          · clear hI
            go_wp2_with fail
            go_ret
            exact ⟨.no rfl, _, rfl⟩
          have hin := hI rfl
          have HI : Hid (InRuns lo hi x) := hin
          clear hI hin
          go_wp2_with fail
          go_roundw
          case rel =>
            refine ⟨k + 1, _, by omega, by go_num, rfl, fun i h => ?_⟩
            rcases Nat.lt_succ_iff_lt_or_eq.1 h with h | rfl
            · exact HR.out i h
            · rw [← HX.out]; exact HI.out
          case measure => simp [intOf]; omega
        · go_wp2_with fail
          go_ret
          have : k = n := by omega
          subst this
          exact ⟨.yes rfl ⟨HN.out.trans HL.out, HC.out, HD.out, by rw [HN.out]; exact HR.out⟩, _, rfl⟩
  · have hne : ((ps.length : Int) != (ts.length : Int)) = true := by simp; omega
    go_enter Try.func36, Try.ntmps36
    go_wp2
    go_ret
    exact ⟨.no rfl, 0, rfl⟩
end Go.Proofs.Qxb6600404a
