import Derived.Test.Qxb6600404aRead2
namespace Go.Proofs.Qxb6600404a
open Go.RowKit
set_option linter.unusedVariables false

set_option maxHeartbeats 400000 in
theorem bytes_any (F : Nat) (hF : F = 35 ∨ F = 44) (a0 a1 a2 a3 : Option Addr) (n0 n1 n2 n3 c0 c1 c2 c3 : Nat) (u j : Int) (w : World) (h0 : n0 ≤ maxLen) (h1 : n1 ≤ maxLen) (h2 : n2 ≤ maxLen) (h3 : n3 ≤ maxLen) :
    Calls Try.prog F #[.slice a0 n0 c0, .slice a1 n1 c1, .slice a2 n2 c2, .slice a3 n3 c3, .int .i64 u, .int .i64 j] w fun e w' => RetIf e (n0 + n1 + n2 + n3 ≤ 1048576) ∧ w' = w := by
  unfold maxLen at *
  rcases hF with rfl | rfl
  all_goals
    by_cases q0 : n0 ≤ 1048576
    · by_cases q1 : n1 ≤ 1048576
      · by_cases q2 : n0 + n1 ≤ 1048576
        · by_cases q3 : n2 ≤ 1048576
          · by_cases q4 : n0 + n1 + n2 ≤ 1048576
            · by_cases q5 : n3 ≤ 1048576
              · by_cases q6 : n0 + n1 + n2 + n3 ≤ 1048576
                · first | go_enter Try.func35, Try.ntmps35 | go_enter Try.func44, Try.ntmps44
                  go_wp2
                  go_ret
                  exact ⟨.yes rfl q6, rfl⟩
                · first | go_enter Try.func35, Try.ntmps35 | go_enter Try.func44, Try.ntmps44
                  go_wp2
                  go_ret
                  exact ⟨.no rfl, rfl⟩
              · first | go_enter Try.func35, Try.ntmps35 | go_enter Try.func44, Try.ntmps44
                go_wp2
                go_ret
                exact ⟨.no rfl, rfl⟩
            · first | go_enter Try.func35, Try.ntmps35 | go_enter Try.func44, Try.ntmps44
              go_wp2
              go_ret
              exact ⟨.no rfl, rfl⟩
          · first | go_enter Try.func35, Try.ntmps35 | go_enter Try.func44, Try.ntmps44
            go_wp2
            go_ret
            exact ⟨.no rfl, rfl⟩
        · first | go_enter Try.func35, Try.ntmps35 | go_enter Try.func44, Try.ntmps44
          go_wp2
          go_ret
          exact ⟨.no rfl, rfl⟩
      · first | go_enter Try.func35, Try.ntmps35 | go_enter Try.func44, Try.ntmps44
        go_wp2
        go_ret
        exact ⟨.no rfl, rfl⟩
    · first | go_enter Try.func35, Try.ntmps35 | go_enter Try.func44, Try.ntmps44
      go_wp2
      go_ret
      exact ⟨.no rfl, rfl⟩

def SparseOK (ps ts lo hi : List Int) : Prop := ps.length = ts.length ∧ Canon lo hi ∧ Distinct ps ∧ ∀ i, i < ps.length → InRuns lo hi (ps.getD i 0)

set_option maxHeartbeats 1000000 in
theorem sparseOK_any (a0 a1 a2 a3 : Option Addr) (c0 c1 c2 c3 : Nat) (ps ts lo hi : List Int) (u : Int) (w : World) (h0 : SI .i64 w a0 ps) (h2 : SI .i64 w a2 lo) (h3 : SI .i64 w a3 hi)
    (l0 : ps.length ≤ 2000000) (l2 : lo.length ≤ 2000000) (l3 : hi.length ≤ 2000000) :
    Calls Try.prog 36 #[.slice a0 ps.length c0, .slice a1 ts.length c1, .slice a2 lo.length c2, .slice a3 hi.length c3, .int .i64 u] w fun e w' => RetIf e (SparseOK ps ts lo hi) ∧ ∃ n, w' = w.drewN n := by
  by_cases hlen : ps.length = ts.length
  · have hne : ((ps.length : Int) != (ts.length : Int)) = false := by simp [hlen]
    have HL : Hid (ps.length = ts.length) := hlen
    clear hlen
    have h0' := h0
    rcases h0 with hnil | ⟨b1, o1, ea, hb, h1⟩
    · subst hnil
      have hts : ts = [] := List.length_eq_zero_iff.1 HL.out.symm
      subst hts
      clear HL hne
      go_enter Try.func36, Try.ntmps36
      go_wp2_with fail
      refine (canon_any a2 a3 c2 c3 lo hi u _ h2 h3 l2 l3).mono ?_
      rintro e w1 ⟨⟨B, rfl, hC⟩, n1, rfl⟩
      cases B
      · clear hC
        go_wp2_with fail
        go_ret
        exact ⟨.no rfl, _, rfl⟩
      have hcan := hC rfl
      have HC : Hid (Canon lo hi) := hcan
      clear hC
      go_wp2_with fail
      refine (distinct_any a0 c0 [] _ (h0'.drewN _) l0).mono ?_
      rintro e w1 ⟨⟨B, rfl, hD⟩, n2, rfl⟩
      cases B
      · clear hD
        go_wp2_with fail
        go_ret
        exact ⟨.no rfl, _, rfl⟩
      have hdis := hD rfl
      have HD : Hid (Distinct []) := hdis
      clear hD hcan hdis
      go_wp2_with fail
      refine wp_loop_rounds 1 ?_
      rw [rounds_succ]
      go_wp2
      go_ret
      exact ⟨.yes rfl ⟨rfl, HC.out, HD.out, fun i h => by simp at h⟩, _, rfl⟩
    · subst ea
      have H1 : Hid (∀ i, i < ps.length → w.cell? ⟨b1, o1 + i, none⟩ = some (.int .i64 (ps.getD i 0))) := h1
      clear h1
      go_enter Try.func36, Try.ntmps36
      go_wp2_with fail
      refine (canon_any a2 a3 c2 c3 lo hi u _ h2 h3 l2 l3).mono ?_
      rintro e w1 ⟨⟨B, rfl, hC⟩, n1, rfl⟩
      cases B
      · clear hC
        go_wp2_with fail
        go_ret
        exact ⟨.no rfl, _, rfl⟩
      have hcan := hC rfl
      have HC : Hid (Canon lo hi) := hcan
      clear hC
      go_wp2_with fail
      refine (distinct_any (some ⟨b1, o1, none⟩) c0 ps _ (h0'.drewN _) l0).mono ?_
      rintro e w1 ⟨⟨B, rfl, hD⟩, n2, rfl⟩
      cases B
      · clear hD
        go_wp2_with fail
        go_ret
        exact ⟨.no rfl, _, rfl⟩
      have hdis := hD rfl
      have HD : Hid (Distinct ps) := hdis
      clear hD hcan hdis
      go_wp2_with fail
      generalize hn : ps.length = n at *
      have HN : Hid (ps.length = n) := hn
      clear hn
      go_loopw [11] (fun i w' => ∃ k m : Nat, k ≤ n ∧ i = .int .i64 k ∧ w' = w.drewN m ∧ ∀ i, i < k → InRuns lo hi (ps.getD i 0)) (fun i _ => n - (intOf i).toNat)
      case atStart => exact ⟨0, _, by omega, rfl, rfl, fun i h => by omega⟩
      case round =>
        obtain ⟨k, m, hk, rfl, rfl, hr⟩ := hrel
        have HR : Hid (∀ i, i < k → InRuns lo hi (ps.getD i 0)) := hr
        clear hr
        by_cases hlt : k < n
        · obtain ⟨x, hx⟩ : ∃ x, x = ps.getD k 0 := ⟨_, rfl⟩
          have c1 := H1.out k hlt
          rw [← hx] at c1
          have HX : Hid (x = ps.getD k 0) := hx
          clear hx
          go_wp2_with fail
          refine (bisect_any a2 a3 c2 c3 lo hi x _ (h2.drewN _) (h3.drewN _) HC.out.1 l2).mono ?_
          rintro e w1 ⟨⟨B, rfl, hI⟩, rfl⟩
          cases B
          · clear hI
            go_wp2_with fail
            go_ret
            exact ⟨.no rfl, _, rfl⟩
          have hin := hI rfl
          have HI : Hid (InRuns lo hi x) := hin
          clear hI hin
          go_wp2_with fail
          go_roundw
          case rel =>
            refine ⟨k + 1, _, by omega, by go_num, rfl, fun i h => ?_⟩
            rcases Nat.lt_succ_iff_lt_or_eq.1 h with h | rfl
            · exact HR.out i h
            · rw [← HX.out]; exact HI.out
          case measure => simp [intOf]; omega
        · go_wp2_with fail
          go_ret
          have : k = n := by omega
          subst this
          exact ⟨.yes rfl ⟨HN.out.trans HL.out, HC.out, HD.out, by rw [HN.out]; exact HR.out⟩, _, rfl⟩
  · have hne : ((ps.length : Int) != (ts.length : Int)) = true := by simp; omega
    go_enter Try.func36, Try.ntmps36
    go_wp2
    go_ret
    exact ⟨.no rfl, 0, rfl⟩
end Go.Proofs.Qxb6600404a
