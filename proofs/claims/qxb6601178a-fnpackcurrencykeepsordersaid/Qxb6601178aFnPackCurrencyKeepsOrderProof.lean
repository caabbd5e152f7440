/- The proof of 'Rows.FnPackCurrencyKeepsOrderSaid'. The frame was written by program (proof-skeleton.mjs); the walk is this seat's. -/
import Derived.Test.Qxb6601178aRows
import Derived.Test.Qxb6601178aPack
import Derived.WalkKit
import Derived.ProofKit
import Derived.OpenShut
import Derived.ShutString
namespace Go.Proofs.Qxb6601178a.fnPackCurrencyKeepsOrder
open Go.ChangeShapes Go.WideShapes Go.ChangeAt Go.RowKit
open Go.ChangeMaps (open_string shut_string)
set_option linter.unusedVariables false      -- a walk need not use every 'w<i>' (that an integer argument fits its kind)

theorem own : ownKnob Try.prog.godebug = none := by kernel_rfl

/-! ### STEP 1: THE WALK: the Go text returns true. 'Grown w w'': the world has at most new blocks (Derived/RowKit3.lean). Part the cases AHEAD of 'go_enter' where a test parts the walk; take each callee by a contract of your own. -/
theorem grown_n (w : World) (n : Nat) : Grown w (w.drewN n) := Grown.refl w
set_option maxHeartbeats 400000 in
theorem walk (a0 : ByteArray) (a1 : ByteArray) (w0 : a0.size ≤ maxLen) (w1 : a1.size ≤ maxLen) (w : World) :
    Calls Try.prog 5 #[.string a0, .string a1] w fun e w' => e = .returned (.bool true) ∧ Grown w w' := by
  by_cases hsum : a0.size + a1.size ≤ 1048576
  · have hd := decide_eq_true hsum
    have HD : Hid (decide (a0.size + a1.size ≤ 1048576) = true) := hd
    clear hd
    have s0 : a0.size ≤ 1048576 := by omega
    have s1 : a1.size ≤ 1048576 := by omega
    by_cases ha : a0.size = 0 ∨ isCodeB a0 = true
    · have HA : Hid (a0.size = 0 ∨ isCodeB a0 = true) := ha
      clear ha
      by_cases hb : a1.size = 0 ∨ isCodeB a1 = true
      · obtain ⟨k1, k2, ⟨k3, k4⟩, k5, k6⟩ := keeps a0 a1 HA.out hb
        have K1 : Hid (lessAt a0 a1 0 = decide (pkv a0 < pkv a1)) := k1
        have K2 : Hid ((a0.toList == a1.toList) = (pkv a0 == pkv a1)) := k2
        have HB : Hid (a1.size = 0 ∨ isCodeB a1 = true) := hb
        clear k1 k2 hb hsum
        by_cases za : a0.size = 0
        · by_cases zb : a1.size = 0
          · go_enter Try.func5, Try.ntmps5
            go_wp2_with fail
            refine (bytes_any a0 a1 w w0 w1).mono ?_
            rintro e w' ⟨rfl, rfl⟩
            rw [HD.out]
            go_wp2_with fail
            refine (zpack_any a0 _ HA.out).mono ?_
            rintro e w' ⟨rfl, rfl⟩
            go_wp2_with fail
            refine (zpack_any a1 _ HB.out).mono ?_
            rintro e w' ⟨rfl, rfl⟩
            go_wp2_with fail
            refine (less_any a0 a1 _ s0 s1).mono ?_
            rintro e w1 ⟨rfl, n, rfl⟩
            rw [K1.out]
            go_wp2_with fail
            go_ret
            exact ⟨ret_bool (by rw [K2.out]; simp), grown_n _ _⟩
          · have CB : Hid (isCodeB a1 = true) := by rcases HB.out with h | h; exact absurd h zb; exact h
            go_enter Try.func5, Try.ntmps5
            go_wp2_with fail
            refine (bytes_any a0 a1 w w0 w1).mono ?_
            rintro e w' ⟨rfl, rfl⟩
            rw [HD.out]
            go_wp2_with fail
            refine (isCode_any a1 _).mono ?_
            rintro e w' ⟨rfl, rfl⟩
            rw [CB.out]
            go_wp2_with fail
            refine (zpack_any a0 _ HA.out).mono ?_
            rintro e w' ⟨rfl, rfl⟩
            go_wp2_with fail
            refine (zpack_any a1 _ HB.out).mono ?_
            rintro e w' ⟨rfl, rfl⟩
            go_wp2_with fail
            refine (less_any a0 a1 _ s0 s1).mono ?_
            rintro e w1 ⟨rfl, n, rfl⟩
            rw [K1.out]
            go_wp2_with fail
            go_ret
            exact ⟨ret_bool (by rw [K2.out]; simp), grown_n _ _⟩
        · by_cases zb : a1.size = 0
          · have CA : Hid (isCodeB a0 = true) := by rcases HA.out with h | h; exact absurd h za; exact h
            go_enter Try.func5, Try.ntmps5
            go_wp2_with fail
            refine (bytes_any a0 a1 w w0 w1).mono ?_
            rintro e w' ⟨rfl, rfl⟩
            rw [HD.out]
            go_wp2_with fail
            refine (isCode_any a0 _).mono ?_
            rintro e w' ⟨rfl, rfl⟩
            rw [CA.out]
            go_wp2_with fail
            refine (zpack_any a0 _ HA.out).mono ?_
            rintro e w' ⟨rfl, rfl⟩
            go_wp2_with fail
            refine (zpack_any a1 _ HB.out).mono ?_
            rintro e w' ⟨rfl, rfl⟩
            go_wp2_with fail
            refine (less_any a0 a1 _ s0 s1).mono ?_
            rintro e w1 ⟨rfl, n, rfl⟩
            rw [K1.out]
            go_wp2_with fail
            go_ret
            exact ⟨ret_bool (by rw [K2.out]; simp), grown_n _ _⟩
          · have CA : Hid (isCodeB a0 = true) := by rcases HA.out with h | h; exact absurd h za; exact h
            have CB : Hid (isCodeB a1 = true) := by rcases HB.out with h | h; exact absurd h zb; exact h
            go_enter Try.func5, Try.ntmps5
            go_wp2_with fail
            refine (bytes_any a0 a1 w w0 w1).mono ?_
            rintro e w' ⟨rfl, rfl⟩
            rw [HD.out]
            go_wp2_with fail
            refine (isCode_any a0 _).mono ?_
            rintro e w' ⟨rfl, rfl⟩
            rw [CA.out]
            go_wp2_with fail
            refine (isCode_any a1 _).mono ?_
            rintro e w' ⟨rfl, rfl⟩
            rw [CB.out]
            go_wp2_with fail
            refine (zpack_any a0 _ HA.out).mono ?_
            rintro e w' ⟨rfl, rfl⟩
            go_wp2_with fail
            refine (zpack_any a1 _ HB.out).mono ?_
            rintro e w' ⟨rfl, rfl⟩
            go_wp2_with fail
            refine (less_any a0 a1 _ s0 s1).mono ?_
            rintro e w1 ⟨rfl, n, rfl⟩
            rw [K1.out]
            go_wp2_with fail
            go_ret
            exact ⟨ret_bool (by rw [K2.out]; simp), grown_n _ _⟩
      · have zb : ¬ a1.size = 0 := fun h => hb (.inl h)
        have CB : Hid (isCodeB a1 = false) := by cases h : isCodeB a1; rfl; exact absurd (.inr h) hb
        clear hb hsum
        by_cases za : a0.size = 0
        · go_enter Try.func5, Try.ntmps5
          go_wp2_with fail
          refine (bytes_any a0 a1 w w0 w1).mono ?_
          rintro e w' ⟨rfl, rfl⟩
          rw [HD.out]
          go_wp2_with fail
          refine (isCode_any a1 _).mono ?_
          rintro e w' ⟨rfl, rfl⟩
          rw [CB.out]
          go_wp2_with fail
          go_ret
          exact ⟨rfl, Grown.refl _⟩
        · have CA : Hid (isCodeB a0 = true) := by rcases HA.out with h | h; exact absurd h za; exact h
          go_enter Try.func5, Try.ntmps5
          go_wp2_with fail
          refine (bytes_any a0 a1 w w0 w1).mono ?_
          rintro e w' ⟨rfl, rfl⟩
          rw [HD.out]
          go_wp2_with fail
          refine (isCode_any a0 _).mono ?_
          rintro e w' ⟨rfl, rfl⟩
          rw [CA.out]
          go_wp2_with fail
          refine (isCode_any a1 _).mono ?_
          rintro e w' ⟨rfl, rfl⟩
          rw [CB.out]
          go_wp2_with fail
          go_ret
          exact ⟨rfl, Grown.refl _⟩
    · have za : ¬ a0.size = 0 := fun h => ha (.inl h)
      have CA : Hid (isCodeB a0 = false) := by cases h : isCodeB a0; rfl; exact absurd (.inr h) ha
      clear ha hsum
      go_enter Try.func5, Try.ntmps5
      go_wp2_with fail
      refine (bytes_any a0 a1 w w0 w1).mono ?_
      rintro e w' ⟨rfl, rfl⟩
      rw [HD.out]
      go_wp2_with fail
      refine (isCode_any a0 _).mono ?_
      rintro e w' ⟨rfl, rfl⟩
      rw [CA.out]
      go_wp2_with fail
      go_ret
      exact ⟨rfl, Grown.refl _⟩
  · have hd := decide_eq_false hsum
    go_enter Try.func5, Try.ntmps5
    go_wp2_with fail
    refine (bytes_any a0 a1 w w0 w1).mono ?_
    rintro e w' ⟨rfl, rfl⟩
    rw [hd]
    go_wp2
    go_ret
    exact ⟨rfl, Grown.refl _⟩

/-! ### THE ROW's STEP: WRITTEN OUT: LEAVE IT -/
set_option maxRecDepth 100000 in
theorem lifted (os : Os) (started : os.Started) (H : Type) (enc : TypeId × Value → H) :
    ReturnsInHanded {} Try.checked os 5 .any (Rows.fnPackCurrencyKeepsOrderSpec.pre6 enc Try.prog Try.f5 Rows.fnPackCurrencyKeepsOrderRow.domain false) (Rows.fnPackCurrencyKeepsOrderSpec.post enc Try.prog Try.f5 false true false false) := by
  refine returnsInHanded_of_change (C := Try.checked) own started (by kernel_rfl) Try.func5
    (ChangeSpec.witness6 (enc := enc) (C := Try.checked) false ⟨#[], #[.string ByteArray.empty, .string ByteArray.empty], []⟩ 8 (by kernel_rfl) (by kernel_rfl) (by kernel_rfl) (by kernel_rfl)) ?_
  intro W base args ds gs before hval0 hW hcnd _
  have hval : ∀ (j : Nat) t v, Try.f5.params[j]? = some t → args[j]? = some v → Value.okWide Try.prog W .any base t v := hval0
  have hW' := hW
  obtain ⟨p, q, hA0, hV, rfl, hfz, hnd⟩ := hW
  have hA : DataW.TrodAll enc Try.prog W 0 (fun _ => true) true Try.f5.params.toList args.toList ds p := hA0
  rw [Try.params5] at hA hval
  obtain ⟨v0, vs0, d0, ds0, p0, q0, hargs, rfl, rfl, h0, r0⟩ := trodAll_cons hA
  obtain ⟨v1, vs1, d1, ds1, p1, q1, rfl, rfl, rfl, h1, r1⟩ := trodAll_cons r0
  obtain ⟨rfl, rfl, rfl⟩ := trodAll_nil r1
  obtain rfl : args = #[v0, v1] := by cases args; simp_all
  obtain ⟨rfl, rfl⟩ := trodVars_none hV
  obtain ⟨a0, rfl, rfl, rfl, w0⟩ := open_string Try.underlying9 (hval 0 9 v0 rfl rfl) h0
  obtain ⟨a1, rfl, rfl, rfl, w1⟩ := open_string Try.underlying9 (hval 1 9 v1 rfl rfl) h1
  clear hA0 hval0
  simp only [List.append_nil] at hW'
  refine (walk a0 a1 w0 w1 W).mono fun e W' ⟨he, hg⟩ => ?_
  subst he
  exact ⟨_, rfl, post_of_same (pa := []) (pv := []) hW' (fun _ _ _ => (trodAll_cons_mk (shut_bool Try.underlying4 _) trodAll_mk0)) (fun sp _ => (trodAll_cons_mk (shut_string Try.underlying9 w0) (trodAll_cons_mk (shut_string Try.underlying9 w1) trodAll_mk0))) (fun _ _ => rfl) rfl
    (hg.frame _) hg.2.1 (ok_one (by kernel_rfl) rfl (okWide_bool_mk Try.underlying4 _))⟩

theorem over : Rows.fnPackCurrencyKeepsOrderRow.holds Try.pinned (OpenSpec.ofChange Rows.fnPackCurrencyKeepsOrderSpec) :=
  OpenClaim.holds_of_wide 5 Try.f5 rfl rfl rfl rfl rfl rfl rfl ⟨rfl, rfl, rfl, rfl, rfl⟩ rfl rfl rfl rfl rfl (by kernel_rfl) Try.func5 (by kernel_rfl)
    (of_decide_eq_true (by kernel_rfl)) (by unfold Func.isWrapper; first | (rw [if_pos (by decide +kernel)]; kernel_rfl) | (rw [if_neg (by decide +kernel)]; exact ⟨rfl, rfl⟩))
    (fun os started H enc _ => lifted os started H enc)

/-- ████ THE STATEMENT ████ -/
theorem proved : Rows.FnPackCurrencyKeepsOrderSaid :=
  over
end Go.Proofs.Qxb6601178a.fnPackCurrencyKeepsOrder
