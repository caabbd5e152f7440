import Derived.Test.Qxb6601269aRows
import Derived.WalkKit
import Derived.ProofKit
import Derived.OpenShut
import Derived.ShutString
import Derived.ChangeOld
import Derived.Below
import Derived.Test.Qxb6601269aLaw
namespace Go.Proofs.Qxb6601269a.fnChargeRefund
open Go.ChangeShapes Go.WideShapes Go.ChangeAt Go.RowKit
set_option linter.unusedVariables false

theorem own : ownKnob Try.prog.godebug = none := by kernel_rfl
theorem laidOut : laidOutB Try.prog = true := by kernel_rfl

/-- A struct of the eight integers, opened. -/
theorem open24 {H : Type} {enc : TypeId × Value → H} {w : World} {base : Nat} {sp : Nat → Bool} {held : Bool} {fuel : Nat} {cs : List Value} {x : DataW H × List MemPlace} (hlen : cs.length = 8)
    (hy : DataW.trod enc Try.prog w base sp held fuel 24 cs = some x) :
    ∃ t0 t1 t2 d r1 r2 full bs : Int, cs = [.int .i64 t0, .int .u64 t1, .int .u8 t2, .int .i64 d, .int .u64 r1, .int .u8 r2, .int .i64 full, .int .i64 bs] := by
  have hc2 : Try.prog.cellsOf 2 = 1 := by kernel_rfl
  have hc22 : Try.prog.cellsOf 22 = 1 := by kernel_rfl
  have hc5 : Try.prog.cellsOf 5 = 1 := by kernel_rfl
  obtain ⟨ys, m, _, rfl, _, hl, hf⟩ := DataW.trod_struct Try.underlying24 hy
  match cs, hlen with
  | [c0, c1, c2, c3, c4, c5, c6, c7], _ =>
    match ys, hl with
    | [y0, y1, y2, y3, y4, y5, y6, y7], _ =>
      have h0 := hf 0 _ rfl
      have h1 := hf 1 _ rfl
      have h2 := hf 2 _ rfl
      have h3 := hf 3 _ rfl
      have h4 := hf 4 _ rfl
      have h5 := hf 5 _ rfl
      have h6 := hf 6 _ rfl
      have h7 := hf 7 _ rfl
      simp [hc2, hc22, hc5] at h0 h1 h2 h3 h4 h5 h6 h7
      obtain ⟨t0, e0, rfl, _⟩ := DataW.trod_int Try.underlying2 h0
      obtain ⟨t1, e1, rfl, _⟩ := DataW.trod_int Try.underlying22 h1
      obtain ⟨t2, e2, rfl, _⟩ := DataW.trod_int Try.underlying5 h2
      obtain ⟨t3, e3, rfl, _⟩ := DataW.trod_int Try.underlying2 h3
      obtain ⟨t4, e4, rfl, _⟩ := DataW.trod_int Try.underlying22 h4
      obtain ⟨t5, e5, rfl, _⟩ := DataW.trod_int Try.underlying5 h5
      obtain ⟨t6, e6, rfl, _⟩ := DataW.trod_int Try.underlying2 h6
      obtain ⟨t7, e7, rfl, _⟩ := DataW.trod_int Try.underlying2 h7
      simp at e0 e1 e2 e3 e4 e5 e6 e7
      subst e0 e1 e2 e3 e4 e5 e6 e7
      exact ⟨t0, t1, t2, t3, t4, t5, t6, t7, rfl⟩

set_option maxRecDepth 100000 in
theorem lifted (os : Os) (started : os.Started) (H : Type) (enc : TypeId × Value → H) :
    ReturnsInHanded {} Try.checked os 3 .any (Rows.fnChargeRefundSpec.pre6 enc Try.prog Try.f3 Rows.fnChargeRefundRow.domain false) (Rows.fnChargeRefundSpec.post enc Try.prog Try.f3 false true false false) := by
  refine returnsInHanded_of_change (C := Try.checked) own started (by kernel_rfl) Try.func3
    (ChangeSpec.witness6 (enc := enc) (C := Try.checked) false ⟨#[], #[.agg #[.int .i64 0, .int .u64 0, .int .u8 0, .int .i64 0, .int .u64 0, .int .u8 0, .int .i64 0, .int .i64 0], .int .i64 0, .int .i64 0, .int .i64 0, .int .i64 0], []⟩ 8 (by kernel_rfl) (by kernel_rfl) (by kernel_rfl) (by kernel_rfl)) ?_
  intro W base args ds gs before hval0 hW hcnd _
  have hval : ∀ (j : Nat) t v, Try.f3.params[j]? = some t → args[j]? = some v → Value.okWide Try.prog W .any base t v := hval0
  have hW' := hW
  obtain ⟨p, q, hA0, hV, rfl, hfz, hnd⟩ := hW
  have hA : DataW.TrodAll enc Try.prog W 0 (fun _ => true) true Try.f3.params.toList args.toList ds p := hA0
  rw [Try.params3] at hA hval
  obtain ⟨v0, vs0, d0, ds0, p0, q0, hargs, rfl, rfl, h0, r0⟩ := trodAll_cons hA
  obtain ⟨v1, vs1, d1, ds1, p1, q1, rfl, rfl, rfl, h1, r1⟩ := trodAll_cons r0
  obtain ⟨v2, vs2, d2, ds2, p2, q2, rfl, rfl, rfl, h2, r2⟩ := trodAll_cons r1
  obtain ⟨v3, vs3, d3, ds3, p3, q3, rfl, rfl, rfl, h3, r3⟩ := trodAll_cons r2
  obtain ⟨v4, vs4, d4, ds4, p4, q4, rfl, rfl, rfl, h4, r4⟩ := trodAll_cons r3
  obtain ⟨rfl, rfl, rfl⟩ := trodAll_nil r4
  obtain rfl : args = #[v0, v1, v2, v3, v4] := by cases args; simp_all
  obtain ⟨rfl, rfl⟩ := trodVars_none hV
  obtain ⟨cs, rfl, hcs⟩ := okWide_struct Try.underlying24 (hval 0 24 v0 rfl rfl)
  have k0 := h0
  have lt0 : ∀ x ∈ p0, x.block < W.heap.size := by obtain ⟨m, hm⟩ := k0; exact DataW.trod_lt m _ _ _ hm
  obtain ⟨t0, t1, t2, d, r1', r2', full, bs, hcs'⟩ : ∃ t0 t1 t2 d r1 r2 full bs : Int, cs = #[.int .i64 t0, .int .u64 t1, .int .u8 t2, .int .i64 d, .int .u64 r1, .int .u8 r2, .int .i64 full, .int .i64 bs] := by
    obtain ⟨fuel, hf⟩ := h0
    have hc24 : Try.prog.cellsOf 24 = 8 := by kernel_rfl
    rw [hc24] at hcs
    obtain ⟨t0, t1, t2, d, r1', r2', full, bs, he⟩ := open24 (cs := cs.toList) (by simpa using hcs) hf
    exact ⟨t0, t1, t2, d, r1', r2', full, bs, by cases cs; simp at he; simp [he]⟩
  subst hcs'
  obtain ⟨a1, rfl, rfl, rfl, w1⟩ := open_int Try.underlying2 (hval 1 2 v1 rfl rfl) h1
  obtain ⟨a2, rfl, rfl, rfl, w2⟩ := open_int Try.underlying2 (hval 2 2 v2 rfl rfl) h2
  obtain ⟨a3, rfl, rfl, rfl, w3⟩ := open_int Try.underlying2 (hval 3 2 v3 rfl rfl) h3
  obtain ⟨a4, rfl, rfl, rfl, w4⟩ := open_int Try.underlying2 (hval 4 2 v4 rfl rfl) h4
  clear hA0 hval0
  refine (law3 t0 d full bs a1 a2 a3 a4 t1 r1' t2 r2' W w1 w3).mono fun e W' ⟨he, bel⟩ => ?_
  subst he
  exact ⟨_, rfl, _, _, _, [], _, [], hW', trodAll_mk1 (shut_bool Try.underlying4 _), (trodAll_cons_mk (Below.trod laidOut (by kernel_rfl) (of_decide_eq_true (by kernel_rfl)) k0 bel lt0) (trodAll_cons_mk (shut_int Try.underlying2 w1) (trodAll_cons_mk (shut_int Try.underlying2 w2) (trodAll_cons_mk (shut_int Try.underlying2 w3) (trodAll_cons_mk (shut_int Try.underlying2 w4) trodAll_mk0))))), rfl, bel.frame _, fun h => by cases h⟩

theorem over : Rows.fnChargeRefundRow.holds Try.pinned (OpenSpec.ofChange Rows.fnChargeRefundSpec) :=
  OpenClaim.holds_of_wide 3 Try.f3 rfl rfl rfl rfl rfl rfl rfl ⟨rfl, rfl, rfl, rfl, rfl⟩ rfl rfl rfl rfl rfl (by kernel_rfl) Try.func3 (by kernel_rfl)
    (of_decide_eq_true (by kernel_rfl)) (by unfold Func.isWrapper; first | (rw [if_pos (by decide +kernel)]; kernel_rfl) | (rw [if_neg (by decide +kernel)]; exact ⟨rfl, rfl⟩))
    (fun os started H enc _ => lifted os started H enc)

/-- THE STATEMENT -/
theorem proved : Rows.FnChargeRefundSaid := over
end Go.Proofs.Qxb6601269a.fnChargeRefund
