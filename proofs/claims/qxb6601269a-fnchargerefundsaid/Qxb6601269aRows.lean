/-
  NARROWER THAN 'FOR EVERY INPUT', by the rows' own cells (each row's printed sentence says how): FnCostsOfSharedClass: maps.
  DERIVED. THE GIVEN ROWS OF THIS SEAT. 3 by the template 'for every input the law returns true; each argument reads behind the call as it read before'; 0 by the template 'total and deterministic' (their statements: Qxb6601269aTotals.lean).
  GIVEN WITH THE SEED: the statements are not yours to turn. If you find one false, say at which input.
  Laid BY PROGRAM, IN A SANDBOX (cutbox-rows.mjs): the forced cells as the released guide's own fill.sh prints them over the translation ffda5fb62d4a9eec… (all of the seat's roots in one cut). By AI agents, Wed Nov 11 2026. No macro, syntax, notation, axiom, sorry.
-/
import Derived.Test.Qxb6601269aChecked
import GoSem.Claim
import GoSem.ClaimJoined
import GoSem.ClaimMapViews
import Derived.JoinedTies
import Derived.KernelRfl
namespace Go.Proofs.Qxb6601269a
/- THE CELL 'sum', in the pinned program and in every row, IS THE sha256 OF THE DUMP (.gsa) THAT Qxb6601269aProg.lean LOADS. Nothing in Lean hashes anything: it is a label: what it is worth is what the hold of that sum in a sandbox is worth. -/
noncomputable def Try.pinned : Pinned := { name := "qxb6601269a", sum := "ffda5fb62d4a9eecfc013a8a5b132a34c78629052205b502245599bfb890a168", checked := Try.checked }
namespace Rows
def none {H : Type} : Left H := { results := [], args := [] }

/-- 'zzlaws_root_b1.FnChargeRefund': WHATEVER THE INPUT: true; the input reads as it did. -/
def fnChargeRefundSpec : ChangeSpec := { name := "fnChargeRefund", fn := fun _ => fun
  | [d1, d2, d3, d4, d5] => { results := [.lit (.bool true)], args := [d1, d2, d3, d4, d5] }
  | _ => none }
def fnChargeRefundRow : OpenClaim := { program := "qxb6601269a", sum := "ffda5fb62d4a9eecfc013a8a5b132a34c78629052205b502245599bfb890a168", func := "example.com/sluice/sluice/zzlaws_root_b1.FnChargeRefund", spec := "fnChargeRefund", apart := false }
def FnChargeRefundSaid : Prop := fnChargeRefundRow.holds Try.pinned (OpenSpec.ofChange fnChargeRefundSpec)

/-- ITS FALSE NEIGHBOUR: 'it returns false'. Refute it at one input. -/
def fnChargeRefundWrong : ChangeSpec := { name := "fnChargeRefund", fn := fun _ => fun
  | [d1, d2, d3, d4, d5] => { results := [.lit (.bool false)], args := [d1, d2, d3, d4, d5] }
  | _ => none }
def FnChargeRefundWrongFalsely : Prop := fnChargeRefundRow.holds Try.pinned (OpenSpec.ofChange fnChargeRefundWrong)

/-- 'zzlaws_root_b1.FnChargeMonotone': WHATEVER THE INPUT: true; the input reads as it did. -/
def fnChargeMonotoneSpec : ChangeSpec := { name := "fnChargeMonotone", fn := fun _ => fun
  | [d1, d2, d3, d4, d5, d6] => { results := [.lit (.bool true)], args := [d1, d2, d3, d4, d5, d6] }
  | _ => none }
def fnChargeMonotoneRow : OpenClaim := { program := "qxb6601269a", sum := "ffda5fb62d4a9eecfc013a8a5b132a34c78629052205b502245599bfb890a168", func := "example.com/sluice/sluice/zzlaws_root_b1.FnChargeMonotone", spec := "fnChargeMonotone", apart := false }
def FnChargeMonotoneSaid : Prop := fnChargeMonotoneRow.holds Try.pinned (OpenSpec.ofChange fnChargeMonotoneSpec)

/-- ITS FALSE NEIGHBOUR: 'it returns false'. Refute it at one input. -/
def fnChargeMonotoneWrong : ChangeSpec := { name := "fnChargeMonotone", fn := fun _ => fun
  | [d1, d2, d3, d4, d5, d6] => { results := [.lit (.bool false)], args := [d1, d2, d3, d4, d5, d6] }
  | _ => none }
def FnChargeMonotoneWrongFalsely : Prop := fnChargeMonotoneRow.holds Try.pinned (OpenSpec.ofChange fnChargeMonotoneWrong)

/-- 'zzlaws_root_b1.FnCostsOfSharedClass': WHATEVER THE INPUT: true; the input reads as it did. -/
def fnCostsOfSharedClassSpec : ChangeSpec := { name := "fnCostsOfSharedClass", fn := fun _ => fun
  | [d1, d2, d3] => { results := [.lit (.bool true)], args := [d1, d2, d3] }
  | _ => none }
def fnCostsOfSharedClassRow : OpenClaim := { program := "qxb6601269a", sum := "ffda5fb62d4a9eecfc013a8a5b132a34c78629052205b502245599bfb890a168", func := "example.com/sluice/sluice/zzlaws_root_b1.FnCostsOfSharedClass", spec := "fnCostsOfSharedClass", maps := true, apart := false }
def FnCostsOfSharedClassSaid : Prop := fnCostsOfSharedClassRow.holds Try.pinned (OpenSpec.ofChange fnCostsOfSharedClassSpec)

/-- ITS FALSE NEIGHBOUR: 'it returns false'. Refute it at one input. -/
def fnCostsOfSharedClassWrong : ChangeSpec := { name := "fnCostsOfSharedClass", fn := fun _ => fun
  | [d1, d2, d3] => { results := [.lit (.bool false)], args := [d1, d2, d3] }
  | _ => none }
def FnCostsOfSharedClassWrongFalsely : Prop := fnCostsOfSharedClassRow.holds Try.pinned (OpenSpec.ofChange fnCostsOfSharedClassWrong)

end Rows
end Go.Proofs.Qxb6601269a
