import Derived.Test.Qxb6601170aEdge
import Derived.ProofKit
import Derived.OpenShut
import Derived.ShutString
import Derived.ChangeOld
import Derived.Below
import Derived.Deep.Matrix
namespace Go.Proofs.Qxb6601170a
open Go.ChangeShapes Go.WideShapes Go.ChangeAt Go.RowKit
set_option linter.unusedVariables false

theorem own : ownKnob Try.prog.godebug = none := by kernel_rfl
theorem laidOut : laidOutB Try.prog = true := by kernel_rfl

/-- what the walk is told of a slice of integers that came in -/
def IsRow (k : IntKind) (w : World) (a : Option Addr) (len cap : Nat) (zs : List Int) : Prop :=
  (a = none ∧ len = 0 ∧ cap = 0 ∧ zs = []) ∨
  ∃ x, a = some x ∧ len ≤ cap ∧ cap ≤ maxLen ∧ zs.length = cap ∧ (∀ i, i < zs.length → w.cell? (x.add i) = some (.int k (zs.getD i 0))) ∧ ∀ n ∈ zs, (Lit.int k n).wf = true

theorem take_getD (ps : List Int) (k i : Nat) (h : i < k) : (ps.take k).getD i 0 = ps.getD i 0 := by
  simp [List.getD_eq_getElem?_getD, h]

theorem si_of {k : IntKind} {w : World} {a : Option Addr} {len cap : Nat} {zs : List Int} (h : IsRow k w a len cap zs) : SI k w a (zs.take len) ∧ (zs.take len).length = len ∧ len ≤ maxLen := by
  rcases h with ⟨rfl, rfl, rfl, rfl⟩ | ⟨x, rfl, h1, h2, h3, h4, h5⟩
  · exact ⟨.inl rfl, rfl, Nat.zero_le _⟩
  · refine ⟨?_, by simp; omega, by omega⟩
    by_cases h0 : len = 0
    · subst h0; exact .inl rfl
    obtain ⟨b, off, rfl, hc⟩ := Go.ints_at h4 (by omega)
    refine .inr ⟨b, off, rfl, ?_, fun i hi => ?_⟩
    · have := hc 0 (by omega)
      by_cases hb : b < w.heap.size
      · exact hb
      · simp [World.cell?, hb] at this
    · have hil : i < len := by simp at hi; omega
      rw [hc i (by omega), take_getD _ _ _ hil]

/-- what the walk is told of a slice of slices that came in -/
def IsRows (w : World) (a : Option Addr) (len : Nat) (zss : List (List Int)) : Prop :=
  zss.length = len ∧ len ≤ maxLen ∧ SS w a zss ∧ (a = none → zss = []) ∧ ∀ i, i < zss.length → (zss.getD i []).length ≤ maxLen

theorem ss_of {w : World} {a : Addr} {len cap : Nat} {A : Nat → Option Addr} {L C : Nat → Nat} {Z : Nat → List Int} (hl : len ≤ cap) (hm : cap ≤ maxLen)
    (h : ∀ r, r < cap → w.cell? (a.add r) = some (.slice (A r) (L r) (C r)) ∧ L r ≤ C r ∧ C r ≤ maxLen ∧ (Z r).length = C r ∧ (∀ n ∈ Z r, (Lit.int .i64 n).wf = true) ∧ (A r = none → C r = 0) ∧
      ∀ a', A r = some a' → 0 ≤ a'.block ∧ ∀ c, c < C r → w.cell? (a'.add c) = some (.int .i64 ((Z r).getD c 0))) :
    IsRows w (some a) len ((List.range len).map fun r => (Z r).take (L r)) := by
  have hg : ∀ i, i < len → ((List.range len).map fun r => (Z r).take (L r)).getD i [] = (Z i).take (L i) := fun i hi => by
    simp [List.getD_eq_getElem?_getD, hi]
  have hlen : ((List.range len).map fun r => (Z r).take (L r)).length = len := by simp
  have hrow : ∀ i, i < len → ((Z i).take (L i)).length = L i := fun i hi => by
    obtain ⟨_, h1, _, h3, _⟩ := h i (by omega)
    rw [List.length_take]; omega
  refine ⟨hlen, by omega, ?_, (fun e => by cases e), fun i hi => ?_⟩
  · by_cases h0 : len = 0
    · left; apply List.eq_nil_of_length_eq_zero; rw [hlen]; exact h0
    have hc0 := (h 0 (by omega)).1
    obtain ⟨b, off, spot⟩ := a
    have hspot : spot = none := by simpa [Addr.add] using World.cell?_spot hc0
    subst hspot
    refine .inr ⟨b, off, rfl, ?_, fun i hi => ?_⟩
    · exact World.block_lt_of_cell? w _ hc0
    · rw [hlen] at hi
      obtain ⟨hc, h1, h2, h3, h4, h5, h6⟩ := h i (by omega)
      rw [hg i hi, hrow i hi]
      refine ⟨A i, C i, by rw [← Go.WideShapes.add_plain]; exact hc, ?_⟩
      by_cases hz : L i = 0
      · left; apply List.eq_nil_of_length_eq_zero; rw [hrow i hi]; exact hz
      cases hA : A i with
      | none => have := h5 hA; omega
      | some a' =>
        have hcells := (h6 a' hA).2
        obtain ⟨b', off', rfl, hc'⟩ := Go.ints_at (k := .i64) (zs := Z i) (fun j hj => hcells j (by omega)) (by omega)
        refine .inr ⟨b', off', rfl, World.block_lt_of_cell? w _ (hc' 0 (by omega)), fun j hj => ?_⟩
        rw [hrow i hi] at hj
        rw [hc' j (by omega), take_getD _ _ _ hj]
  · rw [hlen] at hi
    rw [hg i hi, hrow i hi]
    obtain ⟨_, h1, h2, _⟩ := h i (by omega)
    omega
end Go.Proofs.Qxb6601170a
