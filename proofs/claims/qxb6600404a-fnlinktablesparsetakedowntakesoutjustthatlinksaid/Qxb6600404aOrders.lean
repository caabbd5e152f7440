import Derived.Test.Qxb6600404aGet
import Derived.OrdersHeld
namespace Go.Proofs.Qxb6600404a
open Go Go.RowKit
set_option linter.unusedVariables false

/-! A region that draws its order, with a tail that waits for all the rest: the laws of Derived/OrdersHeld.lean ('S' behind every operation), S asked for only till the tail begins. -/
section
variable {P : Program} {ops : Array Oper} {Q : Exit → Act → World → Prop} {md : Region.Mode} {S : World → Prop} {T : Array Bool → Prop}

/-- whatever order is picked; 'S' holds behind every operation till the tail 'T' is reached -/
def wpAnyT (P : Program) (md : Region.Mode) (ops : Array Oper) (Q : Exit → Act → World → Prop) (S : World → Prop) (T : Array Bool → Prop) : Nat → Array Bool → Act → World → Prop
  | 0, listed, a, w => Region.ready md ops listed = [] ∧ Q .normal a w
  | fuel + 1, listed, a, w =>
    (Region.ready md ops listed = [] → Q .normal a w) ∧
    ∀ i ∈ Region.ready md ops listed, wpOp P ops Q i (fun a' w' => (T listed ∨ S w') ∧ wpAnyT P md ops Q S T fuel (listed.setIfInBounds i true) a' w') a w

theorem wpAny_of_T : ∀ (fuel : Nat) (listed : Array Bool) (a : Act) (w : World), wpAnyT P md ops Q S T fuel listed a w → wpAny P md ops Q fuel listed a w
  | 0, _, _, _, h => h
  | fuel + 1, _, _, _, h => ⟨h.1, fun i hi => wpOp_mono (fun a' w' h' => wpAny_of_T fuel _ a' w' h'.2) (h.2 i hi)⟩

theorem wpAnyT_tail (hT : ∀ listed i, T listed → T (listed.setIfInBounds i true)) : ∀ (fuel : Nat) (listed : Array Bool) (a : Act) (w : World), T listed → wpAny P md ops Q fuel listed a w → wpAnyT P md ops Q S T fuel listed a w
  | 0, _, _, _, _, h => h
  | fuel + 1, listed, _, _, ht, h => ⟨h.1, fun i hi => wpOp_mono (fun a' w' h' => ⟨.inl ht, wpAnyT_tail hT fuel _ a' w' (hT listed i ht) h'⟩) (h.2 i hi)⟩

theorem wpAnyT_first {i : Nat} {oi : Oper} {v : Value} (hi : ops[i]? = some oi) (hsel : ∀ (j : Nat) (o : Oper) cs b, ops[j]? = some o → o.op ≠ .select cs b)
    (hQ : ∀ c a w, Q (.panic c) (a.put oi.dst v) w → Q (.panic c) a w)
    (hT : ∀ listed, T (listed.setIfInBounds i true) → i ∈ Region.ready md ops listed → ∀ j ∈ Region.ready md ops listed, j = i) :
    ∀ (fuel : Nat) (listed : Array Bool) (a : Act) (w : World),
      (∀ j oj, ops[j]? = some oj → j ≠ i → listed.getD j true = false → (∀ e ∈ oj.after, Region.binds md e = true → e.on ≠ i) → oi.apart ops oj = true) →
      i ∈ Region.ready md ops listed → YieldsIf P ops S oi v a → S w →
      wpAnyT P md ops Q S T fuel (listed.setIfInBounds i true) (a.put oi.dst v) w → wpAnyT P md ops Q S T (fuel + 1) listed a w := by
  intro fuel
  induction fuel with
  | zero =>
    intro listed a w _ hr hy hS H
    refine ⟨fun h => (by rw [h] at hr; cases hr), fun j hj => ?_⟩
    by_cases hji : j = i
    · subst hji; exact hy.wpOp hi hS ⟨.inr hS, H⟩
    · have := ready_mono hj hji
      rw [H.1] at this
      cases this
  | succ fuel ih =>
    intro listed a w hfree hr hy hS H
    refine ⟨fun h => (by rw [h] at hr; cases hr), fun j hj => ?_⟩
    by_cases hji : j = i
    · subst hji; exact hy.wpOp hi hS ⟨.inr hS, H⟩
    · have h1 := H.2 j (ready_mono hj hji)
      have hnoT : ¬ T (listed.setIfInBounds i true) := fun ht => hji (hT listed ht hr j hj)
      obtain ⟨hjun, oj, hoj, hall⟩ := mem_ready.1 hj
      have hnot : ∀ e ∈ oj.after, Region.binds md e = true → e.on ≠ i := fun e he hb heq => by
        have h1 := hall e he hb
        have h0 := (mem_ready.1 hr).1
        rw [heq] at h1
        rcases Nat.lt_or_ge i listed.size with h' | h'
        · simp [h'] at h0 h1; rw [h0] at h1; cases h1
        · simp [Array.getElem?_eq_none h'] at h1
      have h2 := wpOp_putIf hoj (hfree j oj hoj hji hjun hnot) (fun cs b => hsel i oi cs b hi) (fun cs b => hsel j oj cs b hoj) hQ hy h1
      have hfree' : ∀ k ok, ops[k]? = some ok → k ≠ i → (listed.setIfInBounds j true).getD k true = false →
          (∀ e ∈ ok.after, Region.binds md e = true → e.on ≠ i) → oi.apart ops ok = true := fun k ok hk hki hun hno => by
        refine hfree k ok hk hki ?_ hno
        by_cases hjk : j = k
        · subst hjk; exact hjun
        · rw [getD_set_ne true hjk] at hun; exact hun
      refine wpOp_mono (fun a' w' h3 => ?_) h2
      have hS' : S w' := h3.2.1.resolve_left hnoT
      refine ⟨.inr hS', ih (listed.setIfInBounds j true) a' w' hfree' (ready_mono hr (Ne.symm hji)) h3.1 hS' ?_⟩
      rw [Array.setIfInBounds_comm _ _ hji]
      exact h3.2.2

/-- the tail begins when the listed numbers have all come up -/
def allUp (pre : List Nat) (listed : Array Bool) : Prop := ∀ p ∈ pre, listed.getD p false = true
theorem allUp_mono (pre : List Nat) (listed : Array Bool) (i : Nat) (h : allUp pre listed) : allUp pre (listed.setIfInBounds i true) := fun p hp => getD_set_true (h p hp)
/-- every operation that is not of 'pre' waits for number i -/
def waits (md : Region.Mode) (ops : Array Oper) (pre : List Nat) (i : Nat) : Bool :=
  pre.contains i && (List.range ops.size).all fun j => pre.contains j || match ops[j]? with
    | some oj => oj.after.any fun e => Region.binds md e && e.on == i
    | none => true
theorem waits_spec {pre : List Nat} {i : Nat} (h : waits md ops pre i = true) (listed : Array Bool) (ht : allUp pre (listed.setIfInBounds i true)) (hr : i ∈ Region.ready md ops listed) (j : Nat) (hj : j ∈ Region.ready md ops listed) : j = i := by
  by_cases hji : j = i
  · exact hji
  exfalso
  simp only [waits, Bool.and_eq_true, List.all_eq_true, List.mem_range] at h
  obtain ⟨hjun, oj, hoj, hall⟩ := mem_ready.1 hj
  obtain ⟨hiun, _⟩ := mem_ready.1 hr
  have hlt : j < ops.size := (Array.getElem?_eq_some_iff.1 hoj).1
  have hn : ∀ q, listed.getD q true = false → listed.getD q false = false := fun q hq => by
    rcases Nat.lt_or_ge q listed.size with h' | h'
    · simp [h'] at hq ⊢; exact hq
    · simp [Array.getElem?_eq_none h'] at hq
  have h2 := h.2 j hlt
  rw [Bool.or_eq_true] at h2
  rcases h2 with h2 | h2
  · have h3 := ht j (by simpa using h2)
    rw [getD_set_ne false (Ne.symm hji), hn j hjun] at h3
    cases h3
  · rw [hoj] at h2
    obtain ⟨e, he, hb⟩ := Array.any_eq_true'.1 h2
    rw [Bool.and_eq_true, beq_iff_eq] at hb
    have h3 := hall e he hb.1
    rw [hb.2, hn i hiun] at h3
    cases h3

theorem wpAnyT_take {pre : List Nat} {i : Nat} {oi : Oper} {v : Value} {fuel : Nat} {listed : Array Bool} {a : Act} {w : World} (hi : ops[i]? = some oi)
    (hs : Region.noSelect ops = true) (hf : Region.free md ops listed i = true) (hr : (Region.ready md ops listed).contains i = true) (hw : waits md ops pre i = true)
    (hQ : ∀ c a w, Q (.panic c) (a.put oi.dst v) w → Q (.panic c) a w) (hy : YieldsIf P ops S oi v a) (hS : S w)
    (h : wpAnyT P md ops Q S (allUp pre) fuel (listed.setIfInBounds i true) (a.put oi.dst v) w) : wpAnyT P md ops Q S (allUp pre) (fuel + 1) listed a w :=
  wpAnyT_first hi (Region.noSelect_spec hs) hQ (waits_spec hw) fuel listed a w (Region.free_spec hi hf) (by simpa using hr) hy hS h

def AllT (P : Program) (md : Region.Mode) (ops : Array Oper) (Q : Exit → Act → World → Prop) (S : World → Prop) (T : Array Bool → Prop) (fuel : Nat) (listed : Array Bool) (a : Act) (w : World) (rs : List Nat) : Prop :=
  ∀ i ∈ rs, wpOp P ops Q i (fun a' w' => (T listed ∨ S w') ∧ wpAnyT P md ops Q S T fuel (listed.setIfInBounds i true) a' w') a w
theorem wpAnyT_all {rs : List Nat} {fuel : Nat} {listed : Array Bool} {a : Act} {w : World} (hr : Region.ready md ops listed = rs) (hne : rs ≠ [])
    (h : AllT P md ops Q S T fuel listed a w rs) : wpAnyT P md ops Q S T (fuel + 1) listed a w :=
  ⟨fun h0 => absurd (hr ▸ h0) hne, hr ▸ h⟩
theorem AllT.nil {fuel : Nat} {listed : Array Bool} {a : Act} {w : World} : AllT P md ops Q S T fuel listed a w [] := fun _ h => by cases h
theorem AllT.cons {fuel : Nat} {listed : Array Bool} {a : Act} {w : World} {i : Nat} {o : Oper} {rs : List Nat} (ho : ops[i]? = some o) (hg : o.guard = none)
    (h : ∀ K : Act → World → Prop, (∀ a' w', S w' → wpAnyT P md ops Q S T fuel (listed.setIfInBounds i true) a' w' → K a' w') → o.wp P a w K Q)
    (more : AllT P md ops Q S T fuel listed a w rs) : AllT P md ops Q S T fuel listed a w (i :: rs) := fun j hj => by
  rcases List.mem_cons.1 hj with rfl | hj
  · unfold wpOp
    have hw : Region.wanted o (yielded ops a.tmps) = true := by simp [Region.wanted, hg]
    simp only [ho, hw, if_true]
    exact .inl (h _ fun a' w' hS h' => ⟨.inr hS, h'⟩)
  · exact more j hj

theorem wp_region_T {pre : List Nat} {id : Nat} {a : Act} {w : World} (hm : P.follows .mixedOrders = true)
    (h : wpAnyT P .any ops Q S (allUp pre) ops.size (Array.replicate ops.size false) a w.drew) : (Code.region id ops true).wp P Q a w :=
  wp_region_any hm (wpAny_of_T _ _ _ _ h)

theorem wp_append_run {w : World} {o : Oper} {a : Act} {K : Act → World → Prop} (s x : Operand) (t : TypeId)
    (hop : o.op = Op.call { callee := Callee.builtin Builtin.append, args := #[s, x], argTypes := #[t, t] }) (sv xv : Value) (hs : a.eval s = sv) (hx : a.eval x = xv) (v : Value) (w' : World)
    (hrun : ∀ ty, (Builtin.append_ #[t, t] ty #[sv, xv]).run P w = .ok v w') (hK : K (a.put o.dst v) w') : o.wp P a w K Q := by
  unfold Oper.wp
  simp [execOp, hop, resolve, invoke, builtin, hs, hx, hrun, Result.andThen]
  exact hK
end
end Go.Proofs.Qxb6600404a
