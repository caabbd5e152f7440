import Derived.Test.Qxb6600404aUp
namespace Go.Proofs.Qxb6600404a
open Go.RowKit
set_option linter.unusedVariables false

/-- block b of w is a map of n entries that holds just what f says -/
def IM (w : World) (b n : Nat) (f : Int → Option Int) : Prop :=
  ∃ D : DataW Unit, w.ownsMap Try.prog 3 (plainElem Try.prog 3) b n D ∧ Maps.size D = n ∧
    ∀ x : Int, Maps.has D (.int .i64 x) = (f x).isSome ∧ D.atKey (.int .i64 x) (.lit (.int .i64 0)) = .lit (.int .i64 ((f x).getD 0))

theorem law : Maps.Keyed Try.prog 3 := Maps.int_keyed Try.underlying3
theorem zero3 (w : World) : (zeroValue 3).run Try.prog w = .ok (.int .i64 0) w := by kernel_rfl

theorem IM.keep {w w' : World} {b n : Nat} {f : Int → Option Int} (h : IM w b n f) (hb : w'.heap[b]? = w.heap[b]?) : IM w' b n f := by
  obtain ⟨D, ⟨es, clock, h1, h2⟩, h3⟩ := h
  exact ⟨D, ⟨es, clock, hb.trans h1, h2⟩, h3⟩
theorem IM.lt {w : World} {b n : Nat} {f : Int → Option Int} (h : IM w b n f) : b < w.heap.size := by
  obtain ⟨D, h1, _⟩ := h; exact h1.lt
theorem IM.below {w w' : World} {B b n : Nat} {f : Int → Option Int} (h : IM w b n f) (hb : Below B w w') (hlt : b < B) : IM w' b n f := h.keep (hb.block b hlt)
theorem IM.drewN {w : World} {b n : Nat} {f : Int → Option Int} (h : IM w b n f) (k : Nat) : IM (w.drewN k) b n f := h.keep rfl
theorem IM.drew {w : World} {b n : Nat} {f : Int → Option Int} (h : IM w b n f) : IM w.drew b n f := h.keep rfl
theorem IM.alloc {w : World} {b n : Nat} {f : Int → Option Int} (h : IM w b n f) (o : Obj) : IM (w.alloc o) b n f := h.keep (Below.heap_alloc w o b h.lt)
theorem IM.setCell {w : World} {b n : Nat} {f : Int → Option Int} (h : IM w b n f) {a : Addr} (ha : b ≠ a.block) (v : Value) : IM (w.setCell a v) b n f := h.keep (Below.heap_setCell _ _ _ _ ha)
theorem IM.ne_blk {w : World} {b n : Nat} {f : Int → Option Int} (h : IM w b n f) {g : Nat} {e : TypeId} {cs : List Value} (hg : Blk w g e cs) : b ≠ g := by
  rintro rfl
  obtain ⟨D, ⟨es, clock, h1, _⟩, _⟩ := h
  unfold Blk at hg
  rw [h1] at hg; cases hg
theorem IM.new (w : World) : IM (w.alloc (.map #[] 0)) w.heap.size 0 (fun _ => none) :=
  ⟨.map [], World.ownsMap_made w _ _ _, rfl, fun x => ⟨rfl, rfl⟩⟩

theorem IM.look {w : World} {b n : Nat} {f : Int → Option Int} (h : IM w b n f) {x : Int} (hx : (Lit.int .i64 x).wf = true) :
    (Instr.lookup 71 (.map (some b)) (.int .i64 x) true).run Try.prog w = .ok (.tuple #[.int .i64 ((f x).getD 0), .bool (f x).isSome]) w := by
  obtain ⟨D, h1, h2, h3⟩ := h
  obtain ⟨v, ps, hr, hv⟩ := h1.look_ok law Try.underlying71 (zero3 w) (plainElem_int Try.underlying3 (by decide)) (Maps.keyOf_int_mk Try.underlying3 hx)
  obtain ⟨c, rfl, hc, _⟩ := plainElem_int_inv Try.underlying3 hv
  rw [(h3 x).2] at hc
  have : c = (f x).getD 0 := by
    have := congrArg Prod.fst hc
    simp only [DataW.lit.injEq, Lit.int.injEq, true_and] at this
    exact this.symm
  rw [hr, (h3 x).1, this]

theorem IM.len {w : World} {b n : Nat} {f : Int → Option Int} (h : IM w b n f) (ty : TypeId) : (Builtin.len_ #[71] ty #[.map (some b)]).run Try.prog w = .ok (.int .i64 n) w := by
  obtain ⟨D, h1, h2, h3⟩ := h
  rw [h1.len Try.underlying71 ty, h2]

theorem own_tight {w : World} {b n : Nat} {D : DataW Unit} (h : w.ownsMap Try.prog 3 (plainElem Try.prog 3) b n D) : w.ownsMap Try.prog 3 (plainElem Try.prog 3) b (Maps.size D) D := by
  obtain ⟨es, clock, h1, h2, h3, h4⟩ := h
  refine ⟨es, clock, h1, h2, ?_, h4⟩
  rw [h4]; simp [Maps.size, length_sorted]

theorem IM.store {w : World} {b n : Nat} {f : Int → Option Int} (h : IM w b n f) (hn : n < 4000000) {x v : Int} (hx : (Lit.int .i64 x).wf = true) (hv : (Lit.int .i64 v).wf = true) :
    ∃ w', (Instr.mapUpdate 71 (.map (some b)) (.int .i64 x) (.int .i64 v)).run Try.prog w = .ok () w' ∧ IM w' b (if (f x).isSome then n else n + 1) (fun y => if y = x then some v else f y) ∧ w.mapTurned w' b := by
  obtain ⟨D, h1, h2, h3⟩ := h
  obtain ⟨w', hr, ho, ht⟩ := h1.store law Try.underlying71 (by unfold maxLen; omega) (Maps.keyOf_int_mk Try.underlying3 hx) (plainElem_int Try.underlying3 hv)
  refine ⟨w', hr, ⟨D.put (.int .i64 x) (.lit (.int .i64 v)), ?_, ?_, fun y => ?_⟩, ht⟩
  · have hs := Maps.size_put (k := .int .i64 x) (h1.tidy law) (.lit (.int .i64 v))
    rw [(h3 x).1, h2] at hs
    have := own_tight ho
    rw [hs] at this
    exact this
  · have hs := Maps.size_put (k := .int .i64 x) (h1.tidy law) (.lit (.int .i64 v))
    rw [(h3 x).1, h2] at hs
    exact hs
  · by_cases hy : y = x
    · subst hy
      simp only [if_pos]
      exact ⟨Maps.has_put_same h1.isMap (show WideAt.IsKeyLit (.int .i64 y) from trivial) _, Maps.atKey_put_same h1.isMap (show WideAt.IsKeyLit (.int .i64 y) from trivial) _ _⟩
    · simp only [if_neg hy]
      have hne : (Lit.int .i64 y) ≠ .int .i64 x := by intro e; cases e; exact hy rfl
      rw [Maps.has_put_other hne, Maps.atKey_put_other hne]
      exact h3 y

theorem IM.drop {w : World} {b n : Nat} {f : Int → Option Int} (h : IM w b n f) {x : Int} (hx : (Lit.int .i64 x).wf = true) (ty : TypeId) :
    ∃ w', (Builtin.delete_ #[71, 3] ty #[.map (some b), .int .i64 x]).run Try.prog w = .ok (.tuple #[]) w' ∧ IM w' b (if (f x).isSome then n - 1 else n) (fun y => if y = x then none else f y) ∧ w.mapTurned w' b := by
  obtain ⟨D, h1, h2, h3⟩ := h
  obtain ⟨w', hr, ho, ht⟩ := h1.drop law Try.underlying71 (Maps.keyOf_int_mk Try.underlying3 hx) ty
  have hs : Maps.size (D.del (.int .i64 x)) = if (f x).isSome then n - 1 else n := by
    have hs := Maps.size_del (k := .int .i64 x) (h1.tidy law)
    rw [(h3 x).1, h2] at hs
    split at hs <;> rename_i hh <;> simp only [hh] <;> simp <;> omega
  refine ⟨w', hr, ⟨D.del (.int .i64 x), ?_, hs, fun y => ?_⟩, ht⟩
  · have := own_tight ho
    rw [hs] at this
    exact this
  · by_cases hy : y = x
    · subst hy
      simp only [if_pos]
      exact ⟨by rw [Maps.has_del_same]; rfl, by rw [Maps.atKey_del_same]; rfl⟩
    · simp only [if_neg hy]
      have hne : (Lit.int .i64 y) ≠ .int .i64 x := by intro e; cases e; exact hy rfl
      rw [Maps.has_del_other hne, Maps.atKey_del_other hne]
      exact h3 y

theorem turned_other {w w' : World} {b : Nat} (h : w.mapTurned w' b) (k : Nat) (hk : k ≠ b) : w'.heap[k]? = w.heap[k]? := by
  by_cases hlt : k < w.heap.size
  · exact h.grown.block k hlt (by simpa using hk)
  · obtain ⟨es, clock, es', clock', hb, rfl⟩ := h
    exact ChangeMaps.heap_setBlock_other hb _ hk
theorem turned_size {w w' : World} {b : Nat} (h : w.mapTurned w' b) : w'.heap.size = w.heap.size := by
  obtain ⟨es, clock, es', clock', hb, rfl⟩ := h
  simp [ChangeMaps.setBlock]
theorem turned_below {w0 w w' : World} {B b : Nat} (hb : Below B w0 w) (h : w.mapTurned w' b) (hB : B ≤ b) : Below B w0 w' :=
  hb.trans ⟨h.grown.os, h.grown.tape, h.grown.output, by rw [turned_size h]; omega, fun k hk => turned_other h k (by omega)⟩
end Go.Proofs.Qxb6600404a
