import Derived.Test.Qxb6600404aMap
import Derived.Deep.MidRow
import Derived.Deep.RegionHeld3
namespace Go.Proofs.Qxb6600404a
open Go.RowKit
set_option linter.unusedVariables false

set_option maxHeartbeats 400000 in
theorem indexLen_any (tb mb n : Nat) (f : Int → Option Int) (w : World) (ht : w.cell? ⟨tb, 2, none⟩ = some (.map (some mb))) (hm : IM w mb n f) :
    Calls Try.prog 39 #[.pointer (some ⟨tb, 0, none⟩)] w fun e w' => e = .returned (.int .i64 n) ∧ w' = w := by
  have hlen := hm.len
  clear hm
  go_enter Try.func39, Try.ntmps39
  go_wp2
  go_ret
  exact ⟨rfl, rfl⟩

set_option maxHeartbeats 400000 in
theorem indexOfT_any (tb mb n : Nat) (f : Int → Option Int) (x : Int) (w : World) (ht : w.cell? ⟨tb, 2, none⟩ = some (.map (some mb))) (hm : IM w mb n f) (hx : (Lit.int .i64 x).wf = true) :
    Calls Try.prog 40 #[.pointer (some ⟨tb, 0, none⟩), .int .i64 x] w fun e w' => e = .returned (.tuple #[.int .i64 ((f x).getD 0), .bool (f x).isSome]) ∧ w' = w := by
  have hlook := hm.look hx
  clear hm hx
  generalize (f x).getD 0 = y at *
  generalize (f x).isSome = z at *
  go_enter Try.func40, Try.ntmps40
  go_wp2
  go_ret2
  exact ⟨rfl, rfl⟩

set_option maxHeartbeats 400000 in
theorem sparse_any (tb mb : Nat) (w : World) (ht : w.cell? ⟨tb, 2, none⟩ = some (.map (some mb))) :
    Calls Try.prog 60 #[.pointer (some ⟨tb, 0, none⟩)] w fun e w' => e = .returned (.bool true) ∧ w' = w := by
  have q : ∀ (w : World), (binOp .neq 71 (.map (some mb)) (.map none)).run Try.prog w = .ok (.bool true) w := fun w => by kernel_rfl
  go_enter Try.func60, Try.ntmps60
  go_wp2
  go_ret
  exact ⟨rfl, rfl⟩

set_option maxHeartbeats 400000 in
theorem linkSeq_any (b o : Nat) (t : Int) (w : World) (h : w.cell? ⟨b, o + 13, none⟩ = some (.int .u8 t)) :
    Calls Try.prog 30 #[.pointer (some ⟨b, o, none⟩)] w fun e w' => e = .returned (.int .u8 t) ∧ w' = w := by
  go_enter Try.func30, Try.ntmps30
  go_wp2
  go_ret
  exact ⟨rfl, rfl⟩

set_option maxHeartbeats 400000 in
theorem setSeq_any (b : Nat) (t v : Int) (w : World) (h : Blk w b 83 (linkCells t)) :
    Calls Try.prog 27 #[.pointer (some ⟨b, 0, none⟩), .int .u8 v] w fun e w' => e = .returned (.tuple #[]) ∧ w' = w.setCell ⟨b, 13, none⟩ (.int .u8 v) := by
  have h1 : w.cell? ⟨b, 13, none⟩ = some (.int .u8 t) := by rw [h.cell]; rfl
  have h2 : w.frozen? ⟨b, 13, none⟩ = false := h.frozen 13
  clear h
  go_enter Try.func27, Try.ntmps27
  go_wp2
  go_end0
  exact ⟨rfl, rfl⟩

theorem zero_eq (w : World) : (binOp .eql 83 (.agg (linkCells 0).toArray) (.agg (linkCells 0).toArray)).run Try.prog w = .ok (.bool true) w := by kernel_rfl
theorem size83 (t : Int) : (Try.prog.info? 83).map (·.size) = some (linkCells t).length := by kernel_rfl
theorem size83a (t : Int) : (Try.prog.info? 83).map (·.size) = some (linkCells t).toArray.size := by kernel_rfl
theorem link_one (t : Int) : ∀ v ∈ linkCells t, v.oneCell' = true := by
  intro v hv
  simp only [linkCells, List.mem_cons, List.not_mem_nil, or_false] at hv
  rcases hv with rfl | rfl | rfl | rfl | rfl | rfl | rfl | rfl | rfl | rfl | rfl | rfl | rfl | rfl | rfl | rfl | rfl | rfl | rfl <;> rfl

/-- a whole struct is read, in a region that only reads -/
theorem quiet_load_mid {P : Program} {op : Oper} {a : Act} {C : World → Prop} {K : Act → Prop} (ty : TypeId) (x : Operand) (ho : op.op = .load ty x)
    (b o : Nat) (hx : a.eval x = .pointer (some ⟨b, o, none⟩)) (cs : List Value) (d : TypeDesc) (hS : ∀ w, C w → w.rangeAt b o cs)
    (hu : P.underlying ty = some d) (hd : d.isRow = true) (hi : (P.info? ty).map (·.size) = some cs.length) (hk : K (a.put op.dst (.agg cs.toArray))) : op.quiet P a C K :=
  ⟨_, fun w hw => by
    unfold Oper.quietAt execOp
    simp only [ho, hx, Instr.loadAt, Instr.sureAddr, Sem.run_bind, Sem.run_pure, Result.andThen_ok, run_loadVar_mid w b o ty cs d (hS w hw) hu hd hi]
    exact ⟨rfl, rfl⟩, hk⟩

theorem range_of {w : World} {b o : Nat} {t : Int} (h : ∀ j, j < 19 → w.cell? ⟨b, o + j, none⟩ = (linkCells t)[j]?) : w.rangeAt b o (linkCells t) := by
  intro j v hv
  have : j < 19 := by
    have := (List.getElem?_eq_some_iff.1 hv).1
    rwa [link_len] at this
  rw [h j this]; exact hv

theorem Blk.setCells {b : Nat} {e : TypeId} : ∀ (vs cs : List Value) (o : Nat) (w : World), Blk w b e cs → o + vs.length ≤ cs.length → Blk (w.setCells b o vs) b e (cs.take o ++ vs ++ cs.drop (o + vs.length)) := by
  intro vs
  induction vs with
  | nil => intro cs o w h _; simpa [World.setCells] using h
  | cons v vs ih =>
    intro cs o w h hl
    simp only [List.length_cons] at hl
    have := ih (cs.set o v) (o + 1) (w.setCell ⟨b, o, none⟩ v) (h.set o v) (by simp; omega)
    simp only [World.setCells]
    have e1 : (cs.set o v).take (o + 1) ++ vs ++ (cs.set o v).drop (o + 1 + vs.length) = cs.take o ++ v :: vs ++ cs.drop (o + (v :: vs).length) := by
      rw [List.drop_set_of_lt (by omega), List.take_succ_eq_append_getElem (by simp; omega), List.take_set_of_le (Nat.le_refl _)]
      simp [Nat.add_assoc, Nat.add_comm 1]
    rw [e1] at this
    exact this
theorem Blk.there {w : World} {b : Nat} {e : TypeId} {cs : List Value} (h : Blk w b e cs) (o n : Nat) (hl : o + n ≤ cs.length) : w.there b o n := fun j hj => by
  rw [h.cell, List.getElem?_eq_getElem (by omega)]
  exact ⟨rfl, h.frozen _⟩
theorem setCells_other {w : World} {b : Nat} {vs : List Value} {o k : Nat} (hk : k ≠ b) : (w.setCells b o vs).heap[k]? = w.heap[k]? := by
  induction vs generalizing o w with
  | nil => rfl
  | cons v vs ih => simp only [World.setCells]; rw [ih, Below.heap_setCell _ _ _ _ hk]
theorem setCells_size {w : World} {b : Nat} {vs : List Value} {o : Nat} : (w.setCells b o vs).heap.size = w.heap.size := by
  induction vs generalizing o w with
  | nil => rfl
  | cons v vs ih => simp only [World.setCells]; rw [ih]; simp [World.setCell]
theorem below_setCells {B : Nat} {w0 w : World} {b : Nat} {vs : List Value} {o : Nat} (hb : Below B w0 w) (hB : B ≤ b) : Below B w0 (w.setCells b o vs) := by
  induction vs generalizing o w with
  | nil => exact hb
  | cons v vs ih => simp only [World.setCells]; exact ih (hb.setCell hB v)

set_option maxHeartbeats 400000 in
theorem isZero_any (b o : Nat) (w : World) (h : ∀ j, j < 19 → w.cell? ⟨b, o + j, none⟩ = (linkCells 0)[j]?) (hb : b < w.heap.size) :
    Calls Try.prog 28 #[.pointer (some ⟨b, o, none⟩)] w fun e w' => e = .returned (.bool true) ∧ Below w.heap.size w w' := by
  have hz := zero_eq
  have H : Hid (∀ n, ((w.alloc (.cells (linkCells 0).toArray 83)).drewN n).rangeAt b o (linkCells 0)) := fun n => World.rangeAt_alloc (range_of h) _
  have H2 : Hid (∀ n, ((w.alloc (.cells (linkCells 0).toArray 83)).drewN n).rangeAt w.heap.size 0 (linkCells 0)) := by
    intro n j v hv
    rw [World.cell?_drewN, (Blk.new w 83 (linkCells 0)).cell, Nat.zero_add]; exact hv
  clear h
  go_enter Try.func28, Try.ntmps28
  go_wp2
  refine wp_region_quiet_lit (by kernel_rfl) (by kernel_rfl) ?_
  go_big_quiet_step (fail)
  go_big_quiet_step (fail)
  go_big_quiet_want
  refine quiet_load_mid 83 _ rfl b o rfl (linkCells 0) _ (fun w' hw' => ?_) Try.underlying83 rfl (size83 0) ?_
  · obtain ⟨n, rfl⟩ := hw'; exact H.out n
  go_simp
  go_big_quiet_on
  go_big_quiet_want
  refine quiet_load_mid 83 _ rfl w.heap.size 0 rfl (linkCells 0) _ (fun w' hw' => ?_) Try.underlying83 rfl (size83 0) ?_
  · obtain ⟨n, rfl⟩ := hw'; exact H2.out n
  go_simp
  go_big_quiet_on
  go_big_quiet_step (fail)
  go_big_quiet_step (fail)
  refine wpQuiet_nil ?_
  intro _ hw'
  obtain ⟨nq, hw''⟩ := hw'
  subst hw''
  go_wp2
  go_ret
  exact ⟨rfl, below_drewN ((Below.refl _ _).alloc (Nat.le_refl _) _) _⟩


set_option maxHeartbeats 400000 in
theorem keptCopy_any (tb kb n kc k : Nat) (t : Int) (w : World) (ht : w.cell? ⟨tb, 1, none⟩ = some (.slice (some ⟨kb, 0, none⟩) n kc)) (hk : k < n) (h : ∀ j, j < 19 → w.cell? ⟨kb, k * 19 + j, none⟩ = (linkCells t)[j]?) :
    Calls Try.prog 26 #[.pointer (some ⟨tb, 0, none⟩), .int .i64 k] w fun e w' => e = .returned (.pointer (some ⟨w.heap.size, 0, none⟩)) ∧ Blk w' w.heap.size 83 (linkCells t) ∧ Below w.heap.size w w' ∧ w'.heap.size = w.heap.size + 1 := by
  have H : Hid (w.rangeAt kb (k * 19) (linkCells t)) := range_of h
  clear h
  have i1 : (k : Int) < (n : Int) := by omega
  go_enter Try.func26, Try.ntmps26
  go_wp2_with (first | (refine wpList_load_mid rfl 83 _ rfl kb (k * 19) rfl (linkCells t) _ H.out Try.underlying83 rfl (size83 t) ?_) | (refine wpList_store_mid rfl 83 _ _ rfl w.heap.size 0 (linkCells t).toArray rfl rfl ?_ (size83a t) (all_oneCell_toArray (link_one t)) ?_))
  · exact (Blk.new w 83 (linkCells 0)).there 0 19 (by rw [link_len]; omega)
  · go_ret
    refine ⟨rfl, ?_, ?_, ?_⟩
    · have := Blk.setCells (linkCells t) (linkCells 0) 0 _ (Blk.new w 83 (linkCells 0)) (by simp [link_len])
      rw [List.take_zero, List.nil_append, List.drop_of_length_le (by simp [link_len]), List.append_nil] at this
      exact this
    · exact below_setCells ((Below.refl _ _).alloc (Nat.le_refl _) _) (Nat.le_refl _)
    · rw [setCells_size]; simp

end Go.Proofs.Qxb6600404a
