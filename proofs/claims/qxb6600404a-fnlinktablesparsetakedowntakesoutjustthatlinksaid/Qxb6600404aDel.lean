import Derived.Test.Qxb6600404aWithin
import Derived.Lib.AppendZerosOnto
namespace Go.Proofs.Qxb6600404a
open Go.RowKit
set_option linter.unusedVariables false
set_option linter.unusedSimpArgs false

/-- nothing turned but the blocks of L, and new ones -/
structure FrL (L : List Nat) (w x : World) : Prop where
  os : x.os = w.os
  tape : x.tape = w.tape
  output : x.output = w.output
  size : w.heap.size ≤ x.heap.size
  block : ∀ b, b < w.heap.size → b ∉ L → x.heap[b]? = w.heap[b]?

theorem FrL.refl (L : List Nat) (w : World) : FrL L w w := ⟨rfl, rfl, rfl, Nat.le_refl _, fun _ _ _ => rfl⟩
theorem FrL.trans {L : List Nat} {w x y : World} (h : FrL L w x) (h' : FrL L x y) : FrL L w y :=
  ⟨h'.os.trans h.os, h'.tape.trans h.tape, h'.output.trans h.output, Nat.le_trans h.size h'.size, fun b hb hn => (h'.block b (Nat.lt_of_lt_of_le hb h.size) hn).trans (h.block b hb hn)⟩
theorem FrL.mono {L L' : List Nat} {w x : World} (h : FrL L w x) (hs : ∀ b ∈ L, b ∈ L') : FrL L' w x := ⟨h.os, h.tape, h.output, h.size, fun b hb hn => h.block b hb (fun hm => hn (hs b hm))⟩
theorem FrL.ofBelow {L : List Nat} {w x : World} (h : Below w.heap.size w x) : FrL L w x := ⟨h.os, h.tape, h.output, h.size, fun b hb _ => h.block b hb⟩
theorem FrL.below {L : List Nat} {B : Nat} {w x : World} (h : FrL L w x) (hL : ∀ b ∈ L, B ≤ b) (hB : B ≤ w.heap.size) : Below B w x :=
  ⟨h.os, h.tape, h.output, h.size, fun b hb => h.block b (by omega) (fun hm => by have := hL b hm; omega)⟩
theorem FrL.blk {L : List Nat} {w x : World} {b : Nat} {e : TypeId} {cs : List Value} (h : FrL L w x) (hB : Blk w b e cs) (hn : b ∉ L) : Blk x b e cs := by
  unfold Blk; rw [h.block b hB.lt hn]; exact hB
theorem FrL.im {L : List Nat} {w x : World} {b n : Nat} {f : Int → Option Int} (h : FrL L w x) (hB : IM w b n f) (hn : b ∉ L) : IM x b n f := hB.keep (h.block b hB.lt hn)
theorem FrL.setCells {L : List Nat} {w x : World} (h : FrL L w x) {b : Nat} (hb : b ∈ L) (o : Nat) (vs : List Value) : FrL L w (x.setCells b o vs) := by
  have hz := below_setCells (B := 0) (b := b) (vs := vs) (o := o) (Below.refl 0 x) (Nat.zero_le _)
  exact ⟨hz.os.trans h.os, hz.tape.trans h.tape, hz.output.trans h.output, by rw [setCells_size]; exact h.size, fun k hk hn => by rw [setCells_other (fun e => hn (by rw [e]; exact hb))]; exact h.block k hk hn⟩
theorem FrL.setCell {L : List Nat} {w x : World} (h : FrL L w x) {b : Nat} (hb : b ∈ L) (o : Nat) (v : Value) : FrL L w (x.setCell ⟨b, o, none⟩ v) :=
  ⟨h.os, h.tape, h.output, by simpa using h.size, fun k hk hn => by rw [Below.heap_setCell _ _ _ _ (fun e => hn (by rw [e]; exact hb))]; exact h.block k hk hn⟩
theorem FrL.alloc {L : List Nat} {w x : World} (h : FrL L w x) (o : Obj) : FrL L w (x.alloc o) :=
  ⟨h.os, h.tape, h.output, by have := h.size; simp; omega, fun k hk hn => by rw [Below.heap_alloc _ _ _ (by have := h.size; omega)]; exact h.block k hk hn⟩
theorem FrL.drewN {L : List Nat} {w x : World} (h : FrL L w x) (n : Nat) : FrL L w (x.drewN n) := ⟨h.os, h.tape, h.output, h.size, h.block⟩
theorem FrL.drew {L : List Nat} {w x : World} (h : FrL L w x) : FrL L w x.drew := ⟨h.os, h.tape, h.output, h.size, h.block⟩
theorem FrL.turned {L : List Nat} {w x y : World} (h : FrL L w x) {b : Nat} (hb : b ∈ L) (ht : x.mapTurned y b) : FrL L w y :=
  ⟨ht.grown.os.trans h.os, ht.grown.tape.trans h.tape, ht.grown.output.trans h.output, by rw [turned_size ht]; exact h.size, fun k hk hn => by rw [turned_other ht k (fun e => hn (by rw [e]; exact hb))]; exact h.block k hk hn⟩

theorem wpList_clear_run {P : Program} {w : World} {ops : Array Oper} {rest : List Oper} {o : Oper} {a : Act} {Q : Exit → Act → World → Prop} (hgd : o.guard = none) (x : Operand) (t : TypeId)
    (hop : o.op = Op.call { callee := Callee.builtin Builtin.clear, args := #[x], argTypes := #[t] }) (xv : Value) (hx : a.eval x = xv) (v : Value) (w' : World)
    (hrun : ∀ ty, (Builtin.clear_ #[t] ty #[xv]).run P w = .ok v w') (hK : wpList P ops Q rest (a.put o.dst v) w') : wpList P ops Q (o :: rest) a w := by
  refine wpList_plain hgd fun K hK' => ?_
  unfold Oper.wp
  simp [execOp, hop, resolve, invoke, builtin, hx, hrun, Result.andThen]
  exact hK' _ _ hK

theorem size68 (w : World) : (sizeOf 68).run Try.prog w = .ok 2 w := by kernel_rfl
theorem elem64 : Try.prog.elem 64 = 68 := by kernel_rfl
theorem und64 : Try.prog.underlying 64 = some (.slice (Try.prog.elem 64)) := by rw [elem64]; exact Try.underlying64

theorem slice64_any (a : Option Addr) (n c : Nat) (lo hi mx : Option Value) (l h m : Nat) (w : World) (hb : (Instr.sliceBounds true n c lo hi mx).run Try.prog w = .ok (l, h, m) w) :
    (Instr.slice 64 (.slice a n c) lo hi mx).run Try.prog w = .ok (.slice (if m = l then a else a.map (·.add (l * 2))) (h - l) (m - l)) w := by
  rw [run_slice_any w 64 a n c und64, hb]
  simp only [Result.andThen, elem64, size68, sliced]

theorem slice64_h (rb n c k : Nat) (h : k ≤ c) (w : World) : (Instr.slice 64 (.slice (some ⟨rb, 0, none⟩) n c) none (some (.int .i64 (k : Int))) none).run Try.prog w = .ok (.slice (some ⟨rb, 0, none⟩) k c) w := by
  rw [run_slice_h w 64 _ n c und64 .i64 k (by omega) (by omega)]
  simp only [Result.andThen, elem64, size68, sliced]
  simp [Addr.add_mid]

theorem slice64_l (rb n c k : Nat) (h : k ≤ n) (w : World) : (Instr.slice 64 (.slice (some ⟨rb, 0, none⟩) n c) (some (.int .i64 (k : Int))) none none).run Try.prog w = .ok (.slice (some (if c = k then ⟨rb, 0, none⟩ else ⟨rb, k * 2, none⟩)) (n - k) (c - k)) w := by
  rw [run_slice_l w 64 _ n c und64 .i64 k (by omega) (by omega)]
  simp only [Result.andThen, elem64, size68, sliced]
  simp only [Int.toNat_natCast]
  by_cases hc : c = k
  · simp [hc]
  · simp [hc, Addr.add_mid]

theorem slice64_lh (rb n c k q : Nat) (h : k ≤ q) (h2 : q ≤ c) (hc : k < c) (w : World) : (Instr.slice 64 (.slice (some ⟨rb, 0, none⟩) n c) (some (.int .i64 (k : Int))) (some (.int .i64 (q : Int))) none).run Try.prog w = .ok (.slice (some ⟨rb, k * 2, none⟩) (q - k) (c - k)) w := by
  rw [run_slice_lh w 64 _ n c und64 .i64 .i64 k q (by omega) (by omega) (by omega)]
  simp only [Result.andThen, elem64, size68, sliced]
  simp only [Int.toNat_natCast]
  have : c ≠ k := by omega
  simp [this, Addr.add_mid]

theorem slice64_lhm (rb n c k q r : Nat) (h : k ≤ q) (h2 : q ≤ r) (h3 : r ≤ c) : ∃ v, ∀ w, (Instr.slice 64 (.slice (some ⟨rb, 0, none⟩) n c) (some (.int .i64 (k : Int))) (some (.int .i64 (q : Int))) (some (.int .i64 (r : Int)))).run Try.prog w = .ok v w := by
  refine ⟨sliced (some ⟨rb, 0, none⟩) (k : Int).toNat (q : Int).toNat (r : Int).toNat 2, fun w => ?_⟩
  rw [run_slice_lhm w 64 _ n c und64 .i64 .i64 .i64 k q r (by omega) (by omega) (by omega) (by omega)]
  simp only [Result.andThen, elem64, size68]

theorem PC_one (R : List (Int × Int)) : ∀ u ∈ PC R, u.oneCell' = true := by
  intro u hu
  induction R with
  | nil => simp [PC] at hu
  | cons p R ih =>
    rw [PC_cons] at hu
    simp at hu
    rcases hu with rfl | rfl | h
    · rfl
    · rfl
    · exact ih h
theorem PC_append (R S : List (Int × Int)) : PC (R ++ S) = PC R ++ PC S := by simp [PC]

/-- append(s[:k], s[k+1:]...), in place -/
theorem app_del (rb k m c : Nat) (A C : List (Int × Int)) (r : Int × Int) (rest : List Value) (w : World) (hA : A.length = k) (hm : k + C.length = m) (hB : Blk w rb 68 (PC (A ++ r :: C) ++ rest)) (hc : m + 1 ≤ c) (a : Addr) (ha : C = [] ∨ a = ⟨rb, (k + 1) * 2, none⟩) (q : Nat) (ty : TypeId) :
    (Builtin.append_ #[64, 64] ty #[.slice (some ⟨rb, 0, none⟩) k c, .slice (some a) C.length q]).run Try.prog w = .ok (.slice (some ⟨rb, 0, none⟩) m c) (w.setCells rb (k * 2) (PC C)) := by
  obtain ⟨i, hi, hzz⟩ := Option.map_eq_some_iff.1 Try.info68
  simp only [Prod.mk.injEq] at hzz
  obtain ⟨hz, hs, hb⟩ := hzz
  have hsrc : Src Try.prog i.size 64 (.slice (some a) C.length q) C.length (PC C) w := by
    rw [hs]
    refine Src.ofSlice w Try.underlying64 _ _ _ _ (PC_len C) (fun j u hu => ?_) (PC_one C)
    rcases ha with rfl | rfl
    · simp [PC] at hu
    · rw [Addr.add_mid, hB.cell, PC_append, PC_cons]
      have hj := (List.getElem?_eq_some_iff.1 hu).1
      rw [PC_len] at hj
      rw [List.getElem?_append_left (by simp [PC_len, hA]; omega), List.getElem?_append_right (by simp [PC_len, hA]; omega)]
      rw [PC_len, hA, show (k + 1) * 2 + j - k * 2 = j + 1 + 1 by omega]
      simpa using hu
  have hlen : (PC (A ++ r :: C) ++ rest).length = (m + 1) * 2 + rest.length := by simp [PC_len, hA]; omega
  have := run_append_room_src (P := Try.prog) w 64 64 ty 68 i Try.underlying64 hi rb 0 k c _ _ _ hsrc (by omega)
    (fun j hj => by rw [PC_len] at hj; rw [hB.cell, hs, List.getElem?_eq_getElem (by rw [hlen]; omega)]; rfl) (fun j hj => hB.frozen _)
  rw [this, hs, Nat.zero_add, hm]

theorem clear64 (rb o c : Nat) (cs : List Value) (w : World) (hB : Blk w rb 68 cs) (hl : o + 2 ≤ cs.length) (ty : TypeId) :
    (Builtin.clear_ #[64] ty #[.slice (some ⟨rb, o, none⟩) 1 c]).run Try.prog w = .ok (.tuple #[]) (w.setCells rb o [.int .i64 0, .int .i64 0]) := by
  have hv : (zeroValue 68).run Try.prog w = .ok (.agg #[.int .i64 0, .int .i64 0]) w := by kernel_rfl
  have hst := run_storeCells_cells (P := Try.prog) rb o [.int .i64 0, .int .i64 0] 0 w (fun j hj => by simp at hj; rw [hB.cell, List.getElem?_eq_getElem (by omega)]; rfl) (fun j hj => hB.frozen _) (by intro v hv'; simp at hv'; subst hv'; rfl)
  simp only [Nat.add_zero] at hst
  have hzc : (Builtin.zeroCells (Value.agg #[.int .i64 0, .int .i64 0]).cells 1).toList = [.int .i64 0, .int .i64 0] := by kernel_rfl
  simp [Builtin.clear_, run_underlying Try.underlying64, hv, hzc, hst]

/-- what Delete leaves in the block -/
theorem del_cells (k m : Nat) (A C : List (Int × Int)) (r : Int × Int) (rest : List Value) (hA : A.length = k) (hm : k + C.length = m) (w : World) (rb : Nat) (hB : Blk w rb 68 (PC (A ++ r :: C) ++ rest)) :
    Blk ((w.setCells rb (k * 2) (PC C)).setCells rb (m * 2) [.int .i64 0, .int .i64 0]) rb 68 (PC (A ++ C) ++ ([.int .i64 0, .int .i64 0] ++ rest)) := by
  have hlen : (PC (A ++ r :: C) ++ rest).length = (m + 1) * 2 + rest.length := by simp [PC_len, hA]; omega
  have h1 := Blk.setCells (PC C) _ (k * 2) w hB (by rw [hlen, PC_len]; omega)
  have e1 : (PC (A ++ r :: C) ++ rest).take (k * 2) = PC A := by
    rw [PC_append, List.append_assoc, List.take_append_of_le_length (by rw [PC_len, hA]; omega), List.take_of_length_le (by rw [PC_len, hA]; omega)]
  rw [e1] at h1
  have hl2 : ((PC (A ++ r :: C) ++ rest).drop (k * 2 + (PC C).length)).length = 2 + rest.length := by rw [List.length_drop, hlen, PC_len]; omega
  have e3 : (PC (A ++ r :: C) ++ rest).drop ((m + 1) * 2) = rest := by
    rw [List.drop_append, List.drop_of_length_le (by simp [PC_len, hA]; omega)]
    have : (PC (A ++ r :: C)).length = (m + 1) * 2 := by simp [PC_len, hA]; omega
    rw [this]; simp
  have hl1 : (PC A ++ PC C).length = m * 2 := by simp [PC_len, hA]; omega
  have h2 := Blk.setCells [.int .i64 0, .int .i64 0] _ (m * 2) _ h1 (by rw [List.length_append, hl1, hl2]; simp)
  rw [List.take_append_of_le_length (by rw [hl1]; omega), List.take_of_length_le (by rw [hl1]; omega)] at h2
  rw [List.drop_append, List.drop_of_length_le (by rw [hl1]; simp), hl1, List.drop_drop] at h2
  have e4 : k * 2 + (PC C).length + (m * 2 + ([.int .i64 0, .int .i64 0] : List Value).length - m * 2) = (m + 1) * 2 := by rw [PC_len]; simp; omega
  rw [e4, e3] at h2
  rw [PC_append]
  simpa using h2

def DelLeft (w w' : World) (e : Ending) (rb m c : Nat) (A C : List (Int × Int)) (rest : List Value) : Prop :=
  e = .returned (.slice (some ⟨rb, 0, none⟩) m c) ∧ Blk w' rb 68 (PC (A ++ C) ++ ([.int .i64 0, .int .i64 0] ++ rest)) ∧ FrL [rb] w w'

set_option maxRecDepth 100000 in
set_option maxHeartbeats 1000000 in
theorem delete_any (rb n k m c : Nat) (A C : List (Int × Int)) (r : Int × Int) (rest : List Value) (w : World) (hA : A.length = k) (hm : k + C.length = m) (hn : n = m + 1) (hB : Blk w rb 68 (PC (A ++ r :: C) ++ rest)) (hc : n ≤ c) (hl : n ≤ 2000000) :
    Calls Try.prog 58 #[.slice (some ⟨rb, 0, none⟩) n c, .int .i64 (k : Int), .int .i64 ((k : Int) + 1)] w fun e w' => DelLeft w w' e rb m c A C rest := by
  obtain ⟨v0, hS0⟩ := slice64_lhm rb n c k (k + 1) n (by omega) (by omega) hc
  have hS1 := slice64_h rb n c k (by omega)
  have hS2 := slice64_l rb n c (k + 1) (by omega)
  have hS3 := slice64_lh rb m c m n (by omega) hc (by omega)
  have hnk : n - (k + 1) = C.length := by omega
  have hnm : n - m = 1 := by omega
  rw [hnk] at hS2
  rw [hnm] at hS3
  have hApp := app_del rb k m c A C r rest w hA hm hB (by omega)
  have HA : Hid (∀ ty, (Builtin.append_ #[64, 64] ty #[.slice (some ⟨rb, 0, none⟩) k c, .slice (some (if c = k + 1 then ⟨rb, 0, none⟩ else ⟨rb, (k + 1) * 2, none⟩)) C.length (c - (k + 1))]).run Try.prog w.drew = .ok (.slice (some ⟨rb, 0, none⟩) m c) (w.drew.setCells rb (k * 2) (PC C))) := by
    intro ty
    refine app_del rb k m c A C r rest w.drew hA hm hB.drew (by omega) _ ?_ _ ty
    by_cases h : c = k + 1
    · left
      rw [← List.length_eq_zero_iff]; omega
    · right; rw [if_neg h]
  have hlen : (PC (A ++ r :: C) ++ rest).length = (m + 1) * 2 + rest.length := by simp [PC_len, hA]; omega
  have HD := del_cells k m A C r rest hA hm w.drew rb hB.drew
  have HCl : Hid (∀ ty, (Builtin.clear_ #[64] ty #[.slice (some ⟨rb, m * 2, none⟩) 1 (c - m)]).run Try.prog (w.drew.setCells rb (k * 2) (PC C)) = .ok (.tuple #[]) ((w.drew.setCells rb (k * 2) (PC C)).setCells rb (m * 2) [.int .i64 0, .int .i64 0])) := by
    intro ty
    have h1 := Blk.setCells (PC C) _ (k * 2) w.drew hB.drew (by rw [hlen, PC_len]; omega)
    refine clear64 rb (m * 2) _ _ _ h1 ?_ ty
    rw [List.length_append, List.length_append, List.length_take, List.length_drop, hlen, PC_len]
    omega
  have HE : Hid (DelLeft w ((w.drew.setCells rb (k * 2) (PC C)).setCells rb (m * 2) [.int .i64 0, .int .i64 0]) (.returned (.slice (some ⟨rb, 0, none⟩) m c)) rb m c A C rest) :=
    ⟨rfl, HD, ((FrL.refl [rb] w).drew.setCells (by simp) _ _).setCells (by simp) _ _⟩
  have hne : ((k : Int) == (k : Int) + 1) = false := by simp; omega
  simp only [Int.natCast_add, Int.natCast_one, Int.cast_ofNat_Int] at hS0 hS1 hS2 hS3
  generalize (if c = k + 1 then (⟨rb, 0, none⟩ : Addr) else ⟨rb, (k + 1) * 2, none⟩) = ad at *
  clear hnk hnm hApp hlen HD hB hA hm hn
  generalize c - (k + 1) = c1 at *
  generalize c - m = c2 at *
  generalize C.length = cl at *
  generalize w.drew.setCells rb (k * 2) (PC C) = w1 at *
  generalize w1.setCells rb (m * 2) [.int .i64 0, .int .i64 0] = w2 at *
  go_enter Try.func58, Try.ntmps58
  go_wp2_with fail
  refine wp_region_any (by kernel_rfl) ?_
  change wpAny _ _ _ _ _ _ _ (World.drew _)
  refine wpAny_take (i := 0) (v := ?v0) rfl (by kernel_rfl) (by kernel_rfl) (by kernel_rfl) (fun _ _ _ h => h) (Or.inl ⟨by rfl, ?hy0⟩) ?r0
  case hy0 => (intro wz; go_simp; try with_reducible rfl)
  simp only [Act.put, List.setIfInBounds_toArray, List.set_cons_zero, List.set_cons_succ]
  refine wpAny_take (i := 1) (v := ?v1) rfl (by kernel_rfl) (by kernel_rfl) (by kernel_rfl) (fun _ _ _ h => h) (Or.inl ⟨by rfl, ?hy1⟩) ?r1
  case hy1 => (intro wz; go_simp; try with_reducible rfl)
  simp only [Act.put, List.setIfInBounds_toArray, List.set_cons_zero, List.set_cons_succ]
  refine wpAny_take (i := 2) (v := ?v2) rfl (by kernel_rfl) (by kernel_rfl) (by kernel_rfl) (fun _ _ _ h => h) (Or.inl ⟨by rfl, ?hy2⟩) ?r2
  case hy2 => (intro wz; go_simp; try with_reducible rfl)
  simp only [Act.put, List.setIfInBounds_toArray, List.set_cons_zero, List.set_cons_succ]
  refine wpAny_take (i := 3) (v := ?v3) rfl (by kernel_rfl) (by kernel_rfl) (by kernel_rfl) (fun _ _ _ h => h) (Or.inl ⟨by rfl, ?hy3⟩) ?r3
  case hy3 => (intro wz; go_simp; try with_reducible rfl)
  simp only [Act.put, List.setIfInBounds_toArray, List.set_cons_zero, List.set_cons_succ]
  refine wpAny_take (i := 4) (v := ?v4) rfl (by kernel_rfl) (by kernel_rfl) (by kernel_rfl) (fun _ _ _ h => h) (Or.inl ⟨by rfl, ?hy4⟩) ?r4
  case hy4 => (intro wz; go_simp; try with_reducible rfl)
  simp only [Act.put, List.setIfInBounds_toArray, List.set_cons_zero, List.set_cons_succ]
  refine wpAny_take (i := 5) (v := ?v5) rfl (by kernel_rfl) (by kernel_rfl) (by kernel_rfl) (fun _ _ _ h => h) (Or.inl ⟨by rfl, ?hy5⟩) ?r5
  case hy5 => (intro wz; go_simp; try with_reducible rfl)
  simp only [Act.put, List.setIfInBounds_toArray, List.set_cons_zero, List.set_cons_succ]
  refine wpAny_one (i := 6) (by kernel_rfl) rfl rfl (fun K hK => ?_)
  refine wp_append_run _ _ 64 rfl _ _ rfl rfl _ _ HA.out ?_
  go_simp
  refine hK _ _ ?_
  clear hK K
  refine wpAny_one (i := 7) (by kernel_rfl) rfl rfl (fun K hK => ?_)
  go_simp
  refine hK _ _ ?_
  clear hK K
  refine wpAny_done (by kernel_rfl) ?_ _
  go_wp2_with (refine wpList_clear_run rfl _ 64 rfl _ rfl _ _ HCl.out ?_)
  go_ret
  exact HE.out
end Go.Proofs.Qxb6600404a
