import Derived.Test.Qxb6600404aFind
import Derived.Deep.RegionWith
import Derived.Deep.RegionLaw
namespace Go.Proofs.Qxb6600404a
open Go.RowKit
set_option linter.unusedVariables false

/-- the builtin append at an operation of a plain region, by its run -/
theorem wpList_append_run {P : Program} {w : World} {ops : Array Oper} {rest : List Oper} {o : Oper} {a : Act} {Q : Exit → Act → World → Prop} (hgd : o.guard = none) (s x : Operand) (t : TypeId)
    (hop : o.op = Op.call { callee := Callee.builtin Builtin.append, args := #[s, x], argTypes := #[t, t] }) (sv xv : Value) (hs : a.eval s = sv) (hx : a.eval x = xv) (v : Value) (w' : World)
    (hrun : ∀ ty, (Builtin.append_ #[t, t] ty #[sv, xv]).run P w = .ok v w') (hK : wpList P ops Q rest (a.put o.dst v) w') : wpList P ops Q (o :: rest) a w := by
  refine wpList_plain hgd fun K hK' => ?_
  unfold Oper.wp
  simp [execOp, hop, resolve, invoke, builtin, hs, hx, hrun, Result.andThen]
  exact hK' _ _ hK
theorem wpList_copy_run {P : Program} {w : World} {ops : Array Oper} {rest : List Oper} {o : Oper} {a : Act} {Q : Exit → Act → World → Prop} (hgd : o.guard = none) (s x : Operand) (t : TypeId)
    (hop : o.op = Op.call { callee := Callee.builtin Builtin.copy, args := #[s, x], argTypes := #[t, t] }) (sv xv : Value) (hs : a.eval s = sv) (hx : a.eval x = xv) (v : Value) (w' : World)
    (hrun : ∀ ty, (Builtin.copy_ #[t, t] ty #[sv, xv]).run P w = .ok v w') (hK : wpList P ops Q rest (a.put o.dst v) w') : wpList P ops Q (o :: rest) a w := by
  refine wpList_plain hgd fun K hK' => ?_
  unfold Oper.wp
  simp [execOp, hop, resolve, invoke, builtin, hs, hx, hrun, Result.andThen]
  exact hK' _ _ hK

theorem ints_one (k : IntKind) (zs : List Int) : ∀ u ∈ ints k zs, u.oneCell' = true := by
  intro u hu
  obtain ⟨z, _, rfl⟩ := List.mem_map.1 hu
  rfl
theorem KC_one (ts : List Int) : ∀ u ∈ KC ts, u.oneCell' = true := by
  intro u hu
  obtain ⟨t, _, h⟩ := List.mem_flatMap.1 hu
  exact link_one t u h
theorem Src.ofSI {w : World} {a : Option Addr} {c : Nat} {zs : List Int} (h : OwnP w a c zs) : Src Try.prog 1 22 (.slice a zs.length c) zs.length (ints .i64 zs) w := by
  rcases h with ⟨rfl, rfl, rfl⟩ | ⟨pb, rest, rfl, hB, _⟩
  · exact Src.ofNil w Try.underlying22 0
  · refine Src.ofSlice w Try.underlying22 _ _ _ _ (by simp [ints_len]) (fun j u hu => ?_) (ints_one _ _)
    rw [Addr.add_mid, hB.cell, Nat.zero_add, List.getElem?_append_left (List.getElem?_eq_some_iff.1 hu).1]; exact hu
theorem Src.ofSK {w : World} {a : Option Addr} {c : Nat} {ts : List Int} (h : OwnK w a c ts) : Src Try.prog 19 70 (.slice a ts.length c) ts.length (KC ts) w := by
  rcases h with ⟨rfl, rfl, rfl⟩ | ⟨kb, rest, rfl, hB, _⟩
  · exact Src.ofNil w Try.underlying70 0
  · refine Src.ofSlice w Try.underlying70 _ _ _ _ (by simp [KC_len]) (fun j u hu => ?_) (KC_one _)
    rw [Addr.add_mid, hB.cell, Nat.zero_add, List.getElem?_append_left (List.getElem?_eq_some_iff.1 hu).1]; exact hu

theorem OwnP.alloc {w : World} {a : Option Addr} {c : Nat} {zs : List Int} (h : OwnP w a c zs) (o : Obj) : OwnP (w.alloc o) a c zs := h.keep fun b cs hb => hb.alloc o
theorem OwnK.alloc {w : World} {a : Option Addr} {c : Nat} {zs : List Int} (h : OwnK w a c zs) (o : Obj) : OwnK (w.alloc o) a c zs := h.keep fun b cs hb => hb.alloc o

theorem mk22_cap (n k : Nat) (h : n + k ≤ 4000000) (w : World) : (Instr.makeSlice 22 (.int .i64 0) (.int .i64 ((n : Int) + (k : Int)))).run Try.prog w = .ok (.slice (some ⟨w.heap.size, 0, none⟩) 0 (n + k)) (w.alloc (.cells (zr (.int .i64 0) (n + k)).toArray 3)) := by
  obtain ⟨i, hi, hzz⟩ := Option.map_eq_some_iff.1 Try.info3
  simp only [Prod.mk.injEq] at hzz
  obtain ⟨hz, hs, hb⟩ := hzz
  have := run_make (P := Try.prog) w 22 3 i _ Try.underlying22 hi hz .i64 .i64 0 ((n : Int) + (k : Int)) (by omega) (by omega) (by rw [hb]; omega) (by omega)
  rw [this]
  have e : ((n : Int) + (k : Int)).toNat = n + k := by omega
  simp only [e, hs, Nat.mul_one]
  rw [← made_one]; rfl
theorem mk70_cap (n k : Nat) (h : n + k ≤ 2000000) (w : World) : (Instr.makeSlice 70 (.int .i64 0) (.int .i64 ((n : Int) + (k : Int)))).run Try.prog w = .ok (.slice (some ⟨w.heap.size, 0, none⟩) 0 (n + k)) (w.alloc (.cells (KZ (n + k)).toArray 83)) := by
  obtain ⟨i, hi, hzz⟩ := Option.map_eq_some_iff.1 Try.info83
  simp only [Prod.mk.injEq] at hzz
  obtain ⟨hz, hs, hb⟩ := hzz
  have := run_make (P := Try.prog) w 70 83 i _ Try.underlying70 hi hz .i64 .i64 0 ((n : Int) + (k : Int)) (by omega) (by omega) (by rw [hb]; omega) (by omega)
  rw [this]
  have e : ((n : Int) + (k : Int)).toNat = n + k := by omega
  simp only [e, hs]
  rw [← made_links]; rfl

theorem app22 (n k : Nat) (pa : Option Addr) (pc : Nat) (ps : List Int) (w : World) (hn : ps.length = n) (hp : OwnP w pa pc ps) (ty : TypeId) :
    (Builtin.append_ #[22, 22] ty #[.slice (some ⟨w.heap.size, 0, none⟩) 0 (n + k), .slice pa n pc]).run Try.prog (w.alloc (.cells (zr (.int .i64 0) (n + k)).toArray 3)) = .ok (.slice (some ⟨w.heap.size, 0, none⟩) n (n + k)) ((w.alloc (.cells (zr (.int .i64 0) (n + k)).toArray 3)).setCells w.heap.size 0 (ints .i64 ps)) := by
  obtain ⟨i, hi, hzz⟩ := Option.map_eq_some_iff.1 Try.info3
  simp only [Prod.mk.injEq] at hzz
  obtain ⟨hz, hs, hb⟩ := hzz
  have hB := Blk.new w 3 (zr (.int .i64 0) (n + k))
  have hsrc := Src.ofSI (hp.alloc (.cells (zr (.int .i64 0) (n + k)).toArray 3))
  rw [hn] at hsrc
  have := run_append_room_src (P := Try.prog) (w.alloc (.cells (zr (.int .i64 0) (n + k)).toArray 3)) 22 22 ty 3 i Try.underlying22 hi w.heap.size 0 0 (n + k) _ n (ints .i64 ps) (by rw [hs]; exact hsrc) (by omega)
    (fun j hj => by rw [hB.cell, List.getElem?_eq_getElem (by rw [zr_len]; rw [ints_len] at hj; simp; omega)]; rfl) (fun j hj => hB.frozen _)
  simp only [Nat.zero_add, Nat.zero_mul] at this
  exact this
theorem app70 (n k : Nat) (ka : Option Addr) (kc : Nat) (ts : List Int) (w : World) (hn : ts.length = n) (hp : OwnK w ka kc ts) (ty : TypeId) :
    (Builtin.append_ #[70, 70] ty #[.slice (some ⟨w.heap.size, 0, none⟩) 0 (n + k), .slice ka n kc]).run Try.prog (w.alloc (.cells (KZ (n + k)).toArray 83)) = .ok (.slice (some ⟨w.heap.size, 0, none⟩) n (n + k)) ((w.alloc (.cells (KZ (n + k)).toArray 83)).setCells w.heap.size 0 (KC ts)) := by
  obtain ⟨i, hi, hzz⟩ := Option.map_eq_some_iff.1 Try.info83
  simp only [Prod.mk.injEq] at hzz
  obtain ⟨hz, hs, hb⟩ := hzz
  have hB := Blk.new w 83 (KZ (n + k))
  have hsrc := Src.ofSK (hp.alloc (.cells (KZ (n + k)).toArray 83))
  rw [hn] at hsrc
  have := run_append_room_src (P := Try.prog) (w.alloc (.cells (KZ (n + k)).toArray 83)) 70 70 ty 83 i Try.underlying70 hi w.heap.size 0 0 (n + k) _ n (KC ts) (by rw [hs]; exact hsrc) (by omega)
    (fun j hj => by rw [hB.cell, List.getElem?_eq_getElem (by rw [KZ_len]; rw [KC_len] at hj; simp; omega)]; rfl) (fun j hj => hB.frozen _)
  simp only [Nat.zero_add, Nat.zero_mul] at this
  exact this

def RoomRet (w w' : World) (e : Ending) (t : TypeId) (n c : Nat) (cs : List Value) : Prop :=
  e = .returned (.slice (some ⟨w.heap.size, 0, none⟩) n c) ∧ Blk w' w.heap.size t cs ∧ Below w.heap.size w w' ∧ w'.heap.size = w.heap.size + 1

set_option maxHeartbeats 400000 in
theorem roomInt_any (pa : Option Addr) (ps : List Int) (k : Nat) (w : World) (hp : OwnP w pa ps.length ps) (hk : 0 < k) (hl : ps.length + k ≤ 2000000) :
    Calls Try.prog 71 #[.slice pa ps.length ps.length, .int .i64 (k : Int)] w fun e w' => RoomRet w w' e 3 ps.length (ps.length + k) (ints .i64 ps ++ zr (.int .i64 0) k) := by
  have H : Hid (∀ ty, (Builtin.append_ #[22, 22] ty #[.slice (some ⟨w.heap.size, 0, none⟩) 0 (ps.length + k), .slice pa ps.length ps.length]).run Try.prog (w.alloc (.cells (zr (.int .i64 0) (ps.length + k)).toArray 3)) = .ok (.slice (some ⟨w.heap.size, 0, none⟩) ps.length (ps.length + k)) ((w.alloc (.cells (zr (.int .i64 0) (ps.length + k)).toArray 3)).setCells w.heap.size 0 (ints .i64 ps))) := app22 ps.length k pa ps.length ps w rfl hp
  have hmk := mk22_cap ps.length k (by omega)
  have HB : Hid (Blk ((w.alloc (.cells (zr (.int .i64 0) (ps.length + k)).toArray 3)).setCells w.heap.size 0 (ints .i64 ps)) w.heap.size 3 (ints .i64 ps ++ zr (.int .i64 0) k)) := by
    have := Blk.setCells (ints .i64 ps) _ 0 _ (Blk.new w 3 (zr (.int .i64 0) (ps.length + k))) (by rw [zr_len, ints_len]; omega)
    rw [List.take_zero, List.nil_append, Nat.zero_add, ints_len] at this
    have e : (zr (.int .i64 0) (ps.length + k)).drop ps.length = zr (.int .i64 0) k := by unfold zr; rw [List.drop_replicate]; congr 1; omega
    rw [e] at this
    exact this
  clear hp
  generalize ps.length = n at *
  have q : ¬ (k : Int) ≤ 0 := by omega
  go_enter Try.func71, Try.ntmps71
  go_wp2_with (at_builtin; refine wpList_append_run rfl _ _ 22 rfl _ _ rfl rfl _ _ H.out ?_)
  go_ret
  exact ⟨rfl, HB.out, below_setCells ((Below.refl _ _).alloc (Nat.le_refl _) _) (Nat.le_refl _), by rw [setCells_size]; simp⟩

theorem KZ_drop (n k : Nat) : (KZ (n + k)).drop (n * 19) = KZ k := by
  unfold KZ
  have e : List.replicate (n + k) (0 : Int) = List.replicate n 0 ++ List.replicate k 0 := by rw [← List.replicate_append_replicate]
  have e2 : KC (List.replicate n 0 ++ List.replicate k 0) = KC (List.replicate n 0) ++ KC (List.replicate k 0) := by unfold KC; rw [List.flatMap_append]
  rw [e, e2, List.drop_append_of_le_length (by rw [KC_len]; simp), List.drop_of_length_le (by rw [KC_len]; simp), List.nil_append]

set_option maxHeartbeats 400000 in
theorem roomLink_any (ka : Option Addr) (ts : List Int) (k : Nat) (w : World) (hp : OwnK w ka ts.length ts) (hk : 0 < k) (hl : ts.length + k ≤ 2000000) :
    Calls Try.prog 72 #[.slice ka ts.length ts.length, .int .i64 (k : Int)] w fun e w' => RoomRet w w' e 83 ts.length (ts.length + k) (KC ts ++ KZ k) := by
  have H : Hid (∀ ty, (Builtin.append_ #[70, 70] ty #[.slice (some ⟨w.heap.size, 0, none⟩) 0 (ts.length + k), .slice ka ts.length ts.length]).run Try.prog (w.alloc (.cells (KZ (ts.length + k)).toArray 83)) = .ok (.slice (some ⟨w.heap.size, 0, none⟩) ts.length (ts.length + k)) ((w.alloc (.cells (KZ (ts.length + k)).toArray 83)).setCells w.heap.size 0 (KC ts))) := app70 ts.length k ka ts.length ts w rfl hp
  have hmk := mk70_cap ts.length k (by omega)
  have HB : Hid (Blk ((w.alloc (.cells (KZ (ts.length + k)).toArray 83)).setCells w.heap.size 0 (KC ts)) w.heap.size 83 (KC ts ++ KZ k)) := by
    have := Blk.setCells (KC ts) _ 0 _ (Blk.new w 83 (KZ (ts.length + k))) (by rw [KZ_len, KC_len]; omega)
    rw [List.take_zero, List.nil_append, Nat.zero_add, KC_len, KZ_drop] at this
    exact this
  clear hp
  generalize ts.length = n at *
  have q : ¬ (k : Int) ≤ 0 := by omega
  go_enter Try.func72, Try.ntmps72
  go_wp2_with (at_builtin; refine wpList_append_run rfl _ _ 70 rfl _ _ rfl rfl _ _ H.out ?_)
  go_ret
  exact ⟨rfl, HB.out, below_setCells ((Below.refl _ _).alloc (Nat.le_refl _) _) (Nat.le_refl _), by rw [setCells_size]; simp⟩

/-- what 'makeRoom' leaves: the two rows moved into new blocks with room for k more -/
def RoomLeft (w w' : World) (tb mb : Nat) (ra : Option Addr) (rn rc : Nat) (u : Int) (ps ts : List Int) (k : Nat) : Prop :=
  ∃ pb kb, w.heap.size ≤ pb ∧ w.heap.size ≤ kb ∧ Blk w' pb 3 (ints .i64 ps ++ zr (.int .i64 0) k) ∧ Blk w' kb 83 (KC ts ++ KZ k) ∧
    Blk w' tb 74 (tabCells (some ⟨pb, 0, none⟩) ps.length (ps.length + k) (some ⟨kb, 0, none⟩) ts.length (ts.length + k) (some mb) ra rn rc u) ∧
    w'.os = w.os ∧ w'.tape = w.tape ∧ w'.output = w.output ∧ w.heap.size ≤ w'.heap.size ∧ ∀ b, b < w.heap.size → b ≠ tb → w'.heap[b]? = w.heap[b]?

set_option maxHeartbeats 2000000 in
theorem makeRoom_any (tb mb : Nat) (pa ka ra : Option Addr) (rn rc : Nat) (u : Int) (ps ts : List Int) (k : Nat) (w : World) (hT : Blk w tb 74 (tabCells pa ps.length ps.length ka ts.length ts.length (some mb) ra rn rc u))
    (hp : OwnP w pa ps.length ps) (hq : OwnK w ka ts.length ts) (hk : 0 < k) (hl : ps.length + k ≤ 2000000) (hl2 : ts.length + k ≤ 2000000) :
    Calls Try.prog 62 #[.pointer (some ⟨tb, 0, none⟩), .int .i64 (k : Int)] w fun e w' => e = .returned (.tuple #[]) ∧ RoomLeft w w' tb mb ra rn rc u ps ts k := by
  have c0 : ∀ w1, Blk w1 tb 74 (tabCells pa ps.length ps.length ka ts.length ts.length (some mb) ra rn rc u) → w1.cell? ⟨tb, 0, none⟩ = some (.slice pa ps.length ps.length) ∧ w1.cell? ⟨tb, 1, none⟩ = some (.slice ka ts.length ts.length) ∧ w1.frozen? ⟨tb, 0, none⟩ = false ∧ w1.frozen? ⟨tb, 1, none⟩ = false :=
    fun w1 h => ⟨by rw [h.cell]; rfl, by rw [h.cell]; rfl, h.frozen _, h.frozen _⟩
  have C0 : Hid (∀ w1, Blk w1 tb 74 (tabCells pa ps.length ps.length ka ts.length ts.length (some mb) ra rn rc u) → w1.cell? ⟨tb, 0, none⟩ = some (.slice pa ps.length ps.length) ∧ w1.cell? ⟨tb, 1, none⟩ = some (.slice ka ts.length ts.length) ∧ w1.frozen? ⟨tb, 0, none⟩ = false ∧ w1.frozen? ⟨tb, 1, none⟩ = false) := c0
  clear c0
  obtain ⟨x0, x1, x2, x3⟩ := C0.out w hT
  have HT : Hid (Blk w tb 74 (tabCells pa ps.length ps.length ka ts.length ts.length (some mb) ra rn rc u)) := hT
  have HP : Hid (OwnP w pa ps.length ps) := hp
  have HQ : Hid (OwnK w ka ts.length ts) := hq
  clear hT hp hq
  go_enter Try.func62, Try.ntmps62
  have tok1 : True := trivial
  have sz := HT.out.lt
  have HS : Hid (tb < w.heap.size) := sz
  clear sz
  go_region_with (first
    | (go_at_call 72; refine (roomLink_any ka ts k _ HQ1.out hk hl2).mono ?_; rintro e w2 ⟨rfl, q1, q2, q3⟩; have HT2 : Hid (Blk w2 tb 74 (tabCells pa ps.length ps.length ka ts.length ts.length (some mb) ra rn rc u)) := HT1.out.below q2 HT1.out.lt; obtain ⟨z0, z1, z2, z3⟩ := C0.out w2 HT2.out; have Q1 : Hid (Blk w2 w1.heap.size 83 (KC ts ++ KZ k)) := q1; have Q2 : Hid (Below w1.heap.size w1 w2) := q2; have Q3 : Hid (w2.heap.size = w1.heap.size + 1) := q3; clear q1 q2 q3)
    | (go_at_call 71; have _t := tok1; refine (roomInt_any pa ps k _ ?_ hk hl).mono ?_; exact HP.out.keep fun b cs hb => hb.drew; rintro e w1 ⟨rfl, q1, q2, q3⟩; have HT1 : Hid (Blk w1 tb 74 (tabCells pa ps.length ps.length ka ts.length ts.length (some mb) ra rn rc u)) := HT.out.drew.below q2 HS.out; have HQ1 : Hid (OwnK w1 ka ts.length ts) := HQ.out.keep fun b cs hb => hb.drew.below q2 hb.lt; obtain ⟨y0, y1, y2, y3⟩ := C0.out w1 HT1.out; have P1 : Hid (Blk w1 w.heap.size 3 (ints .i64 ps ++ zr (.int .i64 0) k)) := q1; have P2 : Hid (Below w.heap.size w w1) := ⟨q2.os, q2.tape, q2.output, q2.size, q2.block⟩; have P3 : Hid (w1.heap.size = w.heap.size + 1) := q3; clear tok1 q1 q2 q3))
  all_goals
    go_end0
    have e1 := Q2.out.size
    have e2 := P3.out
    have e3 := Q3.out
    have e4 := HS.out
    have hset : ∀ {b : Nat} {e : TypeId} {cs : List Value}, Blk w2 b e cs → e ≠ 74 → Blk ((w2.setCell ⟨tb, 0, none⟩ (.slice (some ⟨w.heap.size, 0, none⟩) ps.length (ps.length + k))).setCell ⟨tb, 1, none⟩ (.slice (some ⟨w1.heap.size, 0, none⟩) ts.length (ts.length + k))) b e cs := fun hb hne =>
      (hb.setOther (hb.ne HT2.out hne) _).setOther (hb.ne HT2.out hne) _
    refine ⟨rfl, w.heap.size, w1.heap.size, Nat.le_refl _, by omega, hset (P1.out.below Q2.out (by omega)) (by decide), hset Q1.out (by decide), (HT2.out.set 0 _).set 1 _, ?_, ?_, ?_, ?_, ?_⟩
    · exact Q2.out.os.trans P2.out.os
    · exact Q2.out.tape.trans P2.out.tape
    · exact Q2.out.output.trans P2.out.output
    · simp; omega
    · intro b hb hne
      rw [Below.heap_setCell _ _ _ _ hne, Below.heap_setCell _ _ _ _ hne, Q2.out.block b (by omega), P2.out.block b hb]
end Go.Proofs.Qxb6600404a
