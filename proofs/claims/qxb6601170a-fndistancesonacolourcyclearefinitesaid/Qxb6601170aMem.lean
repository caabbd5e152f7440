import Derived.Test.Qxb6601170aRows
import Derived.WalkKit
import Derived.WalkSpells
import Derived.WalkLawsBesides
import Derived.Deep.QuietTactic
import Derived.BigQuiet
import Derived.Deep.OwnRows
import Derived.Laws.CopyRow
import Derived.Deep.AppendSrc
import Derived.Lib.SliceRun
import Derived.Deep.RegionWith
import Derived.Deep.RegionLaw
import Derived.Deep.MidRow
namespace Go.Proofs.Qxb6601170a
open Go.RowKit

theorem ret_bool {a b : Bool} (h : a = b) : Ending.returned (.bool a) = .returned (.bool b) := by rw [h]
theorem ret_int {k : IntKind} {a b : Int} (h : a = b) : Ending.returned (.int k a) = .returned (.int k b) := by rw [h]

/-- block b of w is just the row of cells cs -/
def Blk (w : World) (b : Nat) (e : TypeId) (cs : List Value) : Prop := w.heap[b]? = some (.cells cs.toArray e (0, 0))

theorem Blk.cell {w : World} {b : Nat} {e : TypeId} {cs : List Value} (h : Blk w b e cs) (i : Nat) : w.cell? ⟨b, i, none⟩ = cs[i]? := by
  unfold Blk at h; simp [World.cell?, h]
theorem Blk.frozen {w : World} {b : Nat} {e : TypeId} {cs : List Value} (h : Blk w b e cs) (i : Nat) : w.frozen? ⟨b, i, none⟩ = false := by
  unfold Blk at h; simp [World.frozen?, h]
theorem Blk.lt {w : World} {b : Nat} {e : TypeId} {cs : List Value} (h : Blk w b e cs) : b < w.heap.size := (Array.getElem?_eq_some_iff.1 h).1
theorem Blk.new (w : World) (e : TypeId) (cs : List Value) : Blk (w.alloc (.cells cs.toArray e)) w.heap.size e cs := by
  unfold Blk; show (w.heap.push _)[w.heap.size]? = _; simp
theorem Blk.alloc {w : World} {b : Nat} {e : TypeId} {cs : List Value} (h : Blk w b e cs) (o : Obj) : Blk (w.alloc o) b e cs := by
  unfold Blk; rw [Below.heap_alloc w o b h.lt]; exact h
theorem Blk.drewN {w : World} {b : Nat} {e : TypeId} {cs : List Value} (h : Blk w b e cs) (n : Nat) : Blk (w.drewN n) b e cs := h
theorem Blk.drew {w : World} {b : Nat} {e : TypeId} {cs : List Value} (h : Blk w b e cs) : Blk w.drew b e cs := h
theorem Blk.below {w w' : World} {B b : Nat} {e : TypeId} {cs : List Value} (h : Blk w b e cs) (hb : Below B w w') (hlt : b < B) : Blk w' b e cs := by
  unfold Blk; rw [hb.block b hlt]; exact h
theorem Blk.set {w : World} {b : Nat} {e : TypeId} {cs : List Value} (h : Blk w b e cs) (i : Nat) (v : Value) : Blk (w.setCell ⟨b, i, none⟩ v) b e (cs.set i v) := by
  unfold Blk at *
  simp [World.setCell, Array.getElem?_modify, h]
theorem Blk.setOther {w : World} {b : Nat} {e : TypeId} {cs : List Value} (h : Blk w b e cs) {a : Addr} (hne : b ≠ a.block) (v : Value) : Blk (w.setCell a v) b e cs := by
  unfold Blk; rw [Below.heap_setCell _ _ _ _ hne]; exact h
theorem Blk.row {w : World} {b : Nat} {e : TypeId} {cs : List Value} (h : Blk w b e cs) (cs' : List Value) : Blk (w.setRow b cs'.toArray) b e cs' := by
  unfold Blk at *
  simp [World.setRow, Array.getElem?_modify, h]
theorem Blk.rowOther {w : World} {b : Nat} {e : TypeId} {cs : List Value} (h : Blk w b e cs) {g : Nat} (hne : b ≠ g) (cs' : Array Value) : Blk (w.setRow g cs') b e cs := by
  unfold Blk at *
  simp only [World.setRow, Array.getElem?_modify]; rw [if_neg (by omega)]; exact h
theorem below_row {B g : Nat} {w0 w : World} (hb : Below B w0 w) (hBg : B ≤ g) (cs : Array Value) : Below B w0 (w.setRow g cs) :=
  hb.trans ⟨rfl, rfl, rfl, by simp [World.setRow], fun k hk => by simp only [World.setRow, Array.getElem?_modify]; rw [if_neg (by omega)]⟩
theorem below_drewN {B : Nat} {a w : World} (h : Below B a w) (n : Nat) : Below B a (w.drewN n) := ⟨h.os, h.tape, h.output, h.size, h.block⟩

/-- the slice at 'a' reads as the numbers zs -/
def SI (k : IntKind) (w : World) (a : Option Addr) (zs : List Int) : Prop :=
  zs = [] ∨ ∃ b off, a = some ⟨b, off, none⟩ ∧ b < w.heap.size ∧ ∀ i, i < zs.length → w.cell? ⟨b, off + i, none⟩ = some (.int k (zs.getD i 0))
def ints (k : IntKind) (zs : List Int) : List Value := zs.map (.int k)
theorem ints_len (k : IntKind) (zs : List Int) : (ints k zs).length = zs.length := by simp [ints]
theorem SI.below {k : IntKind} {w w' : World} {a : Option Addr} {zs : List Int} (h : SI k w a zs) (hb : Below w.heap.size w w') : SI k w' a zs := by
  rcases h with h | ⟨b, off, rfl, hlt, hc⟩
  · exact .inl h
  · exact .inr ⟨b, off, rfl, Nat.lt_of_lt_of_le hlt hb.size, fun i hi => by rw [hb.cell (p := ⟨b, off + i, none⟩) hlt]; exact hc i hi⟩
theorem SI.drewN {k : IntKind} {w : World} {a : Option Addr} {zs : List Int} (h : SI k w a zs) (n : Nat) : SI k (w.drewN n) a zs := h
theorem SI.ofBlk {k : IntKind} {w : World} {b : Nat} {e : TypeId} {zs : List Int} {rest : List Value} (h : Blk w b e (ints k zs ++ rest)) : SI k w (some ⟨b, 0, none⟩) zs := by
  refine .inr ⟨b, 0, rfl, h.lt, fun i hi => ?_⟩
  rw [h.cell, Nat.zero_add, List.getElem?_append_left (by simpa [ints] using hi)]
  simp [ints, hi]
theorem SI.ofBlk' {k : IntKind} {w : World} {b : Nat} {e : TypeId} {zs : List Int} (h : Blk w b e (ints k zs)) : SI k w (some ⟨b, 0, none⟩) zs :=
  SI.ofBlk (rest := []) (by simpa using h)
theorem SI.keep {k : IntKind} {w w' : World} {a : Option Addr} {zs : List Int} (h : SI k w a zs) (hs : w.heap.size ≤ w'.heap.size) (hb : ∀ x, a = some x → w'.heap[x.block]? = w.heap[x.block]?) : SI k w' a zs := by
  rcases h with h | ⟨b, off, rfl, hlt, hc⟩
  · exact .inl h
  · exact .inr ⟨b, off, rfl, Nat.lt_of_lt_of_le hlt hs, fun i hi => by rw [World.cell?_of_block (w := w) (a := ⟨b, off + i, none⟩) (hb ⟨b, off, none⟩ rfl)]; exact hc i hi⟩


/-- one bool comes back: if it is true, P holds -/
def RetIf (e : Ending) (P : Prop) : Prop := ∃ B : Bool, e = .returned (.bool B) ∧ (B = true → P)
theorem RetIf.no {e : Ending} {P : Prop} (h : e = .returned (.bool false)) : RetIf e P := ⟨false, h, fun h => by cases h⟩
theorem RetIf.yes {e : Ending} {P : Prop} (h : e = .returned (.bool true)) (p : P) : RetIf e P := ⟨true, h, fun _ => p⟩

def zr (z : Value) (n : Nat) : List Value := List.replicate n z
theorem zr_len (z : Value) (n : Nat) : (zr z n).length = n := by simp [zr]
theorem made_one (z : Value) (n : Nat) : madeCells #[z] n = (zr z n).toArray := by
  apply Array.ext'
  simp only [madeCells, zr, Array.toList_map, List.size_toArray, List.length_cons, List.length_nil]
  apply List.ext_getElem
  · simp
  · intro i h1 h2
    simp [Nat.mod_one]
theorem Try.info3 : (Try.prog.info? 3).map (fun i => (i.zero, i.size, i.bytes)) = some (some (.int .i64 0), 1, 8) := by kernel_rfl
theorem Try.info4 : (Try.prog.info? 4).map (fun i => (i.zero, i.size, i.bytes)) = some (some (.bool false), 1, 1) := by kernel_rfl
theorem Try.info24 : (Try.prog.info? 24).map (fun i => (i.zero, i.size, i.bytes)) = some (some (.slice none 0 0), 1, 24) := by kernel_rfl
theorem run_mk24 (n : Nat) (h : n ≤ 4000000) (w : World) : (Instr.makeSlice 24 (.int .i64 (n : Int)) (.int .i64 (n : Int))).run Try.prog w = .ok (.slice (some ⟨w.heap.size, 0, none⟩) n n) (w.alloc (.cells (zr (.int .i64 0) n).toArray 3)) := by
  rw [run_make_row' (P := Try.prog) 24 3 (.int .i64 0) 8 Try.underlying24 Try.info3 rfl .i64 .i64 n (by omega) (by omega) w, made_one]
theorem run_mk22 (n : Nat) (h : n ≤ 4000000) (w : World) : (Instr.makeSlice 22 (.int .i64 (n : Int)) (.int .i64 (n : Int))).run Try.prog w = .ok (.slice (some ⟨w.heap.size, 0, none⟩) n n) (w.alloc (.cells (zr (.slice none 0 0) n).toArray 24)) := by
  rw [run_make_row' (P := Try.prog) 22 24 (.slice none 0 0) 24 Try.underlying22 Try.info24 rfl .i64 .i64 n (by omega) (by omega) w, made_one]
theorem run_mk23 (n : Nat) (h : n ≤ 4000000) (w : World) : (Instr.makeSlice 23 (.int .i64 (n : Int)) (.int .i64 (n : Int))).run Try.prog w = .ok (.slice (some ⟨w.heap.size, 0, none⟩) n n) (w.alloc (.cells (zr (.bool false) n).toArray 4)) := by
  rw [run_make_row' (P := Try.prog) 23 4 (.bool false) 1 Try.underlying23 Try.info4 rfl .i64 .i64 n (by omega) (by omega) w, made_one]
theorem mk24_zero (w : World) : (Instr.makeSlice 24 (.int .i64 0) (.int .i64 0)).run Try.prog w = .ok (.slice (some ⟨w.heap.size, 0, none⟩) 0 0) (w.alloc (.cells #[] 3)) := run_mk24 0 (by omega) w
theorem mk24_cap (n : Nat) (h0 : 1 ≤ n) (h : n ≤ 4000000) (w : World) : (Instr.makeSlice 24 (.int .i64 1) (.int .i64 (n : Int))).run Try.prog w = .ok (.slice (some ⟨w.heap.size, 0, none⟩) 1 n) (w.alloc (.cells (zr (.int .i64 0) n).toArray 3)) := by
  obtain ⟨i, hi, hzz⟩ := Option.map_eq_some_iff.1 Try.info3
  simp only [Prod.mk.injEq] at hzz
  obtain ⟨hz, hs, hb⟩ := hzz
  have := run_make (P := Try.prog) w 24 3 i _ Try.underlying24 hi hz .i64 .i64 1 (n : Int) (by omega) (by omega) (by rw [hb]; omega) (by omega)
  rw [this]
  have e : ((n : Int)).toNat = n := by omega
  simp only [e, hs, Nat.mul_one]
  rw [← made_one]; rfl
theorem q24 (w : World) (a : Option Addr) (n c n' c' : Nat) : (binOp .eql 24 (.slice a n c) (.slice none n' c')).run Try.prog w = .ok (.bool a.isNone) w := Lib.run_eql_slice_nil w _ _ a n c n' c' Try.underlying24
theorem q22 (w : World) (a : Option Addr) (n c n' c' : Nat) : (binOp .eql 22 (.slice a n c) (.slice none n' c')).run Try.prog w = .ok (.bool a.isNone) w := Lib.run_eql_slice_nil w _ _ a n c n' c' Try.underlying22

/-- a row being filled: j of n places are done -/
def fill (k : IntKind) (zs : List Int) (j n : Nat) : List Value := ints k (zs.take j) ++ zr (.int k 0) (n - j)
theorem fill_zero (k : IntKind) (zs : List Int) (n : Nat) : fill k zs 0 n = zr (.int k 0) n := by simp [fill, ints]
theorem fill_all (k : IntKind) (zs : List Int) (n : Nat) (h : zs.length = n) : fill k zs n n = ints k zs := by
  simp [fill, zr, ← h]
theorem fill_at (k : IntKind) (zs : List Int) (j n : Nat) (h : zs.length = n) (hj : j < n) : (fill k zs j n)[j]? = some (.int k 0) := by
  unfold fill
  rw [List.getElem?_append_right (by simp [ints]; omega)]
  have e1 : j - (ints k (zs.take j)).length = 0 := by simp [ints]; omega
  rw [e1, zr, List.getElem?_replicate, if_pos (by omega)]
theorem fill_step (k : IntKind) (zs : List Int) (j n : Nat) (h : zs.length = n) (hj : j < n) : (fill k zs j n).set j (.int k (zs.getD j 0)) = fill k zs (j + 1) n := by
  unfold fill
  rw [List.set_append_right _ _ (by simp [ints]; omega)]
  have e1 : j - (ints k (zs.take j)).length = 0 := by simp [ints]; omega
  rw [e1]
  have e2 : n - j = (n - (j + 1)) + 1 := by omega
  rw [e2]
  simp only [zr, List.replicate_succ, List.set_cons_zero, ints]
  rw [List.take_succ_eq_append_getElem (by omega)]
  rw [List.map_append, List.append_assoc, List.getD_eq_getElem?_getD, List.getElem?_eq_getElem (by omega)]
  rfl

/-- the slice of slices at 'a' reads as the rows zss -/
def SS (w : World) (a : Option Addr) (zss : List (List Int)) : Prop :=
  zss = [] ∨ ∃ b off, a = some ⟨b, off, none⟩ ∧ b < w.heap.size ∧ ∀ i, i < zss.length → ∃ r c, w.cell? ⟨b, off + i, none⟩ = some (.slice r (zss.getD i []).length c) ∧ SI .i64 w r (zss.getD i [])
theorem SS.below {w w' : World} {a : Option Addr} {zss : List (List Int)} (h : SS w a zss) (hb : Below w.heap.size w w') : SS w' a zss := by
  rcases h with h | ⟨b, off, rfl, hlt, hc⟩
  · exact .inl h
  · refine .inr ⟨b, off, rfl, Nat.lt_of_lt_of_le hlt hb.size, fun i hi => ?_⟩
    obtain ⟨r, c, h1, h2⟩ := hc i hi
    exact ⟨r, c, by rw [hb.cell (p := ⟨b, off + i, none⟩) hlt]; exact h1, h2.below hb⟩
theorem SS.drewN {w : World} {a : Option Addr} {zss : List (List Int)} (h : SS w a zss) (n : Nat) : SS (w.drewN n) a zss := h
/-- all the blocks of the slice lie behind B -/
theorem SI.cell {k : IntKind} {w : World} {b off : Nat} {zs : List Int} (h : SI k w (some ⟨b, off, none⟩) zs) {i : Nat} (hi : i < zs.length) : w.cell? ⟨b, off + i, none⟩ = some (.int k (zs.getD i 0)) := by
  rcases h with rfl | ⟨b', o', e, _, hc⟩
  · simp at hi
  · cases e; exact hc i hi
theorem SI.addr {k : IntKind} {w : World} {a : Option Addr} {zs : List Int} (h : SI k w a zs) (hp : 0 < zs.length) : ∃ b off, a = some ⟨b, off, none⟩ ∧ b < w.heap.size := by
  rcases h with rfl | ⟨b', o', e, hb, _⟩
  · simp at hp
  · exact ⟨b', o', e, hb⟩

/-- the builtin append at an operation of a plain region, by its run -/
theorem wpList_append_run {P : Program} {w : World} {ops : Array Oper} {rest : List Oper} {o : Oper} {a : Act} {Q : Exit → Act → World → Prop} (hgd : o.guard = none) (s x : Operand) (t : TypeId)
    (hop : o.op = Op.call { callee := Callee.builtin Builtin.append, args := #[s, x], argTypes := #[t, t] }) (sv xv : Value) (hs : a.eval s = sv) (hx : a.eval x = xv) (v : Value) (w' : World)
    (hrun : ∀ ty, (Builtin.append_ #[t, t] ty #[sv, xv]).run P w = .ok v w') (hK : wpList P ops Q rest (a.put o.dst v) w') : wpList P ops Q (o :: rest) a w := by
  refine wpList_plain hgd fun K hK' => ?_
  unfold Oper.wp
  simp [execOp, hop, resolve, invoke, builtin, hs, hx, hrun, Result.andThen]
  exact hK' _ _ hK

theorem app_in24 (x : World) (pb n c B : Nat) (j : Int) (cs : List Value) (hP : Blk x pb 3 cs) (hB : Blk x B 3 [.int .i64 j]) (h1 : n + 1 ≤ c) (h2 : n < cs.length) (ty : TypeId) :
    (Builtin.append_ #[24, 24] ty #[.slice (some ⟨pb, 0, none⟩) n c, .slice (some ⟨B, 0, none⟩) 1 1]).run Try.prog x = .ok (.slice (some ⟨pb, 0, none⟩) (n + 1) c) (x.setCell ⟨pb, n, none⟩ (.int .i64 j)) := by
  obtain ⟨i, hi, hzz⟩ := Option.map_eq_some_iff.1 Try.info3
  simp only [Prod.mk.injEq] at hzz
  obtain ⟨hz, hs, hb⟩ := hzz
  have hsrc : Src Try.prog i.size 24 (.slice (some ⟨B, 0, none⟩) 1 1) 1 [.int .i64 j] x := by
    rw [hs]
    refine Src.ofSlice x Try.underlying24 _ _ _ _ rfl (fun q u hu => ?_) (fun u hu => by simp at hu; subst hu; rfl)
    rw [Addr.add_mid, hB.cell, Nat.zero_add]; exact hu
  have := run_append_room_src (P := Try.prog) x 24 24 ty 3 i Try.underlying24 hi pb 0 n c _ 1 _ hsrc h1
    (fun q hq => by rw [hs, hP.cell]; simp at hq; subst hq; simp; omega) (fun q hq => hP.frozen _)
  rw [this, hs]
  simp [World.setCells]

end Go.Proofs.Qxb6601170a
