import Derived.Test.Qxb6600404aRows
import Derived.WalkKit
import Derived.WalkSpells
import Derived.WalkLawsBesides
import Derived.Deep.QuietTactic
import Derived.BigQuiet
import Derived.Deep.OwnRows
import Derived.Laws.CopyRow
import Derived.Deep.AppendSrc
import Derived.Maps.OwnSet
namespace Go.Proofs.Qxb6600404a
open Go.RowKit

theorem ret_bool {a b : Bool} (h : a = b) : Ending.returned (.bool a) = .returned (.bool b) := by rw [h]
theorem ret_int {k : IntKind} {a b : Int} (h : a = b) : Ending.returned (.int k a) = .returned (.int k b) := by rw [h]

/-- block b of w is just the row of cells cs -/
def Blk (w : World) (b : Nat) (e : TypeId) (cs : List Value) : Prop := w.heap[b]? = some (.cells cs.toArray e (0, 0))

theorem Blk.cell {w : World} {b : Nat} {e : TypeId} {cs : List Value} (h : Blk w b e cs) (i : Nat) : w.cell? ⟨b, i, none⟩ = cs[i]? := by
  unfold Blk at h; simp [World.cell?, h]
theorem Blk.frozen {w : World} {b : Nat} {e : TypeId} {cs : List Value} (h : Blk w b e cs) (i : Nat) : w.frozen? ⟨b, i, none⟩ = false := by
  unfold Blk at h; simp [World.frozen?, h]
theorem Blk.lt {w : World} {b : Nat} {e : TypeId} {cs : List Value} (h : Blk w b e cs) : b < w.heap.size := (Array.getElem?_eq_some_iff.1 h).1
theorem Blk.new (w : World) (e : TypeId) (cs : List Value) : Blk (w.alloc (.cells cs.toArray e)) w.heap.size e cs := by
  unfold Blk; show (w.heap.push _)[w.heap.size]? = _; simp
theorem Blk.alloc {w : World} {b : Nat} {e : TypeId} {cs : List Value} (h : Blk w b e cs) (o : Obj) : Blk (w.alloc o) b e cs := by
  unfold Blk; rw [Below.heap_alloc w o b h.lt]; exact h
theorem Blk.drewN {w : World} {b : Nat} {e : TypeId} {cs : List Value} (h : Blk w b e cs) (n : Nat) : Blk (w.drewN n) b e cs := h
theorem Blk.drew {w : World} {b : Nat} {e : TypeId} {cs : List Value} (h : Blk w b e cs) : Blk w.drew b e cs := h
theorem Blk.below {w w' : World} {B b : Nat} {e : TypeId} {cs : List Value} (h : Blk w b e cs) (hb : Below B w w') (hlt : b < B) : Blk w' b e cs := by
  unfold Blk; rw [hb.block b hlt]; exact h
theorem Blk.set {w : World} {b : Nat} {e : TypeId} {cs : List Value} (h : Blk w b e cs) (i : Nat) (v : Value) : Blk (w.setCell ⟨b, i, none⟩ v) b e (cs.set i v) := by
  unfold Blk at *
  simp [World.setCell, Array.getElem?_modify, h]
theorem Blk.setOther {w : World} {b : Nat} {e : TypeId} {cs : List Value} (h : Blk w b e cs) {a : Addr} (hne : b ≠ a.block) (v : Value) : Blk (w.setCell a v) b e cs := by
  unfold Blk; rw [Below.heap_setCell _ _ _ _ hne]; exact h
theorem Blk.row {w : World} {b : Nat} {e : TypeId} {cs : List Value} (h : Blk w b e cs) (cs' : List Value) : Blk (w.setRow b cs'.toArray) b e cs' := by
  unfold Blk at *
  simp [World.setRow, Array.getElem?_modify, h]
theorem Blk.rowOther {w : World} {b : Nat} {e : TypeId} {cs : List Value} (h : Blk w b e cs) {g : Nat} (hne : b ≠ g) (cs' : Array Value) : Blk (w.setRow g cs') b e cs := by
  unfold Blk at *
  simp only [World.setRow, Array.getElem?_modify]; rw [if_neg (by omega)]; exact h
theorem below_row {B g : Nat} {w0 w : World} (hb : Below B w0 w) (hBg : B ≤ g) (cs : Array Value) : Below B w0 (w.setRow g cs) :=
  hb.trans ⟨rfl, rfl, rfl, by simp [World.setRow], fun k hk => by simp only [World.setRow, Array.getElem?_modify]; rw [if_neg (by omega)]⟩
theorem below_drewN {B : Nat} {a w : World} (h : Below B a w) (n : Nat) : Below B a (w.drewN n) := ⟨h.os, h.tape, h.output, h.size, h.block⟩

/-- the slice at 'a' reads as the numbers zs -/
def SI (k : IntKind) (w : World) (a : Option Addr) (zs : List Int) : Prop :=
  zs = [] ∨ ∃ b off, a = some ⟨b, off, none⟩ ∧ b < w.heap.size ∧ ∀ i, i < zs.length → w.cell? ⟨b, off + i, none⟩ = some (.int k (zs.getD i 0))
def ints (k : IntKind) (zs : List Int) : List Value := zs.map (.int k)
theorem ints_len (k : IntKind) (zs : List Int) : (ints k zs).length = zs.length := by simp [ints]
theorem SI.below {k : IntKind} {w w' : World} {a : Option Addr} {zs : List Int} (h : SI k w a zs) (hb : Below w.heap.size w w') : SI k w' a zs := by
  rcases h with h | ⟨b, off, rfl, hlt, hc⟩
  · exact .inl h
  · exact .inr ⟨b, off, rfl, Nat.lt_of_lt_of_le hlt hb.size, fun i hi => by rw [hb.cell (p := ⟨b, off + i, none⟩) hlt]; exact hc i hi⟩
theorem SI.drewN {k : IntKind} {w : World} {a : Option Addr} {zs : List Int} (h : SI k w a zs) (n : Nat) : SI k (w.drewN n) a zs := h
theorem SI.ofBlk {k : IntKind} {w : World} {b : Nat} {e : TypeId} {zs : List Int} {rest : List Value} (h : Blk w b e (ints k zs ++ rest)) : SI k w (some ⟨b, 0, none⟩) zs := by
  refine .inr ⟨b, 0, rfl, h.lt, fun i hi => ?_⟩
  rw [h.cell, Nat.zero_add, List.getElem?_append_left (by simpa [ints] using hi)]
  simp [ints, hi]
theorem SI.ofBlk' {k : IntKind} {w : World} {b : Nat} {e : TypeId} {zs : List Int} (h : Blk w b e (ints k zs)) : SI k w (some ⟨b, 0, none⟩) zs :=
  SI.ofBlk (rest := []) (by simpa using h)
theorem SI.keep {k : IntKind} {w w' : World} {a : Option Addr} {zs : List Int} (h : SI k w a zs) (hs : w.heap.size ≤ w'.heap.size) (hb : ∀ x, a = some x → w'.heap[x.block]? = w.heap[x.block]?) : SI k w' a zs := by
  rcases h with h | ⟨b, off, rfl, hlt, hc⟩
  · exact .inl h
  · exact .inr ⟨b, off, rfl, Nat.lt_of_lt_of_le hlt hs, fun i hi => by rw [World.cell?_of_block (w := w) (a := ⟨b, off + i, none⟩) (hb ⟨b, off, none⟩ rfl)]; exact hc i hi⟩

end Go.Proofs.Qxb6600404a
