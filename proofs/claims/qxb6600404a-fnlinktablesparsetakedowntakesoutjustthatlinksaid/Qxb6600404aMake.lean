import Derived.Test.Qxb6600404aRead3
import Derived.Lib.SliceRun
namespace Go.Proofs.Qxb6600404a
open Go.RowKit
set_option linter.unusedVariables false

def zr (z : Value) (n : Nat) : List Value := List.replicate n z
theorem zr_len (z : Value) (n : Nat) : (zr z n).length = n := by simp [zr]
theorem made_one (z : Value) (n : Nat) : madeCells #[z] n = (zr z n).toArray := by
  apply Array.ext'
  simp only [madeCells, zr, Array.toList_map, List.size_toArray, List.length_cons, List.length_nil]
  apply List.ext_getElem
  · simp
  · intro i h1 h2
    simp [Nat.mod_one]
theorem Try.info3 : (Try.prog.info? 3).map (fun i => (i.zero, i.size, i.bytes)) = some (some (.int .i64 0), 1, 8) := by kernel_rfl
theorem Try.info5 : (Try.prog.info? 5).map (fun i => (i.zero, i.size, i.bytes)) = some (some (.int .u8 0), 1, 1) := by kernel_rfl
theorem run_mk22 (n : Nat) (h : n ≤ 4000000) (w : World) : (Instr.makeSlice 22 (.int .i64 (n : Int)) (.int .i64 (n : Int))).run Try.prog w = .ok (.slice (some ⟨w.heap.size, 0, none⟩) n n) (w.alloc (.cells (zr (.int .i64 0) n).toArray 3)) := by
  rw [run_make_row' (P := Try.prog) 22 3 (.int .i64 0) 8 Try.underlying22 Try.info3 rfl .i64 .i64 n (by omega) (by omega) w, made_one]
theorem run_mk34 (n : Nat) (h : n ≤ 4000000) (w : World) : (Instr.makeSlice 34 (.int .i64 (n : Int)) (.int .i64 (n : Int))).run Try.prog w = .ok (.slice (some ⟨w.heap.size, 0, none⟩) n n) (w.alloc (.cells (zr (.int .u8 0) n).toArray 5)) := by
  rw [run_make_row' (P := Try.prog) 34 5 (.int .u8 0) 1 Try.underlying34 Try.info5 rfl .i64 .i64 n (by omega) (by omega) w, made_one]
theorem mk22_zero (w : World) : (Instr.makeSlice 22 (.int .i64 0) (.int .i64 0)).run Try.prog w = .ok (.slice (some ⟨w.heap.size, 0, none⟩) 0 0) (w.alloc (.cells #[] 3)) := run_mk22 0 (by omega) w
theorem q22 (w : World) (a : Option Addr) (n c n' c' : Nat) : (binOp .eql 22 (.slice a n c) (.slice none n' c')).run Try.prog w = .ok (.bool a.isNone) w := Lib.run_eql_slice_nil w _ _ a n c n' c' Try.underlying22

/-- a row being filled: k of n places are done -/
def fill (k : IntKind) (zs : List Int) (j n : Nat) : List Value := ints k (zs.take j) ++ zr (.int k 0) (n - j)
theorem fill_zero (k : IntKind) (zs : List Int) (n : Nat) : fill k zs 0 n = zr (.int k 0) n := by simp [fill, ints]
theorem fill_all (k : IntKind) (zs : List Int) (n : Nat) (h : zs.length = n) : fill k zs n n = ints k zs := by
  simp [fill, zr, ← h]
theorem fill_len (k : IntKind) (zs : List Int) (j n : Nat) (h : zs.length = n) (hj : j ≤ n) : (fill k zs j n).length = n := by
  simp [fill, ints, zr]; omega
theorem fill_at (k : IntKind) (zs : List Int) (j n : Nat) (h : zs.length = n) (hj : j < n) : (fill k zs j n)[j]? = some (.int k 0) := by
  unfold fill
  rw [List.getElem?_append_right (by simp [ints]; omega)]
  have e1 : j - (ints k (zs.take j)).length = 0 := by simp [ints]; omega
  rw [e1, zr, List.getElem?_replicate, if_pos (by omega)]
theorem fill_step (k : IntKind) (zs : List Int) (j n : Nat) (h : zs.length = n) (hj : j < n) : (fill k zs j n).set j (.int k (zs.getD j 0)) = fill k zs (j + 1) n := by
  unfold fill
  rw [List.set_append_right _ _ (by simp [ints]; omega)]
  have e1 : j - (ints k (zs.take j)).length = 0 := by simp [ints]; omega
  rw [e1]
  have e2 : n - j = (n - (j + 1)) + 1 := by omega
  rw [e2]
  simp only [zr, List.replicate_succ, List.set_cons_zero, ints]
  rw [List.take_succ_eq_append_getElem (by omega)]
  rw [List.map_append, List.append_assoc, List.getD_eq_getElem?_getD, List.getElem?_eq_getElem (by omega)]
  rfl

/-- what a function that makes one row leaves -/
def NewRow (w w' : World) (e : Ending) (t : TypeId) (n : Nat) (cs : List Value) : Prop :=
  e = .returned (.slice (some ⟨w.heap.size, 0, none⟩) n n) ∧ Blk w' w.heap.size t cs ∧ Below w.heap.size w w' ∧ w'.heap.size = w.heap.size + 1

set_option maxHeartbeats 400000 in
theorem clone_nil (n c : Nat) (w : World) :
    Calls Try.prog 21 #[.slice none n c] w fun e w' => e = .returned (.slice none 0 0) ∧ w' = w := by
  have q := q22
  go_enter Try.func21, Try.ntmps21
  go_wp2
  go_ret
  exact ⟨rfl, rfl⟩

theorem mk22_succ (n : Nat) (h : n ≤ 2000000) (w : World) : (Instr.makeSlice 22 (.int .i64 ((n : Int) + 1)) (.int .i64 ((n : Int) + 1))).run Try.prog w = .ok (.slice (some ⟨w.heap.size, 0, none⟩) (n + 1) (n + 1)) (w.alloc (.cells (zr (.int .i64 0) (n + 1)).toArray 3)) := run_mk22 (n + 1) (by omega) w
theorem mk34_succ (n : Nat) (h : n ≤ 2000000) (w : World) : (Instr.makeSlice 34 (.int .i64 ((n : Int) + 1)) (.int .i64 ((n : Int) + 1))).run Try.prog w = .ok (.slice (some ⟨w.heap.size, 0, none⟩) (n + 1) (n + 1)) (w.alloc (.cells (zr (.int .u8 0) (n + 1)).toArray 5)) := run_mk34 (n + 1) (by omega) w
theorem snoc_getD (zs : List Int) (x : Int) (k : Nat) (h : k < zs.length) : (zs ++ [x]).getD k 0 = zs.getD k 0 := by
  simp [List.getD_eq_getElem?_getD, List.getElem?_append_left h]
theorem snoc_last (zs : List Int) (x : Int) : (zs ++ [x]).getD zs.length 0 = x := by simp [List.getD_eq_getElem?_getD]

set_option maxHeartbeats 400000 in
theorem clone_some (x : Addr) (ca : Nat) (zs : List Int) (w : World) (ha : SI .i64 w (some x) zs) (hl : zs.length ≤ 2000000) :
    Calls Try.prog 21 #[.slice (some x) zs.length ca] w fun e w' => NewRow w w' e 3 zs.length (ints .i64 zs) := by
  have q := q22
  rcases ha with rfl | ⟨b1, o1, ea, hb, h1⟩
  · have hmk := mk22_zero
    go_enter Try.func21, Try.ntmps21
    go_wp2
    refine wp_loop_rounds 1 ?_
    rw [rounds_succ]
    go_wp2
    go_ret
    exact ⟨rfl, Blk.new w 3 [], (Below.refl _ _).alloc (Nat.le_refl _) _, by simp⟩
  cases ea
  have hmk := run_mk22 zs.length (by omega)
  have H1 : Hid (∀ i, i < zs.length → w.cell? ⟨b1, o1 + i, none⟩ = some (.int .i64 (zs.getD i 0))) := h1
  clear h1
  generalize hn : zs.length = n at *
  have HN : Hid (zs.length = n) := hn
  clear hn
  go_enter Try.func21, Try.ntmps21
  go_wp2
  go_loopw [4] (fun i w' => ∃ k : Nat, k ≤ n ∧ i = .int .i64 k ∧ Blk w' w.heap.size 3 (fill .i64 zs k n) ∧ Below w.heap.size w w' ∧ w'.heap.size = w.heap.size + 1) (fun i _ => n - (intOf i).toNat)
  case atStart => exact ⟨0, by omega, rfl, by rw [fill_zero]; exact Blk.new w 3 _, (Below.refl _ _).alloc (Nat.le_refl _) _, by simp⟩
  case round =>
    obtain ⟨k, hk, rfl, hB, hbel, hsz⟩ := hrel
    have HB : Hid (Blk wr w.heap.size 3 (fill .i64 zs k n)) := hB
    have HBel : Hid (Below w.heap.size w wr) := hbel
    have HSZ : Hid (wr.heap.size = w.heap.size + 1) := hsz
    clear hB hbel hsz
    by_cases hlt : k < n
    · obtain ⟨y, hy⟩ : ∃ y, y = zs.getD k 0 := ⟨_, rfl⟩
      have c1 : wr.cell? ⟨b1, o1 + k, none⟩ = some (.int .i64 y) := by rw [HBel.out.cell (p := ⟨b1, o1 + k, none⟩) hb, hy]; exact H1.out k hlt
      have c2 : wr.cell? ⟨w.heap.size, k, none⟩ = some (.int .i64 0) := by rw [HB.out.cell]; exact fill_at _ _ _ _ HN.out hlt
      have c3 : wr.frozen? ⟨w.heap.size, k, none⟩ = false := HB.out.frozen k
      have HY : Hid (y = zs.getD k 0) := hy
      clear hy
      go_wp2
      go_roundw
      case rel => exact ⟨k + 1, by omega, by go_num, by rw [← fill_step _ _ _ _ HN.out hlt, ← HY.out]; exact HB.out.set _ _, HBel.out.setCell (Nat.le_refl _) _, by simpa using HSZ.out⟩
      case measure => simp [intOf]; omega
    · have : k = n := by omega
      subst this
      go_wp2
      go_ret
      exact ⟨rfl, by rw [← fill_all _ _ _ HN.out]; exact HB.out, HBel.out, HSZ.out⟩

set_option maxHeartbeats 400000 in
theorem appendInt_any (a : Option Addr) (ca : Nat) (zs : List Int) (x : Int) (w : World) (ha : SI .i64 w a zs) (hl : zs.length ≤ 2000000) :
    Calls Try.prog 42 #[.slice a zs.length ca, .int .i64 x] w fun e w' => NewRow w w' e 3 (zs ++ [x]).length (ints .i64 (zs ++ [x])) := by
  have hlen : (zs ++ [x]).length = zs.length + 1 := by simp
  have HLEN : Hid ((zs ++ [x]).length = zs.length + 1) := hlen
  rw [hlen]
  clear hlen
  have hmk := mk22_succ zs.length (by omega)
  rcases ha with rfl | ⟨b1, o1, rfl, hb, h1⟩
  · clear hmk
    have hmk : ∀ w, (Instr.makeSlice 22 (.int .i64 1) (.int .i64 1)).run Try.prog w = .ok (.slice (some ⟨w.heap.size, 0, none⟩) 1 1) (w.alloc (.cells #[.int .i64 0] 3)) := fun w => run_mk22 1 (by omega) w
    go_enter Try.func42, Try.ntmps42
    go_wp2
    refine wp_loop_rounds 1 ?_
    rw [rounds_succ]
    go_wp2
    go_ret
    exact ⟨rfl, Blk.new w 3 [.int .i64 x], (Below.refl _ _).alloc (Nat.le_refl _) _, by simp⟩
  have H1 : Hid (∀ i, i < zs.length → w.cell? ⟨b1, o1 + i, none⟩ = some (.int .i64 (zs.getD i 0))) := h1
  clear h1
  have HL : Hid (∀ k, k < zs.length → (zs ++ [x]).getD k 0 = zs.getD k 0) := snoc_getD zs x
  have HE : Hid ((zs ++ [x]).getD zs.length 0 = x) := snoc_last zs x
  generalize zs ++ [x] = ys at *
  generalize hn : zs.length = n at *
  have HN : Hid (zs.length = n) := hn
  clear hn
  go_enter Try.func42, Try.ntmps42
  go_wp2
  go_loopw [6] (fun i w' => ∃ k : Nat, k ≤ n ∧ i = .int .i64 k ∧ Blk w' w.heap.size 3 (fill .i64 ys k (n + 1)) ∧ Below w.heap.size w w' ∧ w'.heap.size = w.heap.size + 1) (fun i _ => n - (intOf i).toNat)
  case atStart => exact ⟨0, by omega, rfl, by rw [fill_zero]; exact Blk.new w 3 _, (Below.refl _ _).alloc (Nat.le_refl _) _, by simp⟩
  case round =>
    obtain ⟨k, hk, rfl, hB, hbel, hsz⟩ := hrel
    have HB : Hid (Blk wr w.heap.size 3 (fill .i64 ys k (n + 1))) := hB
    have HBel : Hid (Below w.heap.size w wr) := hbel
    have HSZ : Hid (wr.heap.size = w.heap.size + 1) := hsz
    clear hB hbel hsz
    have c2 : wr.cell? ⟨w.heap.size, k, none⟩ = some (.int .i64 0) := by rw [HB.out.cell]; exact fill_at _ _ _ _ HLEN.out (by omega)
    have c3 : wr.frozen? ⟨w.heap.size, k, none⟩ = false := HB.out.frozen k
    by_cases hlt : k < n
    · obtain ⟨y, hy⟩ : ∃ y, y = zs.getD k 0 := ⟨_, rfl⟩
      have c1 : wr.cell? ⟨b1, o1 + k, none⟩ = some (.int .i64 y) := by rw [HBel.out.cell (p := ⟨b1, o1 + k, none⟩) hb, hy]; exact H1.out k hlt
      have HY : Hid (y = zs.getD k 0) := hy
      clear hy
      go_wp2
      go_roundw
      case rel => exact ⟨k + 1, by omega, by go_num, by rw [← fill_step _ _ _ _ HLEN.out (by omega), HL.out k hlt, ← HY.out]; exact HB.out.set _ _, HBel.out.setCell (Nat.le_refl _) _, by simpa using HSZ.out⟩
      case measure => simp [intOf]; omega
    · have : k = n := by omega
      subst this
      go_wp2
      go_ret
      refine ⟨rfl, ?_, HBel.out.setCell (Nat.le_refl _) _, by simpa using HSZ.out⟩
      rw [← fill_all _ _ _ HLEN.out, ← fill_step _ _ _ _ HLEN.out (by omega), HE.out]; exact HB.out.set _ _

set_option maxHeartbeats 400000 in
theorem appendByte_any (a : Option Addr) (ca : Nat) (zs : List Int) (x : Int) (w : World) (ha : SI .u8 w a zs) (hl : zs.length ≤ 2000000) :
    Calls Try.prog 43 #[.slice a zs.length ca, .int .u8 x] w fun e w' => NewRow w w' e 5 (zs ++ [x]).length (ints .u8 (zs ++ [x])) := by
  have hlen : (zs ++ [x]).length = zs.length + 1 := by simp
  have HLEN : Hid ((zs ++ [x]).length = zs.length + 1) := hlen
  rw [hlen]
  clear hlen
  have hmk := mk34_succ zs.length (by omega)
  rcases ha with rfl | ⟨b1, o1, rfl, hb, h1⟩
  · clear hmk
    have hmk : ∀ w, (Instr.makeSlice 34 (.int .i64 1) (.int .i64 1)).run Try.prog w = .ok (.slice (some ⟨w.heap.size, 0, none⟩) 1 1) (w.alloc (.cells #[.int .u8 0] 5)) := fun w => run_mk34 1 (by omega) w
    go_enter Try.func43, Try.ntmps43
    go_wp2
    refine wp_loop_rounds 1 ?_
    rw [rounds_succ]
    go_wp2
    go_ret
    exact ⟨rfl, Blk.new w 5 [.int .u8 x], (Below.refl _ _).alloc (Nat.le_refl _) _, by simp⟩
  have H1 : Hid (∀ i, i < zs.length → w.cell? ⟨b1, o1 + i, none⟩ = some (.int .u8 (zs.getD i 0))) := h1
  clear h1
  have HL : Hid (∀ k, k < zs.length → (zs ++ [x]).getD k 0 = zs.getD k 0) := snoc_getD zs x
  have HE : Hid ((zs ++ [x]).getD zs.length 0 = x) := snoc_last zs x
  generalize zs ++ [x] = ys at *
  generalize hn : zs.length = n at *
  have HN : Hid (zs.length = n) := hn
  clear hn
  go_enter Try.func43, Try.ntmps43
  go_wp2
  go_loopw [6] (fun i w' => ∃ k : Nat, k ≤ n ∧ i = .int .i64 k ∧ Blk w' w.heap.size 5 (fill .u8 ys k (n + 1)) ∧ Below w.heap.size w w' ∧ w'.heap.size = w.heap.size + 1) (fun i _ => n - (intOf i).toNat)
  case atStart => exact ⟨0, by omega, rfl, by rw [fill_zero]; exact Blk.new w 5 _, (Below.refl _ _).alloc (Nat.le_refl _) _, by simp⟩
  case round =>
    obtain ⟨k, hk, rfl, hB, hbel, hsz⟩ := hrel
    have HB : Hid (Blk wr w.heap.size 5 (fill .u8 ys k (n + 1))) := hB
    have HBel : Hid (Below w.heap.size w wr) := hbel
    have HSZ : Hid (wr.heap.size = w.heap.size + 1) := hsz
    clear hB hbel hsz
    have c2 : wr.cell? ⟨w.heap.size, k, none⟩ = some (.int .u8 0) := by rw [HB.out.cell]; exact fill_at _ _ _ _ HLEN.out (by omega)
    have c3 : wr.frozen? ⟨w.heap.size, k, none⟩ = false := HB.out.frozen k
    by_cases hlt : k < n
    · obtain ⟨y, hy⟩ : ∃ y, y = zs.getD k 0 := ⟨_, rfl⟩
      have c1 : wr.cell? ⟨b1, o1 + k, none⟩ = some (.int .u8 y) := by rw [HBel.out.cell (p := ⟨b1, o1 + k, none⟩) hb, hy]; exact H1.out k hlt
      have HY : Hid (y = zs.getD k 0) := hy
      clear hy
      go_wp2
      go_roundw
      case rel => exact ⟨k + 1, by omega, by go_num, by rw [← fill_step _ _ _ _ HLEN.out (by omega), HL.out k hlt, ← HY.out]; exact HB.out.set _ _, HBel.out.setCell (Nat.le_refl _) _, by simpa using HSZ.out⟩
      case measure => simp [intOf]; omega
    · have : k = n := by omega
      subst this
      go_wp2
      go_ret
      refine ⟨rfl, ?_, HBel.out.setCell (Nat.le_refl _) _, by simpa using HSZ.out⟩
      rw [← fill_all _ _ _ HLEN.out, ← fill_step _ _ _ _ HLEN.out (by omega), HE.out]; exact HB.out.set _ _
end Go.Proofs.Qxb6600404a
