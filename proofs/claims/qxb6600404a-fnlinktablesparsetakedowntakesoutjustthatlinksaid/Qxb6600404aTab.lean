import Derived.Test.Qxb6600404aMake
namespace Go.Proofs.Qxb6600404a
open Go.RowKit
set_option linter.unusedVariables false

/-- a link's cells: all zero but for its number 'seq' -/
def linkCells (t : Int) : List Value := [.float .f64 0, .float .f64 0, .float .f64 0, .float .f64 0, .float .f64 0, .float .f64 0, .float .f64 0, .float .f64 0, .float .f64 0, .float .f64 0, .int .u32 0, .int .u8 0, .int .u8 0, .int .u8 t, .int .u8 0, .int .u8 0, .int .u8 0, .bool false, .bool false]
theorem link_len (t : Int) : (linkCells t).length = 19 := rfl
theorem link_13 (t : Int) : (linkCells t)[13]? = some (.int .u8 t) := rfl
theorem Try.info83 : (Try.prog.info? 83).map (fun i => (i.zero, i.size, i.bytes)) = some (some (.agg (linkCells 0).toArray), 19, 96) := by kernel_rfl

/-- the kept links' cells -/
def KC (ts : List Int) : List Value := ts.flatMap linkCells
theorem KC_len (ts : List Int) : (KC ts).length = ts.length * 19 := by
  induction ts with
  | nil => rfl
  | cons t ts ih => simp only [KC, List.flatMap_cons, List.length_append, link_len, List.length_cons] at *; omega
theorem KC_at (ts : List Int) (i j : Nat) (hi : i < ts.length) (hj : j < 19) : (KC ts)[i * 19 + j]? = (linkCells (ts.getD i 0))[j]? := by
  induction ts generalizing i with
  | nil => simp at hi
  | cons t ts ih =>
    unfold KC
    rw [List.flatMap_cons]
    cases i with
    | zero => rw [List.getElem?_append_left (by rw [link_len]; omega)]; simp
    | succ i =>
      rw [List.getElem?_append_right (by rw [link_len]; omega), link_len]
      have e : (i + 1) * 19 + j - 19 = i * 19 + j := by omega
      rw [e]
      simp only [List.length_cons] at hi
      have := ih i (by omega)
      unfold KC at this
      rw [this]; simp
theorem link_set (t v : Int) : (linkCells t).set 13 (.int .u8 v) = linkCells v := rfl
theorem KC_set (ts : List Int) (i : Nat) (v : Int) (hi : i < ts.length) : (KC ts).set (i * 19 + 13) (.int .u8 v) = KC (ts.set i v) := by
  induction ts generalizing i with
  | nil => simp at hi
  | cons t ts ih =>
    unfold KC
    rw [List.flatMap_cons]
    cases i with
    | zero =>
      rw [List.set_append_left _ _ (by rw [link_len]; omega)]
      rw [show (0 * 19 + 13) = 13 from rfl, link_set]
      simp
    | succ i =>
      rw [List.set_append_right _ _ (by rw [link_len]; omega), link_len]
      have e : (i + 1) * 19 + 13 - 19 = i * 19 + 13 := by omega
      rw [e]
      simp only [List.length_cons] at hi
      have := ih i (by omega)
      unfold KC at this
      rw [this]; simp

/-- the kept links behind the address ka read as the numbers ts -/
def SK (w : World) (ka : Option Addr) (ts : List Int) : Prop :=
  ts = [] ∨ ∃ kb, ka = some ⟨kb, 0, none⟩ ∧ kb < w.heap.size ∧ ∀ i j, i < ts.length → j < 19 → w.cell? ⟨kb, i * 19 + j, none⟩ = (linkCells (ts.getD i 0))[j]?
theorem SK.ofBlk {w : World} {kb : Nat} {ts : List Int} {rest : List Value} (h : Blk w kb 83 (KC ts ++ rest)) : SK w (some ⟨kb, 0, none⟩) ts := by
  refine .inr ⟨kb, rfl, h.lt, fun i j hi hj => ?_⟩
  rw [h.cell, List.getElem?_append_left (by rw [KC_len]; omega), KC_at ts i j hi hj]
theorem SK.keep {w w' : World} {a : Option Addr} {ts : List Int} (h : SK w a ts) (hs : w.heap.size ≤ w'.heap.size) (hb : ∀ x, a = some x → w'.heap[x.block]? = w.heap[x.block]?) : SK w' a ts := by
  rcases h with h | ⟨b, rfl, hlt, hc⟩
  · exact .inl h
  · exact .inr ⟨b, rfl, Nat.lt_of_lt_of_le hlt hs, fun i j hi hj => by rw [World.cell?_of_block (w := w) (a := ⟨b, i * 19 + j, none⟩) (hb ⟨b, 0, none⟩ rfl)]; exact hc i j hi hj⟩
theorem SK.below {w w' : World} {a : Option Addr} {ts : List Int} (h : SK w a ts) (hb : Below w.heap.size w w') : SK w' a ts := by
  rcases h with h | ⟨b, rfl, hlt, hc⟩
  · exact .inl h
  · exact .inr ⟨b, rfl, Nat.lt_of_lt_of_le hlt hb.size, fun i j hi hj => by rw [hb.cell (p := ⟨b, i * 19 + j, none⟩) hlt]; exact hc i j hi hj⟩
theorem SK.drewN {w : World} {a : Option Addr} {ts : List Int} (h : SK w a ts) (n : Nat) : SK (w.drewN n) a ts := h

set_option maxHeartbeats 400000 in
theorem peers_any (tb : Nat) (pa : Option Addr) (pc : Nat) (zs : List Int) (w : World) (htb : tb < w.heap.size) (ht : w.cell? ⟨tb, 0, none⟩ = some (.slice pa zs.length pc)) (ha : SI .i64 w pa zs) (hl : zs.length ≤ 2000000) :
    Calls Try.prog 23 #[.pointer (some ⟨tb, 0, none⟩)] w fun e w' => NewRow w w' e 3 zs.length (ints .i64 zs) := by
  rcases ha with rfl | ⟨b1, o1, rfl, hb, h1⟩
  · have hmk := mk22_zero
    go_enter Try.func23, Try.ntmps23
    go_wp2
    refine wp_loop_rounds 1 ?_
    rw [rounds_succ]
    go_wp2
    go_ret
    exact ⟨rfl, Blk.new w 3 [], (Below.refl _ _).alloc (Nat.le_refl _) _, by simp⟩
  have hmk := run_mk22 zs.length (by omega)
  have H1 : Hid (∀ i, i < zs.length → w.cell? ⟨b1, o1 + i, none⟩ = some (.int .i64 (zs.getD i 0))) := h1
  clear h1
  generalize hn : zs.length = n at *
  have HN : Hid (zs.length = n) := hn
  clear hn
  go_enter Try.func23, Try.ntmps23
  go_wp2
  go_loopw [4] (fun i w' => ∃ k : Nat, k ≤ n ∧ i = .int .i64 k ∧ Blk w' w.heap.size 3 (fill .i64 zs k n) ∧ Below w.heap.size w w' ∧ w'.heap.size = w.heap.size + 1) (fun i _ => n - (intOf i).toNat)
  case atStart => exact ⟨0, by omega, rfl, by rw [fill_zero]; exact Blk.new w 3 _, (Below.refl _ _).alloc (Nat.le_refl _) _, by simp⟩
  case round =>
    obtain ⟨k, hk, rfl, hB, hbel, hsz⟩ := hrel
    have HB : Hid (Blk wr w.heap.size 3 (fill .i64 zs k n)) := hB
    have HBel : Hid (Below w.heap.size w wr) := hbel
    have HSZ : Hid (wr.heap.size = w.heap.size + 1) := hsz
    clear hB hbel hsz
    have c0 : wr.cell? ⟨tb, 0, none⟩ = some (.slice (some ⟨b1, o1, none⟩) n pc) := by rw [HBel.out.cell (p := ⟨tb, 0, none⟩) htb]; exact ht
    by_cases hlt : k < n
    · obtain ⟨y, hy⟩ : ∃ y, y = zs.getD k 0 := ⟨_, rfl⟩
      have c1 : wr.cell? ⟨b1, o1 + k, none⟩ = some (.int .i64 y) := by rw [HBel.out.cell (p := ⟨b1, o1 + k, none⟩) hb, hy]; exact H1.out k hlt
      have c2 : wr.cell? ⟨w.heap.size, k, none⟩ = some (.int .i64 0) := by rw [HB.out.cell]; exact fill_at _ _ _ _ HN.out hlt
      have c3 : wr.frozen? ⟨w.heap.size, k, none⟩ = false := HB.out.frozen k
      have HY : Hid (y = zs.getD k 0) := hy
      clear hy
      go_wp2
      go_roundw
      case rel => exact ⟨k + 1, by omega, by go_num, by rw [← fill_step _ _ _ _ HN.out hlt, ← HY.out]; exact HB.out.set _ _, HBel.out.setCell (Nat.le_refl _) _, by simpa using HSZ.out⟩
      case measure => simp [intOf]; omega
    · have : k = n := by omega
      subst this
      go_wp2
      go_ret
      exact ⟨rfl, by rw [← fill_all _ _ _ HN.out]; exact HB.out, HBel.out, HSZ.out⟩

theorem mk34_zero (w : World) : (Instr.makeSlice 34 (.int .i64 0) (.int .i64 0)).run Try.prog w = .ok (.slice (some ⟨w.heap.size, 0, none⟩) 0 0) (w.alloc (.cells #[] 5)) := run_mk34 0 (by omega) w

set_option maxHeartbeats 400000 in
theorem tags_any (tb : Nat) (ka : Option Addr) (kc : Nat) (zs : List Int) (w : World) (htb : tb < w.heap.size) (ht : w.cell? ⟨tb, 1, none⟩ = some (.slice ka zs.length kc)) (ha : SK w ka zs) (hl : zs.length ≤ 2000000) :
    Calls Try.prog 24 #[.pointer (some ⟨tb, 0, none⟩)] w fun e w' => NewRow w w' e 5 zs.length (ints .u8 zs) := by
  rcases ha with rfl | ⟨b1, rfl, hb, h1⟩
  · have hmk := mk34_zero
    go_enter Try.func24, Try.ntmps24
    go_wp2
    refine wp_loop_rounds 1 ?_
    rw [rounds_succ]
    go_wp2
    go_ret
    exact ⟨rfl, Blk.new w 5 [], (Below.refl _ _).alloc (Nat.le_refl _) _, by simp⟩
  have hmk := run_mk34 zs.length (by omega)
  have H1 : Hid (∀ i, i < zs.length → w.cell? ⟨b1, i * 19 + 13, none⟩ = some (.int .u8 (zs.getD i 0))) := fun i hi => by rw [h1 i 13 hi (by omega), link_13]
  clear h1
  generalize hn : zs.length = n at *
  have HN : Hid (zs.length = n) := hn
  clear hn
  go_enter Try.func24, Try.ntmps24
  go_wp2
  go_loopw [4] (fun i w' => ∃ k : Nat, k ≤ n ∧ i = .int .i64 k ∧ Blk w' w.heap.size 5 (fill .u8 zs k n) ∧ Below w.heap.size w w' ∧ w'.heap.size = w.heap.size + 1) (fun i _ => n - (intOf i).toNat)
  case atStart => exact ⟨0, by omega, rfl, by rw [fill_zero]; exact Blk.new w 5 _, (Below.refl _ _).alloc (Nat.le_refl _) _, by simp⟩
  case round =>
    obtain ⟨k, hk, rfl, hB, hbel, hsz⟩ := hrel
    have HB : Hid (Blk wr w.heap.size 5 (fill .u8 zs k n)) := hB
    have HBel : Hid (Below w.heap.size w wr) := hbel
    have HSZ : Hid (wr.heap.size = w.heap.size + 1) := hsz
    clear hB hbel hsz
    have c0 : wr.cell? ⟨tb, 1, none⟩ = some (.slice (some ⟨b1, 0, none⟩) n kc) := by rw [HBel.out.cell (p := ⟨tb, 1, none⟩) htb]; exact ht
    by_cases hlt : k < n
    · obtain ⟨y, hy⟩ : ∃ y, y = zs.getD k 0 := ⟨_, rfl⟩
      have c1 : wr.cell? ⟨b1, k * 19 + 13, none⟩ = some (.int .u8 y) := by rw [HBel.out.cell (p := ⟨b1, k * 19 + 13, none⟩) hb, hy]; exact H1.out k hlt
      have c2 : wr.cell? ⟨w.heap.size, k, none⟩ = some (.int .u8 0) := by rw [HB.out.cell]; exact fill_at _ _ _ _ HN.out hlt
      have c3 : wr.frozen? ⟨w.heap.size, k, none⟩ = false := HB.out.frozen k
      have HY : Hid (y = zs.getD k 0) := hy
      clear hy
      go_wp2
      go_roundw
      case rel => exact ⟨k + 1, by omega, by go_num, by rw [← fill_step _ _ _ _ HN.out hlt, ← HY.out]; exact HB.out.set _ _, HBel.out.setCell (Nat.le_refl _) _, by simpa using HSZ.out⟩
      case measure => simp [intOf]; omega
    · have : k = n := by omega
      subst this
      go_wp2
      go_ret
      exact ⟨rfl, by rw [← fill_all _ _ _ HN.out]; exact HB.out, HBel.out, HSZ.out⟩
end Go.Proofs.Qxb6600404a
