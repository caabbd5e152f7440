import Derived.Test.Qxb6601170aSched
namespace Go.Proofs.Qxb6601170a
open Go.RowKit
set_option linter.unusedVariables false

/-- the address, if there is one, lies at B or behind -/
def From (B : Nat) (a : Option Addr) : Prop := ∀ x, a = some x → B ≤ x.block
/-- a slice of numbers comes back, in memory of its own -/
def Own (w w' : World) (e : Ending) (zs : List Int) : Prop := ∃ a c, e = .returned (.slice a zs.length c) ∧ SI .i64 w' a zs ∧ From w.heap.size a ∧ Below w.heap.size w w'

set_option maxHeartbeats 400000 in
theorem clone_any (a : Option Addr) (ca : Nat) (zs : List Int) (w : World) (ha : SI .i64 w a zs) (hl : zs.length ≤ 2000000) :
    Calls Try.prog 15 #[.slice a zs.length ca] w fun e w' => Own w w' e zs := by
  have q := q24
  cases a with
  | none =>
    have hz : zs = [] := by
      rcases ha with h | ⟨_, _, h, _⟩
      · exact h
      · cases h
    subst hz
    go_enter Try.func15, Try.ntmps15
    go_wp2
    go_ret
    exact ⟨none, 0, rfl, .inl rfl, (fun x hx => by cases hx), Below.refl _ _⟩
  | some x =>
  rcases ha with rfl | ⟨b1, o1, ea, hb, h1⟩
  · have hmk := mk24_zero
    go_enter Try.func15, Try.ntmps15
    go_wp2
    refine wp_loop_rounds 1 ?_
    rw [rounds_succ]
    go_wp2
    go_ret
    exact ⟨_, _, rfl, .inl rfl, (fun x hx => by cases hx; exact Nat.le_refl _), (Below.refl _ _).alloc (Nat.le_refl _) _⟩
  cases ea
  have hmk := run_mk24 zs.length (by omega)
  have H1 : Hid (∀ i, i < zs.length → w.cell? ⟨b1, o1 + i, none⟩ = some (.int .i64 (zs.getD i 0))) := h1
  clear h1
  unfold Own
  generalize hn : zs.length = n at *
  have HN : Hid (zs.length = n) := hn
  clear hn
  go_enter Try.func15, Try.ntmps15
  go_wp2
  go_loopw [4] (fun i w' => ∃ k : Nat, k ≤ n ∧ i = .int .i64 k ∧ Blk w' w.heap.size 3 (fill .i64 zs k n) ∧ Below w.heap.size w w') (fun i _ => n - (intOf i).toNat)
  case atStart => exact ⟨0, by omega, rfl, by rw [fill_zero]; exact Blk.new w 3 _, (Below.refl _ _).alloc (Nat.le_refl _) _⟩
  case round =>
    obtain ⟨k, hk, rfl, hB, hbel⟩ := hrel
    have HB : Hid (Blk wr w.heap.size 3 (fill .i64 zs k n)) := hB
    have HBel : Hid (Below w.heap.size w wr) := hbel
    clear hB hbel
    by_cases hlt : k < n
    · obtain ⟨y, hy⟩ : ∃ y, y = zs.getD k 0 := ⟨_, rfl⟩
      have c1 : wr.cell? ⟨b1, o1 + k, none⟩ = some (.int .i64 y) := by rw [HBel.out.cell (p := ⟨b1, o1 + k, none⟩) hb, hy]; exact H1.out k hlt
      have c2 : wr.cell? ⟨w.heap.size, k, none⟩ = some (.int .i64 0) := by rw [HB.out.cell]; exact fill_at _ _ _ _ HN.out hlt
      have c3 : wr.frozen? ⟨w.heap.size, k, none⟩ = false := HB.out.frozen k
      have HY : Hid (y = zs.getD k 0) := hy
      clear hy
      go_wp2
      go_roundw
      case rel => exact ⟨k + 1, by omega, by go_num, by rw [← fill_step _ _ _ _ HN.out hlt, ← HY.out]; exact HB.out.set _ _, HBel.out.setCell (Nat.le_refl _) _⟩
      case measure => simp [intOf]; omega
    · have : k = n := by omega
      subst this
      go_wp2
      go_ret
      exact ⟨_, _, rfl, SI.ofBlk' (by rw [← fill_all _ _ _ HN.out]; exact HB.out), (fun x hx => by cases hx; exact Nat.le_refl _), HBel.out⟩

/-- block yb is a row of slices; those from k0 to k read as the rows g i, each in a block behind yb -/
structure RS (w : World) (yb : Nat) (cs : List Value) (k0 k : Nat) (g : Nat → List Int) : Prop where
  blk : Blk w yb 24 cs
  row : ∀ i, k0 ≤ i → i < k → ∃ r c, cs[i]? = some (.slice r (g i).length c) ∧ SI .i64 w r (g i) ∧ From (yb + 1) r
theorem RS.below {w w' : World} {yb : Nat} {cs : List Value} {k0 k : Nat} {g : Nat → List Int} (h : RS w yb cs k0 k g) (hb : Below w.heap.size w w') : RS w' yb cs k0 k g :=
  ⟨h.blk.below hb h.blk.lt, fun i h0 h1 => by
    obtain ⟨r, c, e, hs, hf⟩ := h.row i h0 h1
    exact ⟨r, c, e, hs.below hb, hf⟩⟩
theorem RS.set {w : World} {yb : Nat} {cs : List Value} {k0 k : Nat} {g : Nat → List Int} (h : RS w yb cs k0 k g) (hk : k < cs.length) {r : Option Addr} {c : Nat} (hs : SI .i64 w r (g k)) (hf : From (yb + 1) r) :
    RS (w.setCell ⟨yb, k, none⟩ (.slice r (g k).length c)) yb (cs.set k (.slice r (g k).length c)) k0 (k + 1) g := by
  have keep : ∀ {r : Option Addr} {zs : List Int}, SI .i64 w r zs → From (yb + 1) r → SI .i64 (w.setCell ⟨yb, k, none⟩ (.slice r (g k).length c)) r zs := by
    intro r zs hs hf
    refine hs.keep (by simp [World.setCell]) (fun x hx => ?_)
    have := hf x hx
    exact Below.heap_setCell _ _ _ _ (by show x.block ≠ yb; omega)
  have keep' : ∀ {v : Value} {r : Option Addr} {zs : List Int}, SI .i64 w r zs → From (yb + 1) r → SI .i64 (w.setCell ⟨yb, k, none⟩ v) r zs := by
    intro v r zs hs hf
    refine hs.keep (by simp [World.setCell]) (fun x hx => ?_)
    have := hf x hx
    exact Below.heap_setCell _ _ _ _ (by show x.block ≠ yb; omega)
  refine ⟨h.blk.set k _, fun i h0 h1 => ?_⟩
  rcases Nat.lt_succ_iff_lt_or_eq.1 h1 with h' | rfl
  · obtain ⟨r', c', e, hs', hf'⟩ := h.row i h0 h'
    exact ⟨r', c', by rw [List.getElem?_set_ne (by omega)]; exact e, keep' hs' hf', hf'⟩
  · exact ⟨r, c, by rw [List.getElem?_set_self hk], keep' hs hf, hf⟩

/-- a slice of slices comes back, in memory of its own -/
def OwnSS (w w' : World) (e : Ending) (n : Nat) (zss : List (List Int)) : Prop := ∃ a c, e = .returned (.slice a n c) ∧ SS w' a zss ∧ Below w.heap.size w w'
set_option maxHeartbeats 400000 in
theorem clone2_any (a : Option Addr) (ca : Nat) (zss : List (List Int)) (w : World) (ha : SS w a zss) (hn0 : a = none → zss = []) (hl : zss.length ≤ 2000000) (hr : ∀ i, i < zss.length → (zss.getD i []).length ≤ 2000000) :
    Calls Try.prog 13 #[.slice a zss.length ca] w fun e w' => OwnSS w w' e zss.length zss := by
  have q := q22
  cases a with
  | none =>
    have hz := hn0 rfl
    subst hz
    go_enter Try.func13, Try.ntmps13
    go_wp2
    go_ret
    exact ⟨none, 0, rfl, Or.inl rfl, Below.refl _ _⟩
  | some x =>
  have hmk := run_mk22 zss.length (by omega)
  have HA : Hid (SS w (some x) zss) := ha
  have HR : Hid (∀ i, i < zss.length → (zss.getD i []).length ≤ 2000000) := hr
  clear ha hr hn0
  generalize hn : zss.length = n at *
  have HN : Hid (zss.length = n) := hn
  clear hn
  go_enter Try.func13, Try.ntmps13
  go_wp2
  go_loopw [4] (fun i w' => ∃ k : Nat, k ≤ n ∧ i = .int .i64 k ∧ (∃ cs : List Value, cs.length = n ∧ (∀ j, k ≤ j → j < n → cs[j]? = some (.slice none 0 0)) ∧ RS w' w.heap.size cs 0 k (fun i => zss.getD i [])) ∧ Below w.heap.size w w') (fun i _ => n - (intOf i).toNat)
  case atStart => exact ⟨0, by omega, rfl, ⟨zr (.slice none 0 0) n, zr_len _ _, fun j _ hj => by simp [zr, hj], Blk.new w 24 _, fun i _ h => by omega⟩, (Below.refl _ _).alloc (Nat.le_refl _) _⟩
  case round =>
    obtain ⟨k, hk, rfl, ⟨cs, hcs, hz, hB⟩, hbel⟩ := hrel
    have HB : Hid (RS wr w.heap.size cs 0 k (fun i => zss.getD i [])) := hB
    have HZ : Hid (∀ j, k ≤ j → j < n → cs[j]? = some (.slice none 0 0)) := hz
    have HCS : Hid (cs.length = n) := hcs
    have HBel : Hid (Below w.heap.size w wr) := hbel
    clear hB hbel hz hcs
    by_cases hlt : k < n
    · have hSS := HA.out.below HBel.out
      rcases hSS with h | ⟨b, off, ex, hb, hc⟩
      · have := HN.out; rw [h] at this; simp at this; omega
      cases ex
      obtain ⟨r, c, hcell, hrow⟩ := hc k (by have := HN.out; omega)
      have hle := HR.out k (by omega)
      have HK : Hid (Calls Try.prog 15 #[.slice r (zss.getD k []).length c] wr fun e w' => Own wr w' e (zss.getD k [])) := clone_any r c _ wr hrow hle
      clear hrow hc
      obtain ⟨row, hrow⟩ : ∃ row, row = zss.getD k [] := ⟨_, rfl⟩
      rw [← hrow] at hcell hle HK
      have HROW : Hid (row = zss.getD k []) := hrow
      clear hrow
      go_wp2_with fail
      refine HK.out.mono ?_
      rintro e w1 ⟨r1, c1, rfl, hs1, hf1, hb1⟩
      have HB1 : Hid (RS w1 w.heap.size cs 0 k (fun i => zss.getD i [])) := HB.out.below hb1
      have HS1 : Hid (SI .i64 w1 r1 row) := hs1
      have HF1 : Hid (From (w.heap.size + 1) r1) := fun x hx => Nat.le_trans (HB.out.blk.lt) (hf1 x hx)
      have HBL1 : Hid (Below w.heap.size w w1) := HBel.out.trans (hb1.mono HBel.out.size)
      have c2 : w1.cell? ⟨w.heap.size, k, none⟩ = some (.slice none 0 0) := by rw [HB1.out.blk.cell]; exact HZ.out k (Nat.le_refl _) hlt
      have c3 : w1.frozen? ⟨w.heap.size, k, none⟩ = false := HB1.out.blk.frozen k
      clear hs1 hf1 hb1
      go_wp2
      go_roundw
      case rel =>
        refine ⟨k + 1, by omega, by go_num, ⟨cs.set k (.slice r1 row.length c1), by rw [List.length_set]; exact HCS.out, fun j h1 h2 => by rw [List.getElem?_set_ne (by omega)]; exact HZ.out j (by omega) h2, ?_⟩, HBL1.out.setCell (Nat.le_refl _) _⟩
        have := HB1.out.set (k := k) (by rw [HCS.out]; exact hlt) (r := r1) (c := c1) (by show SI _ _ _ (zss.getD k []); rw [← HROW.out]; exact HS1.out) HF1.out
        rw [show ((fun i => zss.getD i []) k).length = row.length by rw [HROW.out]] at this
        exact this
      case measure => simp [intOf]; omega
    · have hkn : k = n := by omega
      subst hkn
      go_wp2
      go_ret
      refine ⟨_, _, rfl, .inr ⟨w.heap.size, 0, rfl, HB.out.blk.lt, fun i hi => ?_⟩, HBel.out⟩
      obtain ⟨r, c, e, hs, _⟩ := HB.out.row i (Nat.zero_le _) (by have := HN.out; omega)
      exact ⟨r, c, by rw [HB.out.blk.cell, Nat.zero_add]; exact e, hs⟩
end Go.Proofs.Qxb6601170a
