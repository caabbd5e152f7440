import Derived.Test.Qxb6601170aCyc
namespace Go.Proofs.Qxb6601170a
open Go.RowKit
set_option linter.unusedVariables false

theorem push_step (n : Nat) (ru own : Int) (u : Nat) (sb : Bool) (hs : ((u : Int) == 0) = sb) (step : Int) : pushCol n ru own sb step = stepCol n (if u = 0 then 0 else ru) own step := by
  unfold pushCol stepCol
  by_cases hu : u = 0
  · subst hu
    have : sb = true := by rw [← hs]; rfl
    subst this
    simp
  · have : sb = false := by rw [← hs]; simpa using hu
    subst this
    rw [if_neg hu]
    by_cases h1 : ru = 1
    · simp [h1]
    · by_cases h2 : step = (n : Int)
      · simp [h2]
      · simp [h1, h2]

theorem mem_edges {vec : List Int} {ru : Int} {zss : List (List Int)} {mu : List Int} {col : Int} {u : Nat} {sb : Bool} (hs : ((u : Int) == 0) = sb) {t : Int} :
    t ∈ edges vec ru zss mu col u ↔ ∃ j, j < vec.length ∧ pushCol vec.length ru (mu.getD u 0) sb ((j : Int) + 1) = col ∧ (zss.getD (vec.getD j 0 - 1).toNat []).getD u 0 = t := by
  have e : laysOf vec ru mu col u = lay vec (if u = 0 then 0 else ru) (mu.getD u 0) col vec.length := by
    unfold laysOf
    by_cases hu : u = 0
    · subst hu; simp
    · rw [if_neg hu, if_neg hu]
  unfold edges
  rw [e]
  simp only [List.mem_map, mem_lay]
  constructor
  · rintro ⟨l, ⟨j, hj, h1, h2⟩, h3⟩
    exact ⟨j, hj, by rw [push_step vec.length ru _ u sb hs]; exact h1, by rw [h2]; exact h3⟩
  · rintro ⟨j, hj, h1, h2⟩
    exact ⟨_, ⟨j, hj, by rw [← push_step vec.length ru _ u sb hs]; exact h1, rfl⟩, h2⟩

/-- nodes reached from one less: all those that the nodes before u reach -/
def Marks (n : Nat) (E : Nat → List Int) (d : List Int) (u : Nat) (bs : List Bool) : Prop :=
  ∀ u', u' < u → 0 ≤ d.getD u' 0 → ∀ v, v < n → (v : Int) ∈ E u' → d.getD v 0 = d.getD u' 0 + 1 → bs.getD v false = true
/-- those that node u's first k steps reach -/
def MarksAt (n : Nat) (C : Nat → Prop) (T : Nat → Int) (d : List Int) (u k : Nat) (bs : List Bool) : Prop :=
  ∀ j, j < k → C j → ∀ v, v < n → T j = (v : Int) → d.getD v 0 = d.getD u 0 + 1 → bs.getD v false = true
theorem bset_mono (bs : List Bool) (t v : Nat) (h : bs.getD v false = true) : (bs.set t true).getD v false = true := by
  by_cases e : t = v
  · subst e
    by_cases hl : t < bs.length
    · simp [List.getD_eq_getElem?_getD, hl]
    · rw [List.set_eq_of_length_le (by omega)]; exact h
  · simpa [List.getD_eq_getElem?_getD, List.getElem?_set_ne e] using h
theorem bset_eq (bs : List Bool) (t : Nat) (h : t < bs.length) : (bs.set t true).getD t false = true := by
  simp [List.getD_eq_getElem?_getD, h]
theorem Marks.set {n : Nat} {E : Nat → List Int} {d : List Int} {u : Nat} {bs : List Bool} (h : Marks n E d u bs) (t : Nat) : Marks n E d u (bs.set t true) :=
  fun u' a b v c e f => bset_mono _ _ _ (h u' a b v c e f)
theorem MarksAt.zero {n : Nat} {C : Nat → Prop} {T : Nat → Int} {d : List Int} {u : Nat} {bs : List Bool} : MarksAt n C T d u 0 bs := fun j h => by omega
theorem MarksAt.skip {n : Nat} {C : Nat → Prop} {T : Nat → Int} {d : List Int} {u k : Nat} {bs : List Bool} (h : MarksAt n C T d u k bs) (hn : C k → ∀ v, v < n → T k = (v : Int) → d.getD v 0 = d.getD u 0 + 1 → False) : MarksAt n C T d u (k + 1) bs := by
  intro j hj hc v hv ht hd
  rcases Nat.lt_succ_iff_lt_or_eq.1 hj with hj | rfl
  · exact h j hj hc v hv ht hd
  · exact (hn hc v hv ht hd).elim
theorem MarksAt.set {n : Nat} {C : Nat → Prop} {T : Nat → Int} {d : List Int} {u k : Nat} {bs : List Bool} (h : MarksAt n C T d u k bs) (t : Nat) (hT : T k = (t : Int)) (hl : t < bs.length) : MarksAt n C T d u (k + 1) (bs.set t true) := by
  intro j hj hc v hv ht hd
  rcases Nat.lt_succ_iff_lt_or_eq.1 hj with hj | rfl
  · exact bset_mono _ _ _ (h j hj hc v hv ht hd)
  · have : t = v := by omega
    subst this
    exact bset_eq _ _ hl
theorem Marks.next {n : Nat} {vec : List Int} {ru : Int} {zss : List (List Int)} {mu : List Int} {col : Int} {d : List Int} {u : Nat} {bs : List Bool} {sb : Bool} (hs : ((u : Int) == 0) = sb) (h : Marks n (edges vec ru zss mu col) d u bs)
    (h2 : MarksAt n (fun j => pushCol vec.length ru (mu.getD u 0) sb ((j : Int) + 1) = col) (fun j => (zss.getD (vec.getD j 0 - 1).toNat []).getD u 0) d u vec.length bs) : Marks n (edges vec ru zss mu col) d (u + 1) bs := by
  intro u' hu' h0 v hv hm hd
  rcases Nat.lt_succ_iff_lt_or_eq.1 hu' with hu' | rfl
  · exact h u' hu' h0 v hv hm hd
  · obtain ⟨j, hj, hc, ht⟩ := (mem_edges hs).1 hm
    exact h2 j hj hc v hv ht hd
theorem Marks.neg {n : Nat} {E : Nat → List Int} {d : List Int} {u : Nat} {bs : List Bool} (h : Marks n E d u bs) (hd : d.getD u 0 < 0) : Marks n E d (u + 1) bs := by
  intro u' hu' h0 v hv hm hdd
  rcases Nat.lt_succ_iff_lt_or_eq.1 hu' with hu' | rfl
  · exact h u' hu' h0 v hv hm hdd
  · omega
theorem Marks.zero {n : Nat} {E : Nat → List Int} {d : List Int} {bs : List Bool} : Marks n E d 0 bs := fun u h => by omega

def bools (bs : List Bool) : List Value := bs.map .bool
theorem bools_at (bs : List Bool) (i : Nat) (h : i < bs.length) : (bools bs)[i]? = some (.bool (bs.getD i false)) := by simp [bools, h]
theorem bools_set (bs : List Bool) (i : Nat) (b : Bool) : (bools bs).set i (.bool b) = bools (bs.set i b) := by simp [bools, List.map_set]
theorem bools_zr (n : Nat) : zr (.bool false) n = bools (List.replicate n false) := by simp [bools, zr]

/-- along the ring no distance is greater than the position -/
theorem reach_dist {n : Nat} {E : Nat → List Int} {d : List Int} {ring : List Int} (h : DistOK n E d) (hr : ring.length = n) (hE : ∀ u, u < n → ring.getD u 0 ∈ E u) (hb : ∀ u, u < n → ring.getD u 0 < n) {v k : Nat} (hv : Reach ring v k) (hn : 1 ≤ n) :
    v < n ∧ 0 ≤ d.getD v 0 ∧ d.getD v 0 ≤ k := by
  induction hv with
  | zero => exact ⟨by omega, by rw [h.d0]; omega, by rw [h.d0]; omega⟩
  | @step u k w hu hl hw ih =>
    obtain ⟨i1, i2, i3⟩ := ih
    have := h.closed u i1 i2 _ (hE u i1) (by rw [hw]; omega)
    have hb' := hb u i1
    rw [hw] at this hb'
    rw [show ((w : Int)).toNat = w by omega] at this
    exact ⟨by omega, this.1, by omega⟩
theorem step_plain {vec : List Int} {ru : Int} {zss : List (List Int)} {mu : List Int} {c : Nat} (hr : ru ≠ 1) (hc : c + 1 < vec.length) (u : Nat) : (zss.getD (vec.getD c 0 - 1).toNat []).getD u 0 ∈ edges vec ru zss mu ((c : Int) + 1) u := by
  refine (mem_edges (sb := ((u : Int) == 0)) rfl).2 ⟨c, by omega, ?_, rfl⟩
  unfold pushCol
  rw [if_neg (fun h => hr h.2), if_neg (by omega)]
end Go.Proofs.Qxb6601170a
