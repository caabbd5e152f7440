import Derived.Test.Qxb6600404aSmall
import Derived.RegionTactic
namespace Go.Proofs.Qxb6600404a
open Go.RowKit
set_option linter.unusedVariables false

theorem Blk.new2 (w : World) (o : Obj) (e : TypeId) (cs : List Value) : Blk ((w.alloc o).alloc (.cells cs.toArray e)) (w.heap.size + 1) e cs := by
  have := Blk.new (w.alloc o) e cs
  simpa using this
def KZ (n : Nat) : List Value := KC (List.replicate n 0)
theorem KZ_len (n : Nat) : (KZ n).length = n * 19 := by simp [KZ, KC_len]
theorem made_links (n : Nat) : madeCells (linkCells 0).toArray (n * 19) = (KZ n).toArray := by
  apply Array.ext'
  apply List.ext_getElem
  · simp [madeCells, KZ_len]
  · intro p h1 h2
    simp only [madeCells, Array.toList_map, Array.toList_range, List.getElem_map, List.getElem_range]
    have hp : p < n * 19 := by simpa [madeCells] using h1
    have h3 := KC_at (List.replicate n 0) (p / 19) (p % 19) (by simp; omega) (by omega)
    have e : p / 19 * 19 + p % 19 = p := by omega
    rw [e] at h3
    have h4 : (KZ n).toArray.toList[p]? = some (KZ n).toArray.toList[p] := List.getElem?_eq_getElem h2
    have h5 : (KZ n).toArray.toList[p]? = (linkCells ((List.replicate n 0).getD (p / 19) 0))[p % 19]? := h3
    have h6 : (List.replicate n (0 : Int)).getD (p / 19) 0 = 0 := by
      rw [List.getD_eq_getElem?_getD, List.getElem?_replicate]; split <;> rfl
    rw [h6] at h5
    rw [h5] at h4
    have h7 : (linkCells 0).toArray[p % (linkCells 0).toArray.size]! = (linkCells 0)[p % 19]?.getD default := by
      simp [link_len]
    rw [h7, h4]; rfl
theorem run_mk70 (n : Nat) (h : n ≤ 2000000) (w : World) : (Instr.makeSlice 70 (.int .i64 (n : Int)) (.int .i64 (n : Int))).run Try.prog w = .ok (.slice (some ⟨w.heap.size, 0, none⟩) n n) (w.alloc (.cells (KZ n).toArray 83)) := by
  obtain ⟨i, hi, hzz⟩ := Option.map_eq_some_iff.1 Try.info83
  simp only [Prod.mk.injEq] at hzz
  obtain ⟨hz, hs, hb⟩ := hzz
  have := run_make (P := Try.prog) w 70 83 i _ Try.underlying70 hi hz .i64 .i64 (n : Int) (n : Int) (by omega) (by omega) (by rw [hb]; omega) (by omega)
  rw [this]
  simp only [Int.toNat_natCast, hs]
  rw [← made_links]; rfl

/-- the tags, k of n done -/
def tf (ts : List Int) (k n : Nat) : List Int := ts.take k ++ List.replicate (n - k) 0
theorem tf_len (ts : List Int) (k n : Nat) (h : ts.length = n) (hk : k ≤ n) : (tf ts k n).length = n := by simp [tf]; omega
theorem tf_zero (ts : List Int) (n : Nat) : KC (tf ts 0 n) = KZ n := by simp [tf, KZ]
theorem tf_all (ts : List Int) (n : Nat) (h : ts.length = n) : tf ts n n = ts := by simp [tf, ← h]
theorem tf_at (ts : List Int) (k n : Nat) (h : ts.length = n) (hk : k < n) : (tf ts k n).getD k 0 = 0 := by
  rw [List.getD_eq_getElem?_getD]
  unfold tf
  rw [List.getElem?_append_right (by simp; omega), List.getElem?_replicate]
  split <;> rfl
theorem tf_step (ts : List Int) (k n : Nat) (h : ts.length = n) (hk : k < n) : (tf ts k n).set k (ts.getD k 0) = tf ts (k + 1) n := by
  unfold tf
  rw [List.set_append_right _ _ (by simp; omega)]
  have e1 : k - (ts.take k).length = 0 := by simp; omega
  rw [e1]
  have e2 : n - k = (n - (k + 1)) + 1 := by omega
  rw [e2]
  simp only [List.replicate_succ, List.set_cons_zero]
  rw [List.take_succ_eq_append_getElem (by omega), List.append_assoc, List.getD_eq_getElem?_getD, List.getElem?_eq_getElem (by omega)]
  rfl

/-- the cells of a table -/
def tabCells (pa : Option Addr) (n pc : Nat) (ka : Option Addr) (m kc : Nat) (mp : Option Nat) (ra : Option Addr) (rn rc : Nat) (u : Int) : List Value :=
  [.slice pa n pc, .slice ka m kc, .map mp, .slice ra rn rc, .int .i64 u, .map none]

/-- what 'ZZLinkTableDense' leaves -/
def DenseLeft (w w' : World) (e : Ending) (pa : Option Addr) (n pc : Nat) (ts : List Int) : Prop :=
  e = .returned (.pointer (some ⟨w.heap.size, 0, none⟩)) ∧ Below w.heap.size w w' ∧
    ∃ ka, Blk w' w.heap.size 74 (tabCells pa n pc ka ts.length ts.length none none 0 0 0) ∧
      ((ts = [] ∧ ka = none) ∨ (ts ≠ [] ∧ ka = some ⟨w.heap.size + 1, 0, none⟩ ∧ Blk w' (w.heap.size + 1) 83 (KC ts)))

set_option maxHeartbeats 1000000 in
theorem dense_any (pa : Option Addr) (n pc : Nat) (ta : Option Addr) (tc : Nat) (ts : List Int) (w : World) (ha : SI .u8 w ta ts) (hl : ts.length ≤ 2000000) :
    Calls Try.prog 20 #[.slice pa n pc, .slice ta ts.length tc] w fun e w' => DenseLeft w w' e pa n pc ts := by
  by_cases h0 : ts = []
  · subst h0
    go_enter Try.func20, Try.ntmps20
    go_wp2
    go_ret
    exact ⟨rfl, (Below.refl _ _).alloc (Nat.le_refl _) _, none, Blk.new w 74 _, .inl ⟨rfl, rfl⟩⟩
  rcases ha with h | ⟨b1, o1, rfl, hb, h1⟩
  · exact absurd h h0
  have hpos : 0 < ts.length := List.length_pos_iff.2 h0
  have hmk := run_mk70 ts.length (by omega)
  have H1 : Hid (∀ i, i < ts.length → w.cell? ⟨b1, o1 + i, none⟩ = some (.int .u8 (ts.getD i 0))) := h1
  have H0 : Hid (ts ≠ []) := h0
  clear h1 h0
  generalize hm : ts.length = m at *
  have HM : Hid (ts.length = m) := hm
  clear hm
  have n1 : b1 ≠ w.heap.size := by omega
  have n2 : b1 ≠ w.heap.size + 1 := by omega
  go_enter Try.func20, Try.ntmps20
  go_wp2
  go_loopw [6] (fun i w' => ∃ k : Nat, k ≤ m ∧ i = .int .i64 k ∧ Blk w' w.heap.size 74 (tabCells pa n pc (some ⟨w.heap.size + 1, 0, none⟩) m m none none 0 0 0) ∧ Blk w' (w.heap.size + 1) 83 (KC (tf ts k m)) ∧ Below w.heap.size w w') (fun i _ => m - (intOf i).toNat)
  case atStart =>
    refine ⟨0, by omega, rfl, (Blk.new w 74 (tabCells pa n pc (some ⟨w.heap.size + 1, 0, none⟩) m m none none 0 0 0)).alloc _, ?_, ((Below.refl _ _).alloc (Nat.le_refl _) _).alloc (by simp) _⟩
    rw [tf_zero]
    exact Blk.new2 w _ 83 (KZ m)
  case round =>
    obtain ⟨k, hk, rfl, hT, hB, hbel⟩ := hrel
    have HT : Hid (Blk wr w.heap.size 74 (tabCells pa n pc (some ⟨w.heap.size + 1, 0, none⟩) m m none none 0 0 0)) := hT
    have HB : Hid (Blk wr (w.heap.size + 1) 83 (KC (tf ts k m))) := hB
    have HBel : Hid (Below w.heap.size w wr) := hbel
    clear hT hB hbel
    by_cases hlt : k < m
    · obtain ⟨y, hy⟩ : ∃ y, y = ts.getD k 0 := ⟨_, rfl⟩
      have c0 : wr.cell? ⟨w.heap.size, 1, none⟩ = some (.slice (some ⟨w.heap.size + 1, 0, none⟩) m m) := by rw [HT.out.cell]; rfl
      have c1 : wr.cell? ⟨b1, o1 + k, none⟩ = some (.int .u8 y) := by rw [HBel.out.cell (p := ⟨b1, o1 + k, none⟩) hb, hy]; exact H1.out k hlt
      have c2 : wr.cell? ⟨w.heap.size + 1, k * 19 + 13, none⟩ = some (.int .u8 0) := by
        rw [HB.out.cell, KC_at _ _ _ (by rw [tf_len _ _ _ HM.out hk]; exact hlt) (by omega), tf_at _ _ _ HM.out hlt]; rfl
      have c3 : wr.frozen? ⟨w.heap.size + 1, k * 19 + 13, none⟩ = false := HB.out.frozen _
      have HY : Hid (y = ts.getD k 0) := hy
      clear hy
      have i1 : (k : Int) < (m : Int) := by omega
      go_wp2
      go_region
      all_goals go_wp2
      go_roundw
      case rel =>
        refine ⟨k + 1, by omega, by go_num, ?_, ?_, ?_⟩
        · exact (HT.out.setOther (by simp) _).drew
        · rw [← tf_step _ _ _ HM.out hlt, ← HY.out, ← KC_set _ _ _ (by rw [tf_len _ _ _ HM.out hk]; exact hlt)]; exact (HB.out.set _ _).drew
        · exact (HBel.out.setCell (by simp) _).drew
      case measure => simp [intOf]; omega
    · have : k = m := by omega
      subst this
      go_wp2
      go_ret
      refine ⟨rfl, HBel.out, _, by rw [HM.out]; exact HT.out, .inr ⟨H0.out, rfl, ?_⟩⟩
      have := HB.out
      rw [tf_all _ _ HM.out] at this
      exact this
end Go.Proofs.Qxb6600404a
