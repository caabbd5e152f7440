import Derived.Test.Qxb6600404aDense
namespace Go.Proofs.Qxb6600404a
open Go.RowKit
set_option linter.unusedVariables false

/-- the cells of a row of runs -/
def PC (R : List (Int × Int)) : List Value := R.flatMap fun p => [.int .i64 p.1, .int .i64 p.2]
theorem PC_len (R : List (Int × Int)) : (PC R).length = R.length * 2 := by
  induction R with
  | nil => rfl
  | cons p R ih => simp only [PC, List.flatMap_cons, List.length_append, List.length_cons, List.length_nil] at *; omega
theorem PC_cons (p : Int × Int) (R : List (Int × Int)) : PC (p :: R) = .int .i64 p.1 :: .int .i64 p.2 :: PC R := rfl
theorem PC_lo (R : List (Int × Int)) (i : Nat) (hi : i < R.length) : (PC R)[i * 2]? = some (.int .i64 (R.getD i (0, 0)).1) := by
  induction R generalizing i with
  | nil => simp at hi
  | cons p R ih =>
    rw [PC_cons]
    cases i with
    | zero => rfl
    | succ i =>
      have e : (i + 1) * 2 = i * 2 + 1 + 1 := by omega
      simp only [List.length_cons] at hi
      rw [e, List.getElem?_cons_succ, List.getElem?_cons_succ, ih i (by omega)]; rfl
theorem PC_hi (R : List (Int × Int)) (i : Nat) (hi : i < R.length) : (PC R)[i * 2 + 1]? = some (.int .i64 (R.getD i (0, 0)).2) := by
  induction R generalizing i with
  | nil => simp at hi
  | cons p R ih =>
    rw [PC_cons]
    cases i with
    | zero => rfl
    | succ i =>
      have e : (i + 1) * 2 + 1 = (i * 2 + 1) + 1 + 1 := by omega
      simp only [List.length_cons] at hi
      rw [e, List.getElem?_cons_succ, List.getElem?_cons_succ, ih i (by omega)]; rfl
theorem PC_set (R : List (Int × Int)) (i : Nat) (a b : Int) (hi : i < R.length) : ((PC R).set (i * 2) (.int .i64 a)).set (i * 2 + 1) (.int .i64 b) = PC (R.set i (a, b)) := by
  induction R generalizing i with
  | nil => simp at hi
  | cons p R ih =>
    rw [PC_cons]
    cases i with
    | zero => rfl
    | succ i =>
      have e1 : (i + 1) * 2 = i * 2 + 1 + 1 := by omega
      simp only [List.length_cons] at hi
      rw [e1, List.set_cons_succ, List.set_cons_succ, List.set_cons_succ, List.set_cons_succ, ih i (by omega)]; rfl
theorem Try.info68 : (Try.prog.info? 68).map (fun i => (i.zero, i.size, i.bytes)) = some (some (.agg #[.int .i64 0, .int .i64 0]), 2, 16) := by kernel_rfl
def PZ (n : Nat) : List Value := PC (List.replicate n (0, 0))
theorem PZ_eq (n : Nat) : PZ n = List.replicate (n * 2) (.int .i64 0) := by
  induction n with
  | zero => rfl
  | succ n ih =>
    have e : (n + 1) * 2 = n * 2 + 1 + 1 := by omega
    unfold PZ at *
    rw [List.replicate_succ, PC_cons, ih, e, List.replicate_succ, List.replicate_succ]
theorem made_runs (n : Nat) : madeCells #[.int .i64 0, .int .i64 0] (n * 2) = (PZ n).toArray := by
  rw [PZ_eq]
  apply Array.ext'
  apply List.ext_getElem
  · simp [madeCells]
  · intro p h1 h2
    simp only [madeCells, Array.toList_map, Array.toList_range, List.getElem_map, List.getElem_range, List.getElem_replicate]
    have : p % 2 = 0 ∨ p % 2 = 1 := by omega
    rcases this with h | h <;> simp [h]
theorem run_mk64 (n : Nat) (h : n ≤ 2000000) (w : World) : (Instr.makeSlice 64 (.int .i64 (n : Int)) (.int .i64 (n : Int))).run Try.prog w = .ok (.slice (some ⟨w.heap.size, 0, none⟩) n n) (w.alloc (.cells (PZ n).toArray 68)) := by
  obtain ⟨i, hi, hzz⟩ := Option.map_eq_some_iff.1 Try.info68
  simp only [Prod.mk.injEq] at hzz
  obtain ⟨hz, hs, hb⟩ := hzz
  have := run_make (P := Try.prog) w 64 68 i _ Try.underlying64 hi hz .i64 .i64 (n : Int) (n : Int) (by omega) (by omega) (by rw [hb]; omega) (by omega)
  rw [this]
  simp only [Int.toNat_natCast, hs]
  rw [← made_runs]; rfl

/-- the runs, k of n done -/
def pf (R : List (Int × Int)) (k n : Nat) : List (Int × Int) := R.take k ++ List.replicate (n - k) (0, 0)
theorem pf_len (R : List (Int × Int)) (k n : Nat) (h : R.length = n) (hk : k ≤ n) : (pf R k n).length = n := by simp [pf]; omega
theorem pf_zero (R : List (Int × Int)) (n : Nat) : PC (pf R 0 n) = PZ n := by simp [pf, PZ]
theorem pf_all (R : List (Int × Int)) (n : Nat) (h : R.length = n) : pf R n n = R := by simp [pf, ← h]
theorem pf_step (R : List (Int × Int)) (k n : Nat) (h : R.length = n) (hk : k < n) : (pf R k n).set k (R.getD k (0, 0)) = pf R (k + 1) n := by
  unfold pf
  rw [List.set_append_right _ _ (by simp; omega)]
  have e1 : k - (R.take k).length = 0 := by simp; omega
  rw [e1]
  have e2 : n - k = (n - (k + 1)) + 1 := by omega
  rw [e2]
  simp only [List.replicate_succ, List.set_cons_zero]
  rw [List.take_succ_eq_append_getElem (by omega), List.append_assoc, List.getD_eq_getElem?_getD, List.getElem?_eq_getElem (by omega)]
  rfl
theorem zip_getD (lo hi : List Int) (i : Nat) (h : lo.length = hi.length) (hi' : i < lo.length) : (lo.zip hi).getD i (0, 0) = (lo.getD i 0, hi.getD i 0) := by
  simp only [List.getD_eq_getElem?_getD]
  rw [List.getElem?_eq_getElem (by simp; omega), List.getElem?_eq_getElem (by omega), List.getElem?_eq_getElem (by omega)]
  simp
theorem SR.ofBlk {w : World} {rb : Nat} {lo hi : List Int} {rest : List Value} (h : Blk w rb 68 (PC (lo.zip hi) ++ rest)) (hl : lo.length = hi.length) : SR w (some ⟨rb, 0, none⟩) lo hi := by
  refine .inr ⟨rb, rfl, h.lt, fun i hi' => ?_⟩
  have hz : i < (lo.zip hi).length := by simp; omega
  rw [h.cell, h.cell, List.getElem?_append_left (by rw [PC_len]; omega), List.getElem?_append_left (by rw [PC_len]; omega), PC_lo _ _ hz, PC_hi _ _ hz, zip_getD lo hi i hl hi']
  exact ⟨rfl, rfl⟩

/-- what 'ZZRunSetOf' leaves -/
def RunsLeft (w w' : World) (e : Ending) (lo hi : List Int) (u : Int) : Prop :=
  e = .returned (.pointer (some ⟨w.heap.size, 0, none⟩)) ∧ Below w.heap.size w w' ∧
    ∃ ra, Blk w' w.heap.size 66 [.slice ra lo.length lo.length, .int .i64 u] ∧
      ((lo = [] ∧ ra = none) ∨ (lo ≠ [] ∧ ra = some ⟨w.heap.size + 1, 0, none⟩ ∧ Blk w' (w.heap.size + 1) 68 (PC (lo.zip hi))))

set_option maxHeartbeats 1000000 in
theorem runSetOf_any (la ha : Option Addr) (lc hc : Nat) (lo hi : List Int) (u : Int) (w : World) (h1 : SI .i64 w la lo) (h2 : SI .i64 w ha hi) (hlen : lo.length = hi.length) (hl : lo.length ≤ 2000000) :
    Calls Try.prog 12 #[.slice la lo.length lc, .slice ha hi.length hc, .int .i64 u] w fun e w' => RunsLeft w w' e lo hi u := by
  by_cases h0 : lo = []
  · subst h0
    clear hlen
    go_enter Try.func12, Try.ntmps12
    go_wp2
    go_ret
    exact ⟨rfl, (Below.refl _ _).alloc (Nat.le_refl _) _, none, Blk.new w 66 _, .inl ⟨rfl, rfl⟩⟩
  rcases h1 with h | ⟨b1, o1, rfl, hb1, h1⟩
  · exact absurd h h0
  rcases h2 with h | ⟨b2, o2, rfl, hb2, h2⟩
  · subst h; exact absurd (List.length_eq_zero_iff.1 hlen) h0
  have hpos : 0 < lo.length := List.length_pos_iff.2 h0
  have hmk := run_mk64 lo.length (by omega)
  have H1 : Hid (∀ i, i < lo.length → w.cell? ⟨b1, o1 + i, none⟩ = some (.int .i64 (lo.getD i 0))) := h1
  have H2 : Hid (∀ i, i < hi.length → w.cell? ⟨b2, o2 + i, none⟩ = some (.int .i64 (hi.getD i 0))) := h2
  have H0 : Hid (lo ≠ []) := h0
  have HL : Hid (lo.length = hi.length) := hlen
  have HZ : Hid ((lo.zip hi).length = lo.length) := by show _ = _; simp; omega
  clear h1 h2 h0
  rw [← hlen]
  clear hlen
  generalize hm : lo.length = m at *
  have HM : Hid (lo.length = m) := hm
  clear hm
  have n1 : b1 ≠ w.heap.size := by omega
  have n2 : b1 ≠ w.heap.size + 1 := by omega
  have n3 : b2 ≠ w.heap.size := by omega
  have n4 : b2 ≠ w.heap.size + 1 := by omega
  go_enter Try.func12, Try.ntmps12
  go_wp2
  go_loopw [8] (fun i w' => ∃ k : Nat, k ≤ m ∧ i = .int .i64 k ∧ Blk w' w.heap.size 66 [.slice (some ⟨w.heap.size + 1, 0, none⟩) m m, .int .i64 u] ∧ Blk w' (w.heap.size + 1) 68 (PC (pf (lo.zip hi) k m)) ∧ Below w.heap.size w w') (fun i _ => m - (intOf i).toNat)
  case atStart =>
    refine ⟨0, by omega, rfl, (Blk.new w 66 [.slice (some ⟨w.heap.size + 1, 0, none⟩) m m, .int .i64 u]).alloc _, ?_, ((Below.refl _ _).alloc (Nat.le_refl _) _).alloc (by simp) _⟩
    rw [pf_zero]
    exact Blk.new2 w _ 68 (PZ m)
  case round =>
    obtain ⟨k, hk, rfl, hT, hB, hbel⟩ := hrel
    have HT : Hid (Blk wr w.heap.size 66 [.slice (some ⟨w.heap.size + 1, 0, none⟩) m m, .int .i64 u]) := hT
    have HB : Hid (Blk wr (w.heap.size + 1) 68 (PC (pf (lo.zip hi) k m))) := hB
    have HBel : Hid (Below w.heap.size w wr) := hbel
    clear hT hB hbel
    by_cases hlt : k < m
    · obtain ⟨y, hy⟩ : ∃ y, y = lo.getD k 0 := ⟨_, rfl⟩
      obtain ⟨z, hz⟩ : ∃ z, z = hi.getD k 0 := ⟨_, rfl⟩
      have hpl : k < (pf (lo.zip hi) k m).length := by rw [pf_len _ _ _ HZ.out hk]; exact hlt
      have c0 : wr.cell? ⟨w.heap.size, 0, none⟩ = some (.slice (some ⟨w.heap.size + 1, 0, none⟩) m m) := by rw [HT.out.cell]; rfl
      have c1 : wr.cell? ⟨b1, o1 + k, none⟩ = some (.int .i64 y) := by rw [HBel.out.cell (p := ⟨b1, o1 + k, none⟩) hb1, hy]; exact H1.out k hlt
      have c2 : wr.cell? ⟨b2, o2 + k, none⟩ = some (.int .i64 z) := by rw [HBel.out.cell (p := ⟨b2, o2 + k, none⟩) hb2, hz]; exact H2.out k (by have := HL.out; omega)
      obtain ⟨p, c3⟩ : ∃ p, wr.cell? ⟨w.heap.size + 1, k * 2, none⟩ = some (.int .i64 p) := ⟨_, by rw [HB.out.cell]; exact PC_lo _ _ hpl⟩
      obtain ⟨q, c4⟩ : ∃ q, wr.cell? ⟨w.heap.size + 1, k * 2 + 1, none⟩ = some (.int .i64 q) := ⟨_, by rw [HB.out.cell]; exact PC_hi _ _ hpl⟩
      have c5 : wr.frozen? ⟨w.heap.size + 1, k * 2, none⟩ = false := HB.out.frozen _
      have c6 : wr.frozen? ⟨w.heap.size + 1, k * 2 + 1, none⟩ = false := HB.out.frozen _
      have HP : Hid (k < (pf (lo.zip hi) k m).length) := hpl
      have HV : Hid ((lo.zip hi).getD k (0, 0) = (y, z)) := by show _ = _; rw [hy, hz]; exact zip_getD lo hi k (HM.out.trans HL.out) (by have := HM.out; omega)
      clear hy hz hpl
      have i1 : (k : Int) < (m : Int) := by omega
      go_wp2
      go_region
      all_goals go_wp2
      go_roundw
      case rel =>
        refine ⟨k + 1, by omega, by go_num, ?_, ?_, ?_⟩
        · exact ((HT.out.setOther (by simp) _).setOther (by simp) _).drew
        · rw [← pf_step _ _ _ HZ.out hlt, HV.out, ← PC_set _ _ _ _ HP.out]; exact ((HB.out.set _ _).set _ _).drew
        · exact ((HBel.out.setCell (by simp) _).setCell (by simp) _).drew
      case measure => simp [intOf]; omega
    · have : k = m := by omega
      subst this
      go_wp2
      go_ret
      refine ⟨rfl, HBel.out, _, by rw [HM.out]; exact HT.out, .inr ⟨H0.out, rfl, ?_⟩⟩
      have := HB.out
      rw [pf_all _ _ (by have := HZ.out; exact this)] at this
      exact this
end Go.Proofs.Qxb6600404a
