import Derived.Test.Qxb6600404aTab
namespace Go.Proofs.Qxb6600404a
open Go.RowKit
set_option linter.unusedVariables false

/-- the runs behind the address ra read as lo, hi -/
def SR (w : World) (ra : Option Addr) (lo hi : List Int) : Prop :=
  lo = [] ∨ ∃ rb, ra = some ⟨rb, 0, none⟩ ∧ rb < w.heap.size ∧ ∀ i, i < lo.length → w.cell? ⟨rb, i * 2, none⟩ = some (.int .i64 (lo.getD i 0)) ∧ w.cell? ⟨rb, i * 2 + 1, none⟩ = some (.int .i64 (hi.getD i 0))
theorem SR.keep {w w' : World} {a : Option Addr} {lo hi : List Int} (h : SR w a lo hi) (hs : w.heap.size ≤ w'.heap.size) (hb : ∀ x, a = some x → w'.heap[x.block]? = w.heap[x.block]?) : SR w' a lo hi := by
  rcases h with h | ⟨b, rfl, hlt, hc⟩
  · exact .inl h
  · exact .inr ⟨b, rfl, Nat.lt_of_lt_of_le hlt hs, fun i hi => by rw [World.cell?_of_block (w := w) (a := ⟨b, i * 2, none⟩) (hb ⟨b, 0, none⟩ rfl), World.cell?_of_block (w := w) (a := ⟨b, i * 2 + 1, none⟩) (hb ⟨b, 0, none⟩ rfl)]; exact hc i hi⟩
theorem SR.below {w w' : World} {a : Option Addr} {lo hi : List Int} (h : SR w a lo hi) (hb : Below w.heap.size w w') : SR w' a lo hi := by
  rcases h with h | ⟨b, rfl, hlt, hc⟩
  · exact .inl h
  · exact .inr ⟨b, rfl, Nat.lt_of_lt_of_le hlt hb.size, fun i hi => by rw [hb.cell (p := ⟨b, i * 2, none⟩) hlt, hb.cell (p := ⟨b, i * 2 + 1, none⟩) hlt]; exact hc i hi⟩
theorem SR.drewN {w : World} {a : Option Addr} {lo hi : List Int} (h : SR w a lo hi) (n : Nat) : SR (w.drewN n) a lo hi := h

/-- what the two rows are that come back -/
def TwoRows (w w' : World) (e : Ending) (n : Nat) (lo hi : List Int) (u : Int) : Prop :=
  e = .returned (.tuple #[.slice (some ⟨w.heap.size, 0, none⟩) n n, .slice (some ⟨w.heap.size + 1, 0, none⟩) n n, .int .i64 u]) ∧ Blk w' w.heap.size 3 (ints .i64 lo) ∧ Blk w' (w.heap.size + 1) 3 (ints .i64 hi) ∧ Below w.heap.size w w' ∧ w'.heap.size = w.heap.size + 2

set_option maxHeartbeats 1000000 in
theorem runs_any (tb : Nat) (ra : Option Addr) (rc : Nat) (lo hi : List Int) (u : Int) (w : World) (htb : tb < w.heap.size) (ht : w.cell? ⟨tb, 3, none⟩ = some (.slice ra lo.length rc)) (hu : w.cell? ⟨tb, 4, none⟩ = some (.int .i64 u)) (ha : SR w ra lo hi) (hlen : lo.length = hi.length) (hl : lo.length ≤ 2000000) :
    Calls Try.prog 14 #[.pointer (some ⟨tb, 3, none⟩)] w fun e w' => TwoRows w w' e lo.length lo hi u := by
  rcases ha with rfl | ⟨b1, rfl, hb, h1⟩
  · have hmk := mk22_zero
    have : hi = [] := by rw [← List.length_eq_zero_iff, ← hlen]; rfl
    subst this
    clear hlen
    go_enter Try.func14, Try.ntmps14
    go_wp2
    refine wp_loop_rounds 1 ?_
    rw [rounds_succ]
    go_wp2
    go_quiet (fail)
    go_wp2
    go_ret3
    refine ⟨rfl, ((Blk.new w 3 []).alloc _).drewN _, ?_, ?_, by simp⟩
    · have := Blk.new (w.alloc (.cells #[] 3)) 3 []
      show Blk _ _ 3 []
      simpa using this.drewN _
    · exact below_drewN (((Below.refl _ _).alloc (Nat.le_refl _) _).alloc (by simp) _) _
  have hmk := run_mk22 lo.length (by omega)
  have H1 : Hid (∀ i, i < lo.length → w.cell? ⟨b1, i * 2, none⟩ = some (.int .i64 (lo.getD i 0)) ∧ w.cell? ⟨b1, i * 2 + 1, none⟩ = some (.int .i64 (hi.getD i 0))) := h1
  clear h1
  have HL : Hid (hi.length = lo.length) := hlen.symm
  clear hlen
  generalize hn : lo.length = n at *
  have HN : Hid (lo.length = n) := hn
  clear hn
  have n1 : tb ≠ w.heap.size := by omega
  have n2 : tb ≠ w.heap.size + 1 := by omega
  have n3 : b1 ≠ w.heap.size := by omega
  have n4 : b1 ≠ w.heap.size + 1 := by omega
  go_enter Try.func14, Try.ntmps14
  go_wp2
  go_loopw [7] (fun i w' => ∃ k : Nat, k ≤ n ∧ i = .int .i64 k ∧ Blk w' w.heap.size 3 (fill .i64 lo k n) ∧ Blk w' (w.heap.size + 1) 3 (fill .i64 hi k n) ∧ Below w.heap.size w w' ∧ w'.heap.size = w.heap.size + 2) (fun i _ => n - (intOf i).toNat)
  case atStart =>
    refine ⟨0, by omega, rfl, by rw [fill_zero]; exact (Blk.new w 3 _).alloc _, ?_, ((Below.refl _ _).alloc (Nat.le_refl _) _).alloc (by simp) _, by simp⟩
    rw [fill_zero]
    have := Blk.new (w.alloc (.cells (zr (.int .i64 0) n).toArray 3)) 3 (zr (.int .i64 0) n)
    simpa using this
  case round =>
    obtain ⟨k, hk, rfl, hB, hB2, hbel, hsz⟩ := hrel
    have HB : Hid (Blk wr w.heap.size 3 (fill .i64 lo k n)) := hB
    have HB2 : Hid (Blk wr (w.heap.size + 1) 3 (fill .i64 hi k n)) := hB2
    have HBel : Hid (Below w.heap.size w wr) := hbel
    have HSZ : Hid (wr.heap.size = w.heap.size + 2) := hsz
    clear hB hbel hsz hB2
    have c0 : wr.cell? ⟨tb, 3, none⟩ = some (.slice (some ⟨b1, 0, none⟩) n rc) := by rw [HBel.out.cell (p := ⟨tb, 3, none⟩) htb]; exact ht
    have c01 : wr.cell? ⟨tb, 4, none⟩ = some (.int .i64 u) := by rw [HBel.out.cell (p := ⟨tb, 4, none⟩) htb]; exact hu
    by_cases hlt : k < n
    · obtain ⟨y, hy⟩ : ∃ y, y = lo.getD k 0 := ⟨_, rfl⟩
      obtain ⟨z, hz⟩ : ∃ z, z = hi.getD k 0 := ⟨_, rfl⟩
      have c1 : wr.cell? ⟨b1, k * 2, none⟩ = some (.int .i64 y) := by rw [HBel.out.cell (p := ⟨b1, k * 2, none⟩) hb, hy]; exact (H1.out k hlt).1
      have c11 : wr.cell? ⟨b1, k * 2 + 1, none⟩ = some (.int .i64 z) := by rw [HBel.out.cell (p := ⟨b1, k * 2 + 1, none⟩) hb, hz]; exact (H1.out k hlt).2
      have c2 : wr.cell? ⟨w.heap.size, k, none⟩ = some (.int .i64 0) := by rw [HB.out.cell]; exact fill_at _ _ _ _ HN.out hlt
      have c3 : wr.frozen? ⟨w.heap.size, k, none⟩ = false := HB.out.frozen k
      have c4 : wr.cell? ⟨w.heap.size + 1, k, none⟩ = some (.int .i64 0) := by rw [HB2.out.cell]; exact fill_at _ _ _ _ HL.out hlt
      have c5 : wr.frozen? ⟨w.heap.size + 1, k, none⟩ = false := HB2.out.frozen k
      have HY : Hid (y = lo.getD k 0) := hy
      have HZ : Hid (z = hi.getD k 0) := hz
      clear hy hz
      go_wp2
      go_roundw
      case rel =>
        refine ⟨k + 1, by omega, by go_num, ?_, ?_, (HBel.out.setCell (Nat.le_refl _) _).setCell (by simp) _, by simpa using HSZ.out⟩
        · rw [← fill_step _ _ _ _ HN.out hlt, ← HY.out]; exact (HB.out.set _ _).setOther (by simp) _
        · rw [← fill_step _ _ _ _ HL.out hlt, ← HZ.out]; exact (HB2.out.setOther (by simp) _).set _ _
      case measure => simp [intOf]; omega
    · have : k = n := by omega
      subst this
      go_wp2
      go_quiet (fail)
      go_wp2
      go_ret3
      refine ⟨rfl, ?_, ?_, below_drewN HBel.out _, by simpa using HSZ.out⟩
      · rw [← fill_all _ _ _ HN.out]; exact HB.out.drewN _
      · rw [← fill_all _ _ _ HL.out]; exact HB2.out.drewN _

set_option maxHeartbeats 400000 in
theorem up_any (tb : Nat) (ra : Option Addr) (rc : Nat) (lo hi : List Int) (u : Int) (w : World) (htb : tb < w.heap.size) (ht : w.cell? ⟨tb, 3, none⟩ = some (.slice ra lo.length rc)) (hu : w.cell? ⟨tb, 4, none⟩ = some (.int .i64 u)) (ha : SR w ra lo hi) (hlen : lo.length = hi.length) (hl : lo.length ≤ 2000000) :
    Calls Try.prog 38 #[.pointer (some ⟨tb, 0, none⟩)] w fun e w' => TwoRows w w' e lo.length lo hi u := by
  have key := runs_any tb ra rc lo hi u w htb ht hu ha hlen hl
  have K : Hid (Calls Try.prog 14 #[.pointer (some ⟨tb, 3, none⟩)] w fun e w' => TwoRows w w' e lo.length lo hi u) := key
  clear key hlen
  go_enter Try.func38, Try.ntmps38
  go_wp2_with fail
  refine K.out.mono ?_
  rintro e w1 ⟨rfl, k1, k2, k3, k4⟩
  go_wp2
  go_ret3
  exact ⟨rfl, k1, k2, k3, k4⟩
end Go.Proofs.Qxb6600404a
