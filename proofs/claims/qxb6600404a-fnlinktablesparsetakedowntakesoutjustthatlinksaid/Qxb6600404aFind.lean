import Derived.Test.Qxb6600404aSparse
namespace Go.Proofs.Qxb6600404a
open Go.RowKit
set_option linter.unusedVariables false

def cmpRun (l h j : Int) : Int := if h ≤ j then -1 else if j < l then 1 else 0

set_option maxHeartbeats 400000 in
theorem cmp_any (l h j : Int) (w : World) :
    Calls Try.prog 66 #[.agg #[.int .i64 l, .int .i64 h], .int .i64 j] w fun e w' => e = .returned (.int .i64 (cmpRun l h j)) ∧ w' = w.alloc (.cells #[.int .i64 l, .int .i64 h] 68) := by
  unfold cmpRun
  by_cases h1 : h ≤ j
  · rw [if_pos h1]
    go_enter Try.func66, Try.ntmps66
    go_wp2
    go_ret
    exact ⟨rfl, rfl⟩
  · rw [if_neg h1]
    by_cases h2 : j < l
    · rw [if_pos h2]
      go_enter Try.func66, Try.ntmps66
      go_wp2
      go_ret
      exact ⟨rfl, rfl⟩
    · rw [if_neg h2]
      go_enter Try.func66, Try.ntmps66
      go_wp2
      go_ret
      exact ⟨rfl, rfl⟩

/-- where the search ends -/
def Found (lo hi : List Int) (n : Nat) (j : Int) (k : Nat) : Prop := k ≤ n ∧ (∀ p, p < k → hi.getD p 0 ≤ j) ∧ ∀ p, k ≤ p → p < n → j < hi.getD p 0

def FoundRet (w w' : World) (e : Ending) (lo hi : List Int) (n : Nat) (j : Int) : Prop :=
  ∃ (k : Nat) (B : Bool), e = .returned (.tuple #[.int .i64 k, .bool B]) ∧ Found lo hi n j k ∧ (B = true ↔ k < n ∧ lo.getD k 0 ≤ j) ∧ Below w.heap.size w w'

theorem canon_mono {lo hi : List Int} (h : Canon lo hi) : ∀ d p, p + d < lo.length → hi.getD p 0 ≤ hi.getD (p + d) 0 := by
  intro d
  induction d with
  | zero => intro p _; simp
  | succ d ih =>
    intro p hp
    have h1 := ih p (by omega)
    have h2 := h.2.2 (p + d) (by omega)
    have h3 := (h.2.1 (p + d + 1) (by omega)).2.2
    have : p + (d + 1) = p + d + 1 := by omega
    rw [this]; omega
theorem canon_mono' {lo hi : List Int} (h : Canon lo hi) {p q : Nat} (hpq : p ≤ q) (hq : q < lo.length) : hi.getD p 0 ≤ hi.getD q 0 := by
  have := canon_mono h (q - p) p (by omega)
  rwa [show p + (q - p) = q from by omega] at this
theorem found_in {lo hi : List Int} (h : Canon lo hi) {j : Int} {k : Nat} (hf : Found lo hi lo.length j k) : (k < lo.length ∧ lo.getD k 0 ≤ j) ↔ InRuns lo hi j := by
  constructor
  · rintro ⟨h1, h2⟩
    exact ⟨k, h1, h2, hf.2.2 k (Nat.le_refl _) h1⟩
  · rintro ⟨i, hi1, hi2, hi3⟩
    have hki : ¬ i < k := fun hlt => by have := hf.2.1 i hlt; omega
    have hkl : k < lo.length := by omega
    refine ⟨hkl, ?_⟩
    have h4 := hf.2.2 k (Nat.le_refl _) hkl
    by_cases he : i = k
    · subst he; exact hi2
    · exfalso
      have h5 := h.2.2 k (by omega)
      have h6 := canon_mono' h (p := k) (q := i - 1) (by omega) (by omega)
      have h7 := h.2.2 (i - 1) (by omega)
      rw [show i - 1 + 1 = i from by omega] at h7
      omega

set_option maxHeartbeats 1000000 in
theorem search_any (ra : Option Addr) (rc : Nat) (lo hi : List Int) (j : Int) (w : World) (hs : SR w ra lo hi) (hc : Canon lo hi) (hl : lo.length ≤ 2000000) :
    Calls Try.prog 65 #[.slice ra lo.length rc, .int .i64 j, .func (.func 66) #[] #[]] w fun e w' => FoundRet w w' e lo hi lo.length j := by
  have HC : Hid (Canon lo hi) := hc
  clear hc
  rcases hs with rfl | ⟨rb, rfl, hrb, h1⟩
  · go_enter Try.func65, Try.ntmps65
    go_wp2
    refine wp_loop_rounds 1 ?_
    rw [rounds_succ]
    go_wp2
    go_ret2
    exact ⟨0, false, rfl, ⟨Nat.le_refl _, fun p hp => by omega, fun p _ hp => by simp at hp⟩, by simp, Below.refl _ _⟩
  have H1 : Hid (∀ i, i < lo.length → w.cell? ⟨rb, i * 2, none⟩ = some (.int .i64 (lo.getD i 0)) ∧ w.cell? ⟨rb, i * 2 + 1, none⟩ = some (.int .i64 (hi.getD i 0))) := h1
  clear h1
  generalize hn : lo.length = n at *
  have HN : Hid (lo.length = n) := hn
  clear hn
  go_enter Try.func65, Try.ntmps65
  go_wp2
  go_loopw [9, 10] (fun a b w' => ∃ i q : Nat, i ≤ q ∧ q ≤ n ∧ a = .int .i64 i ∧ b = .int .i64 q ∧ (∀ p, p < i → hi.getD p 0 ≤ j) ∧ (∀ p, q ≤ p → p < n → j < hi.getD p 0) ∧ Below w.heap.size w w') (fun a b _ => (intOf b - intOf a).toNat)
  case atStart => exact ⟨0, n, by omega, by omega, rfl, rfl, fun p hp => by omega, fun p hp hp' => by omega, Below.refl _ _⟩
  case round =>
    obtain ⟨i, q, hiq, hq, rfl, rfl, f1, f2, hbel⟩ := hrel
    have F1 : Hid (∀ p, p < i → hi.getD p 0 ≤ j) := f1
    have F2 : Hid (∀ p, q ≤ p → p < n → j < hi.getD p 0) := f2
    have HB : Hid (Below w.heap.size w wr) := hbel
    clear f1 f2 hbel
    by_cases hlt : i < q
    · have hm1 : i ≤ (i + q) / 2 := by omega
      have hm2 : (i + q) / 2 < q := by omega
      have hm3 : (i + q) / 2 < n := by omega
      obtain ⟨y, hy⟩ : ∃ y, y = lo.getD ((i + q) / 2) 0 := ⟨_, rfl⟩
      obtain ⟨z, hz⟩ : ∃ z, z = hi.getD ((i + q) / 2) 0 := ⟨_, rfl⟩
      have c1 : wr.cell? ⟨rb, (i + q) / 2 * 2, none⟩ = some (.int .i64 y) := by rw [HB.out.cell (p := ⟨rb, (i + q) / 2 * 2, none⟩) hrb, hy]; exact (H1.out _ hm3).1
      have c2 : wr.cell? ⟨rb, (i + q) / 2 * 2 + 1, none⟩ = some (.int .i64 z) := by rw [HB.out.cell (p := ⟨rb, (i + q) / 2 * 2 + 1, none⟩) hrb, hz]; exact (H1.out _ hm3).2
      have HZ : Hid (z = hi.getD ((i + q) / 2) 0) := hz
      clear hy hz
      go_wp2_with fail
      refine (cmp_any y z j wr).mono ?_
      rintro e w2 ⟨rfl, rfl⟩
      unfold cmpRun
      have sz := HB.out.size
      by_cases hzj : z ≤ j
      · rw [if_pos hzj]
        go_wp2
        go_roundw
        case rel =>
          refine ⟨(i + q) / 2 + 1, q, by omega, hq, by go_num, rfl, fun p hp => ?_, F2.out, HB.out.alloc sz _⟩
          have := canon_mono' HC.out (p := p) (q := (i + q) / 2) (by omega) (by rw [HN.out]; exact hm3)
          rw [← HZ.out] at this; omega
        case measure => simp [intOf]; omega
      · rw [if_neg hzj]
        have hge : ¬ (if j < y then (1 : Int) else 0) < 0 := by split <;> omega
        generalize (if j < y then (1 : Int) else 0) = v at *
        go_wp2
        go_roundw
        case rel =>
          refine ⟨i, (i + q) / 2, hm1, by omega, rfl, rfl, F1.out, fun p hp hp' => ?_, HB.out.alloc sz _⟩
          have := canon_mono' HC.out (p := (i + q) / 2) (q := p) hp (by rw [HN.out]; exact hp')
          rw [← HZ.out] at this; omega
        case measure => simp [intOf]; omega
    · have hiq' : i = q := by omega
      subst hiq'
      by_cases hin : i < n
      · obtain ⟨y, hy⟩ : ∃ y, y = lo.getD i 0 := ⟨_, rfl⟩
        obtain ⟨z, hz⟩ : ∃ z, z = hi.getD i 0 := ⟨_, rfl⟩
        have c1 : wr.cell? ⟨rb, i * 2, none⟩ = some (.int .i64 y) := by rw [HB.out.cell (p := ⟨rb, i * 2, none⟩) hrb, hy]; exact (H1.out _ hin).1
        have c2 : wr.cell? ⟨rb, i * 2 + 1, none⟩ = some (.int .i64 z) := by rw [HB.out.cell (p := ⟨rb, i * 2 + 1, none⟩) hrb, hz]; exact (H1.out _ hin).2
        have HY : Hid (y = lo.getD i 0) := hy
        have hzj : ¬ z ≤ j := by have := F2.out i (Nat.le_refl _) hin; rw [← hz] at this; omega
        clear hy hz
        have sz := HB.out.size
        go_wp2_with fail
        refine (cmp_any y z j wr).mono ?_
        rintro e w2 ⟨rfl, rfl⟩
        unfold cmpRun
        rw [if_neg (by omega)]
        by_cases hjy : j < y
        · rw [if_pos hjy]
          go_wp2
          go_ret2
          exact ⟨i, false, rfl, ⟨hq, F1.out, F2.out⟩, ⟨fun h => (by cases h), fun h => (by have := h.2; rw [← HY.out] at this; omega)⟩, HB.out.alloc sz _⟩
        · rw [if_neg hjy]
          go_wp2
          go_ret2
          exact ⟨i, true, rfl, ⟨hq, F1.out, F2.out⟩, ⟨fun h => ⟨hin, by rw [← HY.out]; omega⟩, fun h => rfl⟩, HB.out.alloc sz _⟩
      · have hd : decide ((i : Int) < (n : Int)) = false := by simp; omega
        go_wp2_with fail
        go_ret2
        exact ⟨i, false, rfl, ⟨hq, F1.out, F2.out⟩, ⟨fun h => (by cases h), fun h => absurd h.1 hin⟩, HB.out⟩

set_option maxHeartbeats 400000 in
theorem find_any (tb : Nat) (ra : Option Addr) (rc : Nat) (lo hi : List Int) (j : Int) (w : World) (ht : w.cell? ⟨tb, 3, none⟩ = some (.slice ra lo.length rc)) (hs : SR w ra lo hi) (hc : Canon lo hi) (hl : lo.length ≤ 2000000) :
    Calls Try.prog 57 #[.pointer (some ⟨tb, 3, none⟩), .int .i64 j] w fun e w' => FoundRet w w' e lo hi lo.length j := by
  have key := search_any ra rc lo hi j w hs hc hl
  have K : Hid (Calls Try.prog 65 #[.slice ra lo.length rc, .int .i64 j, .func (.func 66) #[] #[]] w fun e w' => FoundRet w w' e lo hi lo.length j) := key
  clear key hs hc
  go_enter Try.func57, Try.ntmps57
  go_wp2_with fail
  refine K.out.mono ?_
  rintro e w1 ⟨k, B, rfl, k1, k2, k3⟩
  go_wp2_with fail
  go_ret2
  exact ⟨k, B, rfl, k1, k2, k3⟩

set_option maxHeartbeats 400000 in
theorem has_any (tb : Nat) (ra : Option Addr) (rc : Nat) (lo hi : List Int) (j : Int) (w : World) (ht : w.cell? ⟨tb, 3, none⟩ = some (.slice ra lo.length rc)) (hs : SR w ra lo hi) (hc : Canon lo hi) (hl : lo.length ≤ 2000000) :
    Calls Try.prog 55 #[.pointer (some ⟨tb, 3, none⟩), .int .i64 j] w fun e w' => RetIff e (InRuns lo hi j) ∧ Below w.heap.size w w' := by
  have key := find_any tb ra rc lo hi j w ht hs hc hl
  have K : Hid (Calls Try.prog 57 #[.pointer (some ⟨tb, 3, none⟩), .int .i64 j] w fun e w' => FoundRet w w' e lo hi lo.length j) := key
  have HC : Hid (Canon lo hi) := hc
  clear key hs hc
  go_enter Try.func55, Try.ntmps55
  go_wp2_with fail
  refine K.out.mono ?_
  rintro e w1 ⟨k, B, rfl, k1, k2, k3⟩
  have HX : Hid (B = true ↔ InRuns lo hi j) := k2.trans (found_in HC.out k1)
  have HB : Hid (Below w.heap.size w w1) := k3
  clear k1 k2 k3
  go_wp2_with fail
  go_ret
  exact ⟨⟨B, rfl, HX.out⟩, HB.out⟩
end Go.Proofs.Qxb6600404a
