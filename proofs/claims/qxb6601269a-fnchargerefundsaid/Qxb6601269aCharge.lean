import Derived.Test.Qxb6601269aRows
import Derived.WalkKit
import Derived.WalkSpells
import Derived.WalkLawsBesides
import Derived.Deep.QuietTactic
import Derived.BigQuiet
import Derived.RegionTactic
import Derived.Deep.RegionWith
namespace Go.Proofs.Qxb6601269a
open Go.RowKit
set_option linter.unusedVariables false

theorem below_drewN {B : Nat} {a w : World} (h : Below B a w) (n : Nat) : Below B a (w.drewN n) := ⟨h.os, h.tape, h.output, h.size, h.block⟩
set_option maxHeartbeats 400000 in
theorem within_any (v f : Int) (w : World) (h0 : 0 ≤ f) (h1 : f ≤ 2305843009213693952) (h2 : -f ≤ v) (h3 : v ≤ f) :
    Calls Try.prog 14 #[.int .i64 v, .int .i64 f] w fun e w' => e = .returned (.int .i64 v) ∧ w' = w := by
  have m1 : (if -f < v then v else -f) = v := by split <;> omega
  have m2 : (if v < f then v else f) = v := by split <;> omega
  go_enter Try.func14, Try.ntmps14
  go_wp2
  go_ret
  exact ⟨rfl, rfl⟩

set_option maxHeartbeats 400000 in
theorem windowed_any (rb : Nat) (d : Int) (w : World) (h : w.cell? ⟨rb, 3, none⟩ = some (.int .i64 d)) :
    Calls Try.prog 13 #[.pointer (some ⟨rb, 0, none⟩)] w fun e w' => e = .returned (.bool (d == 0)) ∧ w' = w := by
  go_enter Try.func13, Try.ntmps13
  go_wp2
  go_ret
  exact ⟨rfl, rfl⟩

/-- a token bucket is charged, and no clamp is met -/
def CellsOf (w : World) (rb bb : Nat) (d full bal at_ : Int) : Prop :=
  w.cell? ⟨rb, 3, none⟩ = some (.int .i64 d) ∧ w.cell? ⟨rb, 6, none⟩ = some (.int .i64 full) ∧ w.cell? ⟨bb, 0, none⟩ = some (.int .i64 bal) ∧ w.cell? ⟨bb, 1, none⟩ = some (.int .i64 at_) ∧ w.frozen? ⟨bb, 0, none⟩ = false ∧ w.frozen? ⟨bb, 1, none⟩ = false

set_option maxHeartbeats 1000000 in
theorem charge_tok (rb bb : Nat) (d full bal at_ units now : Int) (w : World) (hc : CellsOf w rb bb d full bal at_) (hd : (d == 0) = false) (h0 : 0 ≤ full) (h1 : full ≤ 2305843009213693952) (hb1 : -full ≤ bal) (hb2 : bal ≤ full) (hu1 : -full ≤ units) (hu2 : units ≤ full) (h2 : -full ≤ bal - units) (h3 : bal - units ≤ full) :
    Calls Try.prog 12 #[.pointer (some ⟨rb, 0, none⟩), .pointer (some ⟨bb, 0, none⟩), .int .i64 units, .int .i64 now] w fun e w' => e = .returned (.tuple #[]) ∧ ∃ n, w' = (w.setCell ⟨bb, 0, none⟩ (.int .i64 (bal - units))).drewN n := by
  obtain ⟨c1, c2, c3, c4, c5, c6⟩ := hc
  have hwr : IntKind.i64.wrap (bal - units) = bal - units := by rw [IntKind.wrap_i64]; omega
  have K : Hid (Calls Try.prog 13 #[.pointer (some ⟨rb, 0, none⟩)] w fun e w' => e = .returned (.bool (d == 0)) ∧ w' = w) := windowed_any rb d w c1
  go_enter Try.func12, Try.ntmps12
  go_wp2_with fail
  refine K.out.mono ?_
  rintro e w' ⟨rfl, hw⟩
  cases hw
  rw [hd]
  go_wp2_with fail
  go_region_with (go_at_call 14; refine (within_any _ _ _ h0 h1 h2 h3).mono ?_; rintro e w' ⟨rfl, rfl⟩)
  all_goals go_wp2
  all_goals exact bodyPost_ret (v := .tuple #[]) (by simp [results, Try.results12, go_sem]) rfl ⟨rfl, 1, rfl⟩

set_option maxHeartbeats 1000000 in
theorem charge_win_same (rb bb : Nat) (d full bal at_ units now : Int) (w : World) (hc : CellsOf w rb bb d full bal at_) (hd : (d == 0) = true) (h0 : 0 ≤ full) (h1 : full ≤ 2305843009213693952) (hb1 : 0 ≤ bal) (hb2 : bal ≤ full) (hu1 : -full ≤ units) (hu2 : units ≤ full) (h2 : 0 ≤ bal - units) (h3 : bal - units ≤ full)
    (hno : decide (0 < units) = false ∨ (0 < units ∧ (at_ == -4611686018427387904) = false)) :
    Calls Try.prog 12 #[.pointer (some ⟨rb, 0, none⟩), .pointer (some ⟨bb, 0, none⟩), .int .i64 units, .int .i64 now] w fun e w' => e = .returned (.tuple #[]) ∧ ∃ n, w' = (w.setCell ⟨bb, 0, none⟩ (.int .i64 (bal - units))).drewN n := by
  obtain ⟨c1, c2, c3, c4, c5, c6⟩ := hc
  have hwr : IntKind.i64.wrap (bal - units) = bal - units := by rw [IntKind.wrap_i64]; omega
  have m1 : (if units < bal then bal - units else 0) = bal - units := by split <;> omega
  have m2 : (if bal - units < full then bal - units else full) = bal - units := by split <;> omega
  have K : Hid (Calls Try.prog 13 #[.pointer (some ⟨rb, 0, none⟩)] w fun e w' => e = .returned (.bool (d == 0)) ∧ w' = w) := windowed_any rb d w c1
  rcases hno with hno | ⟨hno, hno2⟩
  all_goals
    go_enter Try.func12, Try.ntmps12
    go_wp2_with fail
    refine K.out.mono ?_
    rintro e w' ⟨rfl, hw⟩
    cases hw
    rw [hd]
    go_wp2_with fail
    go_region
    all_goals go_end0
    all_goals exact ⟨rfl, 1, rfl⟩

set_option maxHeartbeats 1000000 in
theorem charge_win_open (rb bb : Nat) (d full bal at_ units now : Int) (w : World) (hc : CellsOf w rb bb d full bal at_) (hd : (d == 0) = true) (h0 : 0 ≤ full) (h1 : full ≤ 2305843009213693952) (hb1 : 0 ≤ bal) (hb2 : bal ≤ full) (hu1 : -full ≤ units) (hu2 : units ≤ full) (h2 : 0 ≤ bal - units) (h3 : bal - units ≤ full)
    (hno : 0 < units) (hno2 : (at_ == -4611686018427387904) = true) :
    Calls Try.prog 12 #[.pointer (some ⟨rb, 0, none⟩), .pointer (some ⟨bb, 0, none⟩), .int .i64 units, .int .i64 now] w fun e w' => e = .returned (.tuple #[]) ∧ ∃ n, w' = ((w.setCell ⟨bb, 1, none⟩ (.int .i64 now)).setCell ⟨bb, 0, none⟩ (.int .i64 (bal - units))).drewN n := by
  obtain ⟨c1, c2, c3, c4, c5, c6⟩ := hc
  have hwr : IntKind.i64.wrap (bal - units) = bal - units := by rw [IntKind.wrap_i64]; omega
  have m1 : (if units < bal then bal - units else 0) = bal - units := by split <;> omega
  have m2 : (if bal - units < full then bal - units else full) = bal - units := by split <;> omega
  have K : Hid (Calls Try.prog 13 #[.pointer (some ⟨rb, 0, none⟩)] w fun e w' => e = .returned (.bool (d == 0)) ∧ w' = w) := windowed_any rb d w c1
  go_enter Try.func12, Try.ntmps12
  go_wp2_with fail
  refine K.out.mono ?_
  rintro e w' ⟨rfl, hw⟩
  cases hw
  rw [hd]
  go_wp2_with fail
  go_region
  all_goals go_end0
  all_goals exact ⟨rfl, 1, rfl⟩

/-- where the bucket stands after a charge -/
def atAfter (d at_ units now : Int) : Int := if d = 0 ∧ 0 < units ∧ at_ = -4611686018427387904 then now else at_

set_option maxHeartbeats 1000000 in
theorem zz_any (t0 d full base bal at_ units now : Int) (t1 r1 : Int) (t2 r2 : Int) (w : World) (h0 : 0 ≤ full) (h1 : full ≤ 2305843009213693952) (hb2 : bal ≤ full) (hu1 : -full ≤ units) (hu2 : units ≤ full) (h3 : bal - units ≤ full)
    (hlo : (d = 0 ∧ 0 ≤ bal ∧ 0 ≤ bal - units) ∨ (d ≠ 0 ∧ -full ≤ bal ∧ -full ≤ bal - units)) :
    Calls Try.prog 10 #[.int .i64 t0, .int .u64 t1, .int .u8 t2, .int .i64 d, .int .u64 r1, .int .u8 r2, .int .i64 full, .int .i64 base, .int .i64 bal, .int .i64 at_, .int .i64 units, .int .i64 now] w fun e w' => e = .returned (.tuple #[.int .i64 (bal - units), .int .i64 (atAfter d at_ units now)]) ∧ Below w.heap.size w w' := by
  have hcl : ∀ wx : World, wx = ((w.alloc (.cells #[.int .i64 t0, .int .u64 t1, .int .u8 t2, .int .i64 d, .int .u64 r1, .int .u8 r2, .int .i64 full, .int .i64 base] 44)).alloc (.cells #[.int .i64 bal, .int .i64 at_] 46)) → CellsOf wx w.heap.size (w.heap.size + 1) d full bal at_ := by
    rintro wx rfl
    unfold CellsOf
    refine ⟨?_, ?_, ?_, ?_, ?_, ?_⟩ <;> go_simp
  have HC : Hid (∀ wx : World, wx = ((w.alloc (.cells #[.int .i64 t0, .int .u64 t1, .int .u8 t2, .int .i64 d, .int .u64 r1, .int .u8 r2, .int .i64 full, .int .i64 base] 44)).alloc (.cells #[.int .i64 bal, .int .i64 at_] 46)) → CellsOf wx w.heap.size (w.heap.size + 1) d full bal at_) := hcl
  clear hcl
  rcases hlo with ⟨hd, hl1, hl2⟩ | ⟨hd, hl1, hl2⟩
  · have hd' : (d == 0) = true := by simp [hd]
    by_cases hop : 0 < units ∧ at_ = -4611686018427387904
    · have HA : Hid (atAfter d at_ units now = now) := by show _ = _; unfold atAfter; rw [if_pos ⟨hd, hop⟩]
      have ho1 := hop.1
      have ho2 : (at_ == -4611686018427387904) = true := by simp [hop.2]
      clear hop hd
      go_enter Try.func10, Try.ntmps10
      go_wp2_with fail
      refine (charge_win_open _ _ d full bal at_ units now _ (HC.out _ rfl) hd' h0 h1 hl1 hb2 hu1 hu2 hl2 h3 ho1 ho2).mono ?_
      rintro e w' ⟨rfl, n, rfl⟩
      go_wp2_with fail
      go_quiet (fail)
      go_wp2_with fail
      go_ret2
      rw [HA.out]
      refine ⟨rfl, ?_⟩
      repeat (first | exact ((Below.refl _ _).alloc (Nat.le_refl _) _).alloc (by simp) _ | apply below_drewN | (refine Below.setCell ?_ (by simp) _))
    · have HA : Hid (atAfter d at_ units now = at_) := by show _ = _; unfold atAfter; rw [if_neg (fun h => hop h.2)]
      have hno : decide (0 < units) = false ∨ (0 < units ∧ (at_ == -4611686018427387904) = false) := by
        by_cases hu : 0 < units
        · right; exact ⟨hu, by simp; intro e; exact hop ⟨hu, e⟩⟩
        · left; simpa using hu
      have HNO : Hid (decide (0 < units) = false ∨ (0 < units ∧ (at_ == -4611686018427387904) = false)) := hno
      clear hop hd hno
      go_enter Try.func10, Try.ntmps10
      go_wp2_with fail
      refine (charge_win_same _ _ d full bal at_ units now _ (HC.out _ rfl) hd' h0 h1 hl1 hb2 hu1 hu2 hl2 h3 HNO.out).mono ?_
      rintro e w' ⟨rfl, n, rfl⟩
      go_wp2_with fail
      go_quiet (fail)
      go_wp2_with fail
      go_ret2
      rw [HA.out]
      refine ⟨rfl, ?_⟩
      repeat (first | exact ((Below.refl _ _).alloc (Nat.le_refl _) _).alloc (by simp) _ | apply below_drewN | (refine Below.setCell ?_ (by simp) _))
  · have hd' : (d == 0) = false := by simp [hd]
    have HA : Hid (atAfter d at_ units now = at_) := by show _ = _; unfold atAfter; rw [if_neg (fun h => hd h.1)]
    clear hd
    · go_enter Try.func10, Try.ntmps10
      go_wp2_with fail
      refine (charge_tok _ _ d full bal at_ units now _ (HC.out _ rfl) hd' h0 h1 hl1 hb2 hu1 hu2 hl2 h3).mono ?_
      rintro e w' ⟨rfl, n, rfl⟩
      go_wp2_with fail
      go_quiet (fail)
      go_wp2_with fail
      go_ret2
      rw [HA.out]
      refine ⟨rfl, ?_⟩
      repeat (first | exact ((Below.refl _ _).alloc (Nat.le_refl _) _).alloc (by simp) _ | apply below_drewN | (refine Below.setCell ?_ (by simp) _))
end Go.Proofs.Qxb6601269a
