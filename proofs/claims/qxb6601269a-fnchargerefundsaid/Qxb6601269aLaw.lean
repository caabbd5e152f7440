import Derived.Test.Qxb6601269aCharge
namespace Go.Proofs.Qxb6601269a
open Go.RowKit
set_option linter.unusedVariables false

set_option maxHeartbeats 1000000 in
theorem once_any (t0 d full base bal at_ units now : Int) (t1 r1 : Int) (t2 r2 : Int) (w : World) (h0 : 0 ≤ full) (h1 : full ≤ 2305843009213693952) (hb2 : bal ≤ full) (hu1 : -full ≤ units) (hu2 : units ≤ full) (h3 : bal - units ≤ full)
    (hlo : (d = 0 ∧ 0 ≤ bal ∧ 0 ≤ bal - units) ∨ (d ≠ 0 ∧ -full ≤ bal ∧ -full ≤ bal - units)) :
    Calls Try.prog 7 #[.agg #[.int .i64 t0, .int .u64 t1, .int .u8 t2, .int .i64 d, .int .u64 r1, .int .u8 r2, .int .i64 full, .int .i64 base], .int .i64 bal, .int .i64 at_, .int .i64 units, .int .i64 now] w fun e w' => e = .returned (.tuple #[.int .i64 (bal - units), .int .i64 (atAfter d at_ units now)]) ∧ Below w.heap.size w w' := by
  have K : Hid (∀ wx : World, Calls Try.prog 10 #[.int .i64 t0, .int .u64 t1, .int .u8 t2, .int .i64 d, .int .u64 r1, .int .u8 r2, .int .i64 full, .int .i64 base, .int .i64 bal, .int .i64 at_, .int .i64 units, .int .i64 now] wx fun e w' => e = .returned (.tuple #[.int .i64 (bal - units), .int .i64 (atAfter d at_ units now)]) ∧ Below wx.heap.size wx w') := fun wx => zz_any t0 d full base bal at_ units now t1 r1 t2 r2 wx h0 h1 hb2 hu1 hu2 h3 hlo
  clear hlo h0 h1 hb2 hu1 hu2 h3
  generalize atAfter d at_ units now = aa at *
  generalize bal - units = bb at *
  go_enter Try.func7, Try.ntmps7
  go_wp2_with fail
  refine (K.out _).mono ?_
  rintro e w' ⟨rfl, hb⟩
  have HB : Hid (_) := hb
  clear hb
  go_wp2_with fail
  go_ret2
  exact ⟨rfl, ((Below.refl _ _).alloc (Nat.le_refl _) _).trans (HB.out.mono (by simp))⟩

set_option maxHeartbeats 400000 in
theorem floor_any (t0 d full base : Int) (t1 r1 : Int) (t2 r2 : Int) (w : World) (h0 : 0 ≤ full) (h1 : full ≤ 2305843009213693952) :
    Calls Try.prog 6 #[.agg #[.int .i64 t0, .int .u64 t1, .int .u8 t2, .int .i64 d, .int .u64 r1, .int .u8 r2, .int .i64 full, .int .i64 base]] w fun e w' => e = .returned (.int .i64 (if d = 0 then 0 else -full)) ∧ Below w.heap.size w w' := by
  by_cases hd : d = 0
  · rw [if_pos hd]
    have hd' : (d == 0) = true := by simp [hd]
    clear hd
    go_enter Try.func6, Try.ntmps6
    go_wp2
    go_ret
    exact ⟨rfl, (Below.refl _ _).alloc (Nat.le_refl _) _⟩
  · rw [if_neg hd]
    have hd' : (d == 0) = false := by simp [hd]
    clear hd
    go_enter Try.func6, Try.ntmps6
    go_wp2
    go_ret
    exact ⟨rfl, (Below.refl _ _).alloc (Nat.le_refl _) _⟩

theorem box8 (t0 d full base : Int) (t1 r1 : Int) (t2 r2 : Int) (w x : World) (hb : Below (w.alloc (.cells #[.int .i64 t0, .int .u64 t1, .int .u8 t2, .int .i64 d, .int .u64 r1, .int .u8 r2, .int .i64 full, .int .i64 base] 24)).heap.size (w.alloc (.cells #[.int .i64 t0, .int .u64 t1, .int .u8 t2, .int .i64 d, .int .u64 r1, .int .u8 r2, .int .i64 full, .int .i64 base] 24)) x) : x.cell? ⟨w.heap.size, 0, none⟩ = some (.int .i64 t0) ∧ x.cell? ⟨w.heap.size, 1, none⟩ = some (.int .u64 t1) ∧ x.cell? ⟨w.heap.size, 2, none⟩ = some (.int .u8 t2) ∧ x.cell? ⟨w.heap.size, 3, none⟩ = some (.int .i64 d) ∧ x.cell? ⟨w.heap.size, 4, none⟩ = some (.int .u64 r1) ∧ x.cell? ⟨w.heap.size, 5, none⟩ = some (.int .u8 r2) ∧ x.cell? ⟨w.heap.size, 6, none⟩ = some (.int .i64 full) ∧ x.cell? ⟨w.heap.size, 7, none⟩ = some (.int .i64 base) := by
  have h : ∀ i, x.cell? ⟨w.heap.size, i, none⟩ = (w.alloc (.cells #[.int .i64 t0, .int .u64 t1, .int .u8 t2, .int .i64 d, .int .u64 r1, .int .u8 r2, .int .i64 full, .int .i64 base] 24)).cell? ⟨w.heap.size, i, none⟩ := fun i => hb.cell (p := ⟨w.heap.size, i, none⟩) (by simp)
  refine ⟨?_, ?_, ?_, ?_, ?_, ?_, ?_, ?_⟩ <;> rw [h] <;> go_simp

theorem law_vals (d at_ units now : Int) : atAfter d (atAfter d at_ units now) (-units) now = (if d = 0 ∧ at_ = -4611686018427387904 ∧ units ≠ 0 then now else at_) := by
  unfold atAfter
  generalize hc : (-4611686018427387904 : Int) = c
  by_cases hd : d = 0
  · by_cases ha : at_ = c
    · rcases Int.lt_trichotomy units 0 with h | h | h
      · have h1 : ¬ 0 < units := by omega
        have h2 : units ≠ 0 := by omega
        have h3 : 0 < -units := by omega
        have hin : (if d = 0 ∧ 0 < units ∧ at_ = c then now else at_) = at_ := if_neg (fun h => h1 h.2.1)
        rw [hin, if_pos ⟨hd, h3, ha⟩, if_pos ⟨hd, ha, h2⟩]
      · have h1 : ¬ 0 < units := by omega
        have h3 : ¬ 0 < -units := by omega
        have hin : (if d = 0 ∧ 0 < units ∧ at_ = c then now else at_) = at_ := if_neg (fun h => h1 h.2.1)
        rw [hin, if_neg (fun h => h3 h.2.1), if_neg (fun h' => h'.2.2 h)]
      · have h2 : units ≠ 0 := by omega
        have h3 : ¬ 0 < -units := by omega
        have hin : (if d = 0 ∧ 0 < units ∧ at_ = c then now else at_) = now := if_pos ⟨hd, h, ha⟩
        rw [hin, if_neg (fun h => h3 h.2.1), if_pos ⟨hd, ha, h2⟩]
    · have hin : (if d = 0 ∧ 0 < units ∧ at_ = c then now else at_) = at_ := if_neg (fun h => ha h.2.2)
      rw [hin, if_neg (fun h => ha h.2.2), if_neg (fun h => ha h.2.1)]
  · have hin : (if d = 0 ∧ 0 < units ∧ at_ = c then now else at_) = at_ := if_neg (fun h => hd h.1)
    rw [hin, if_neg (fun h => hd h.1), if_neg (fun h => hd h.1)]

set_option maxRecDepth 100000 in
set_option maxHeartbeats 2000000 in
theorem law3 (t0 d full base bal at_ units now : Int) (t1 r1 : Int) (t2 r2 : Int) (w : World) (wb : (Lit.int .i64 bal).wf = true) (wu : (Lit.int .i64 units).wf = true) :
    Calls Try.prog 3 #[.agg #[.int .i64 t0, .int .u64 t1, .int .u8 t2, .int .i64 d, .int .u64 r1, .int .u8 r2, .int .i64 full, .int .i64 base], .int .i64 bal, .int .i64 at_, .int .i64 units, .int .i64 now] w fun e w' => e = .returned (.bool true) ∧ Below w.heap.size w w' := by
  by_cases q1 : full < 0
  · go_enter Try.func3, Try.ntmps3
    go_wp2_with fail
    go_ret
    exact ⟨rfl, (Below.refl _ _).alloc (Nat.le_refl _) _⟩
  by_cases q2 : 2305843009213693952 < full
  · go_enter Try.func3, Try.ntmps3
    go_wp2_with fail
    go_ret
    exact ⟨rfl, (Below.refl _ _).alloc (Nat.le_refl _) _⟩
  by_cases q3 : units < -full
  · go_enter Try.func3, Try.ntmps3
    go_wp2_with fail
    go_ret
    exact ⟨rfl, (Below.refl _ _).alloc (Nat.le_refl _) _⟩
  by_cases q4 : full < units
  · go_enter Try.func3, Try.ntmps3
    go_wp2_with fail
    go_ret
    exact ⟨rfl, (Below.refl _ _).alloc (Nat.le_refl _) _⟩
  have KF : Hid (∀ wx : World, Calls Try.prog 6 #[.agg #[.int .i64 t0, .int .u64 t1, .int .u8 t2, .int .i64 d, .int .u64 r1, .int .u8 r2, .int .i64 full, .int .i64 base]] wx fun e w' => e = .returned (.int .i64 (if d = 0 then 0 else -full)) ∧ Below wx.heap.size wx w') := fun wx => floor_any t0 d full base t1 r1 t2 r2 wx (by omega) (by omega)
  obtain ⟨lo, hlo⟩ : ∃ lo, lo = (if d = 0 then 0 else -full) := ⟨_, rfl⟩
  have HLO : Hid (lo = (if d = 0 then 0 else -full)) := hlo
  rw [← hlo] at KF
  have hl1 : lo ≤ 0 := by rw [hlo]; split <;> omega
  have hl2 : -full ≤ lo := by rw [hlo]; split <;> omega
  clear hlo
  go_enter Try.func3, Try.ntmps3
  go_wp2_with fail
  refine (KF.out _).mono ?_
  rintro e x1 ⟨rfl, hb⟩
  have HB1 : Hid (Below (w.alloc (.cells #[.int .i64 t0, .int .u64 t1, .int .u8 t2, .int .i64 d, .int .u64 r1, .int .u8 r2, .int .i64 full, .int .i64 base] 24)).heap.size (w.alloc (.cells #[.int .i64 t0, .int .u64 t1, .int .u8 t2, .int .i64 d, .int .u64 r1, .int .u8 r2, .int .i64 full, .int .i64 base] 24)) x1) := hb
  have X1 : Hid (Below w.heap.size w x1) := ((Below.refl _ _).alloc (Nat.le_refl _) _).trans (hb.mono (by simp))
  obtain ⟨b0, b1, b2, b3, b4, b5, b6, b7⟩ := box8 t0 d full base t1 r1 t2 r2 w x1 hb
  clear hb
  by_cases q5 : bal < lo
  · as_aux_lemma =>
      go_wp2_with fail
      go_ret
      exact ⟨rfl, X1.out⟩
  by_cases q6 : full < bal
  · as_aux_lemma =>
      go_wp2_with fail
      go_ret
      exact ⟨rfl, X1.out⟩
  by_cases q7 : bal - units < lo
  · as_aux_lemma =>
      go_wp2_with fail
      go_ret
      exact ⟨rfl, X1.out⟩
  by_cases q8 : full < bal - units
  · as_aux_lemma =>
      go_wp2_with fail
      go_ret
      exact ⟨rfl, X1.out⟩
  have hside : (d = 0 ∧ 0 ≤ bal ∧ 0 ≤ bal - units) ∨ (d ≠ 0 ∧ -full ≤ bal ∧ -full ≤ bal - units) := by
    have := HLO.out
    by_cases hd : d = 0
    · rw [if_pos hd] at this; left; exact ⟨hd, by omega, by omega⟩
    · right; exact ⟨hd, by omega, by omega⟩
  have hside2 : (d = 0 ∧ 0 ≤ bal - units ∧ 0 ≤ bal - units - -units) ∨ (d ≠ 0 ∧ -full ≤ bal - units ∧ -full ≤ bal - units - -units) := by
    rcases hside with ⟨h1, h2, h3⟩ | ⟨h1, h2, h3⟩
    · left; exact ⟨h1, by omega, by omega⟩
    · right; exact ⟨h1, by omega, by omega⟩
  have K1 : Hid (∀ wx : World, Calls Try.prog 7 #[.agg #[.int .i64 t0, .int .u64 t1, .int .u8 t2, .int .i64 d, .int .u64 r1, .int .u8 r2, .int .i64 full, .int .i64 base], .int .i64 bal, .int .i64 at_, .int .i64 units, .int .i64 now] wx fun e w' => e = .returned (.tuple #[.int .i64 (bal - units), .int .i64 (atAfter d at_ units now)]) ∧ Below wx.heap.size wx w') := fun wx => once_any t0 d full base bal at_ units now t1 r1 t2 r2 wx (by omega) (by omega) (by omega) (by omega) (by omega) (by omega) hside
  have K2 : Hid (∀ wx : World, Calls Try.prog 7 #[.agg #[.int .i64 t0, .int .u64 t1, .int .u8 t2, .int .i64 d, .int .u64 r1, .int .u8 r2, .int .i64 full, .int .i64 base], .int .i64 (bal - units), .int .i64 (atAfter d at_ units now), .int .i64 (-units), .int .i64 now] wx fun e w' => e = .returned (.tuple #[.int .i64 (bal - units - -units), .int .i64 (atAfter d (atAfter d at_ units now) (-units) now)]) ∧ Below wx.heap.size wx w') := fun wx => once_any t0 d full base (bal - units) (atAfter d at_ units now) (-units) now t1 r1 t2 r2 wx (by omega) (by omega) (by omega) (by omega) (by omega) (by omega) hside2
  clear hside hside2 KF
  have HV : Hid (d ≠ 0 → atAfter d at_ units now = at_) := fun h => by unfold atAfter; rw [if_neg (fun h' => h h'.1)]
  have HV2 : Hid (atAfter d (atAfter d at_ units now) (-units) now = (if d = 0 ∧ at_ = -4611686018427387904 ∧ units ≠ 0 then now else at_)) := law_vals d at_ units now
  generalize atAfter d (atAfter d at_ units now) (-units) now = A2 at *
  generalize atAfter d at_ units now = A1 at *
  have hne : (bal - units - -units != bal) = false := by simp
  have hnu : -9223372036854775807 ≤ -units := by omega
  as_aux_lemma =>
    go_wp2_with fail
    refine (K1.out _).mono ?_
    rintro e x2 ⟨rfl, hb⟩
    have HB2 : Hid (Below (w.alloc (.cells #[.int .i64 t0, .int .u64 t1, .int .u8 t2, .int .i64 d, .int .u64 r1, .int .u8 r2, .int .i64 full, .int .i64 base] 24)).heap.size (w.alloc (.cells #[.int .i64 t0, .int .u64 t1, .int .u8 t2, .int .i64 d, .int .u64 r1, .int .u8 r2, .int .i64 full, .int .i64 base] 24)) x2) := HB1.out.trans (hb.mono HB1.out.size)
    have X2 : Hid (Below w.heap.size w x2) := X1.out.trans (hb.mono X1.out.size)
    clear hb b0 b1 b2 b3 b4 b5 b6 b7
    obtain ⟨b0, b1, b2, b3, b4, b5, b6, b7⟩ := box8 t0 d full base t1 r1 t2 r2 w x2 HB2.out
    go_wp2_with fail
    refine (K2.out _).mono ?_
    rintro e x3 ⟨rfl, hb⟩
    have HB3 : Hid (Below (w.alloc (.cells #[.int .i64 t0, .int .u64 t1, .int .u8 t2, .int .i64 d, .int .u64 r1, .int .u8 r2, .int .i64 full, .int .i64 base] 24)).heap.size (w.alloc (.cells #[.int .i64 t0, .int .u64 t1, .int .u8 t2, .int .i64 d, .int .u64 r1, .int .u8 r2, .int .i64 full, .int .i64 base] 24)) x3) := HB2.out.trans (hb.mono HB2.out.size)
    have X3 : Hid (Below w.heap.size w x3) := X2.out.trans (hb.mono X2.out.size)
    clear hb b0 b1 b2 b3 b4 b5 b6 b7
    obtain ⟨b0, b1, b2, b3, b4, b5, b6, b7⟩ := box8 t0 d full base t1 r1 t2 r2 w x3 HB3.out
    by_cases hd : d = 0
    · have hdn : (d != 0) = false := by simp [hd]
      by_cases ha : at_ = -4611686018427387904
      · have hab : (at_ == -4611686018427387904) = true := by simp [ha]
        by_cases hu : units = 0
        · have hub : (units != 0) = false := by simp [hu]
          have h2 : A2 = at_ := by rw [HV2.out, if_neg (fun h => h.2.2 hu)]
          have h2b : (A2 == at_) = true := by simp [h2]
          clear h2 hd ha hu
          go_wp2_with fail
          go_ret
          exact ⟨rfl, X3.out⟩
        · have hub : (units != 0) = true := by simp [hu]
          have h2 : A2 = now := by rw [HV2.out, if_pos ⟨hd, ha, hu⟩]
          have h2b : (A2 == now) = true := by simp [h2]
          clear h2 hd ha hu
          go_wp2_with fail
          go_ret
          exact ⟨rfl, X3.out⟩
      · have hab : (at_ == -4611686018427387904) = false := by simp [ha]
        have h2 : A2 = at_ := by rw [HV2.out, if_neg (fun h => ha h.2.1)]
        have h2b : (A2 == at_) = true := by simp [h2]
        clear h2 hd ha
        go_wp2_with fail
        go_ret
        exact ⟨rfl, X3.out⟩
    · have hdn : (d != 0) = true := by simp [hd]
      have h1 : A1 = at_ := HV.out hd
      have h2 : A2 = at_ := by rw [HV2.out, if_neg (fun h => hd h.1)]
      have h1b : (A1 == at_) = true := by simp [h1]
      have h2b : (A2 == at_) = true := by simp [h2]
      clear h1 h2 hd
      go_wp2_with fail
      go_ret
      exact ⟨rfl, X3.out⟩
end Go.Proofs.Qxb6601269a
