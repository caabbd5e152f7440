import Derived.Test.Qxb6601170aEdge
namespace Go.Proofs.Qxb6601170a
open Go.RowKit
set_option linter.unusedVariables false
set_option linter.unusedSimpArgs false

set_option maxRecDepth 100000 in
set_option maxHeartbeats 2000000 in
theorem lawB (a1 a3 a4 a5 : Option Addr) (c1 c3 c4 c5 : Nat) (la ru col : Int) (vec : List Int) (zss : List (List Int)) (mu ph : List Int) (w : World)
    (h1 : SI .i64 w a1 vec) (h3 : SS w a3 zss) (h4 : SI .i64 w a4 mu) (h5 : SI .i64 w a5 ph) (n3 : a3 = none → zss = [])
    (m1 : vec.length ≤ maxLen) (m3 : zss.length ≤ maxLen) (m4 : mu.length ≤ maxLen) (m5 : ph.length ≤ maxLen) (mr : ∀ i, i < zss.length → (zss.getD i []).length ≤ maxLen) :
    Calls Try.prog 8 #[.int .i64 la, .slice a1 vec.length c1, .int .i64 ru, .slice a3 zss.length c3, .slice a4 mu.length c4, .slice a5 ph.length c5, .int .i64 col] w fun e w' => e = .returned (.bool true) ∧ Below w.heap.size w w' := by
  have KB : Hid (Calls Try.prog 39 #[.int .i64 la, .slice a1 vec.length c1, .int .i64 ru, .slice a3 zss.length c3, .slice a4 mu.length c4, .slice a5 ph.length c5, .int .i64 col] w fun e w' => RetIf e (AllLe vec zss mu ph) ∧ w' = w) := bytes39 a1 a3 a4 a5 c1 c3 c4 c5 la ru col vec zss mu ph w h3 m1 m3 m4 m5 mr
  have H1 : Hid (SI .i64 w a1 vec) := h1
  have H3 : Hid (SS w a3 zss) := h3
  have H4 : Hid (SI .i64 w a4 mu) := h4
  have H5 : Hid (SI .i64 w a5 ph) := h5
  have N3 : Hid (a3 = none → zss = []) := n3
  clear h1 h3 h4 h5 n3 mr
  unfold maxLen at m1 m3 m4 m5
  go_enter Try.func8, Try.ntmps8
  go_wp2_with fail
  refine KB.out.mono ?_
  rintro e w' ⟨⟨B, rfl, hB⟩, hw'⟩
  cases hw'
  cases B
  · as_aux_lemma =>
      go_wp2_with fail
      go_ret
      exact ⟨rfl, Below.refl _ _⟩
  obtain ⟨l1, l3, l4, l5, lr⟩ := hB rfl
  have LR : Hid (∀ i, i < zss.length → (zss.getD i []).length ≤ 1048576) := lr
  clear hB KB lr
  by_cases q1 : 4096 < vec.length
  · as_aux_lemma =>
      go_wp2_with fail
      go_ret
      exact ⟨rfl, Below.refl _ _⟩
  go_wp2_with fail
  refine (nested_any a3 c3 zss w H3.out l3 LR.out).mono ?_
  rintro e w' ⟨⟨z, rfl, z0, z1⟩, hw'⟩
  cases hw'
  by_cases q2 : 1048576 < 8 * ((vec.length : Int) + mu.length + ph.length) + z
  · as_aux_lemma =>
      go_wp2_with fail
      go_ret
      exact ⟨rfl, Below.refl _ _⟩
  go_wp2_with fail
  refine (valid_any a1 a3 a4 c1 c3 c4 vec zss mu w H1.out H3.out H4.out l1 l3 l4 LR.out).mono ?_
  rintro e w' ⟨⟨B, rfl, hB⟩, hw'⟩
  cases hw'
  cases B
  · as_aux_lemma =>
      go_wp2_with fail
      go_ret
      exact ⟨rfl, Below.refl _ _⟩
  have HV : Hid (Valid vec zss mu) := hB rfl
  clear hB q2 z0 z1
  as_aux_lemma =>
    by_cases r1 : ru = 1
    · as_aux_lemma =>
        have r1' : (ru == 1) = true := by simpa using r1
        clear r1
        go_wp2_with fail
        go_ret
        exact ⟨rfl, Below.refl _ _⟩
    have r1' : (ru == 1) = false := by simpa using r1
    have R1 : Hid (ru ≠ 1) := r1
    clear r1
    by_cases r2 : col < 1
    · as_aux_lemma =>
        go_wp2_with fail
        go_ret
        exact ⟨rfl, Below.refl _ _⟩
    by_cases r3 : (vec.length : Int) ≤ col
    · as_aux_lemma =>
        go_wp2_with fail
        go_ret
        exact ⟨rfl, Below.refl _ _⟩
    obtain ⟨cl, rfl⟩ : ∃ cl : Nat, col = (cl : Int) + 1 := ⟨(col - 1).toNat, by omega⟩
    have hcl : cl + 1 < vec.length := by omega
    have hN : 1 ≤ mu.length := HV.out.pos
    have hvl := HV.out.vecs cl (by omega)
    obtain ⟨l, hl⟩ : ∃ l : Nat, vec.getD cl 0 = (l : Int) + 1 := ⟨(vec.getD cl 0 - 1).toNat, by omega⟩
    have hlM : l < zss.length := by omega
    obtain ⟨vb, vo, hvb, -⟩ := H1.out.addr (by omega)
    have cv := H1.out
    rw [hvb] at cv
    have cv := cv.cell (i := cl) (by omega)
    rw [hl] at cv
    have hSS := H3.out
    rcases hSS with h | ⟨hb, ho, hhb, -, hc⟩
    · rw [h] at hlM; simp at hlM
    obtain ⟨r, c, ch, hrow⟩ := hc l hlM
    have hrw := HV.out.rows l hlM
    obtain ⟨row, hrw0⟩ : ∃ row, row = zss.getD l [] := ⟨_, rfl⟩
    rw [← hrw0] at hrow hrw ch
    have HRR : Hid (row = zss.getD l []) := hrw0
    have HRL : Hid (row.length = mu.length) := hrw.1
    have HRB : Hid (∀ v, v < mu.length → row.getD v 0 < mu.length) := hrw.2
    have HRE : Hid (∀ u, row.getD u 0 ∈ edges vec ru zss mu ((cl : Int) + 1) u) := by
      intro u
      have := @step_plain vec ru zss mu cl R1.out hcl u
      rw [hl, show ((l : Int) + 1 - 1).toNat = l by omega, ← hrw0] at this
      exact this
    have KC : Hid (Calls Try.prog 40 #[.slice r mu.length c] w fun e w' => PosLeft w w' e mu.length row) := by
      have := cycle_any r c row w hrow (by rw [hrw.1]; omega)
      rw [hrw.1] at this
      exact this
    rw [hrw.1] at ch
    clear hc hrow hrw hrw0 hvl hl
    subst hvb hhb
    have eK : (cl : Int) + 1 - 1 = (cl : Int) := by omega
    have eL : (l : Int) + 1 - 1 = (l : Int) := by omega
    have i1 : (cl : Int) < (vec.length : Int) := by omega
    have i2 : (l : Int) < (zss.length : Int) := by omega
    have q := q24
    as_aux_lemma =>
      go_wp2_with fail
      refine KC.out.mono ?_
      rintro e w0 ⟨(rfl | ⟨pb, pos, rfl, hps, hpo⟩), hb0⟩
      · have HB0 : Hid (Below w.heap.size w w0) := hb0
        clear hb0
        go_wp2_with fail
        go_ret
        exact ⟨rfl, HB0.out⟩
      have PS : Hid (SI .i64 w0 (some ⟨pb, 0, none⟩) pos) := hps
      have PO : Hid (PosOK row pos) := hpo
      have B0 : Hid (Below w.heap.size w w0) := hb0
      have HPL : Hid (pos.length = mu.length) := by rw [← HRL.out]; exact hpo.len
      clear hps hpo hb0 cv ch KC eK eL i1 i2 r2 r3
      as_aux_lemma =>
        go_wp2_with fail
        refine (clone_any _ c1 vec w0 (H1.out.below B0.out) (by omega)).mono ?_
        rintro e w1 ⟨b1, d1, rfl, hs1, -, hb1⟩
        have B1 : Hid (Below w.heap.size w w1) := B0.out.trans (hb1.mono B0.out.size)
        have S1 : Hid (SI .i64 w1 b1 vec) := hs1
        have P1 : Hid (SI .i64 w1 (some ⟨pb, 0, none⟩) pos) := PS.out.below hb1
        clear hb1 hs1 B0 PS q
        go_wp2_with fail
        refine (clone2_any _ c3 zss w1 (H3.out.below B1.out) N3.out (by omega) (fun i hi => Nat.le_trans (LR.out i hi) (by omega))).mono ?_
        rintro e w2 ⟨b3, d3, rfl, hs3, hb3⟩
        have B2 : Hid (Below w.heap.size w w2) := B1.out.trans (hb3.mono B1.out.size)
        have S1b : Hid (SI .i64 w2 b1 vec) := S1.out.below hb3
        have P2 : Hid (SI .i64 w2 (some ⟨pb, 0, none⟩) pos) := P1.out.below hb3
        have S3 : Hid (SS w2 b3 zss) := hs3
        clear hb3 hs3 S1 B1 P1
        go_wp2_with fail
        refine (clone_any a4 c4 mu w2 (H4.out.below B2.out) (by omega)).mono ?_
        rintro e w3 ⟨b4, d4, rfl, hs4, -, hb4⟩
        have B3 : Hid (Below w.heap.size w w3) := B2.out.trans (hb4.mono B2.out.size)
        have S1c : Hid (SI .i64 w3 b1 vec) := S1b.out.below hb4
        have P3 : Hid (SI .i64 w3 (some ⟨pb, 0, none⟩) pos) := P2.out.below hb4
        have S3c : Hid (SS w3 b3 zss) := S3.out.below hb4
        have S4 : Hid (SI .i64 w3 b4 mu) := hs4
        clear hb4 hs4 S1b S3 B2 P2
        go_wp2_with fail
        refine (clone_any a5 c5 ph w3 (H5.out.below B3.out) (by omega)).mono ?_
        rintro e w4 ⟨b5, d5, rfl, hs5, -, hb5⟩
        have B4 : Hid (Below w.heap.size w w4) := B3.out.trans (hb5.mono B3.out.size)
        have S1d : Hid (SI .i64 w4 b1 vec) := S1c.out.below hb5
        have P4 : Hid (SI .i64 w4 (some ⟨pb, 0, none⟩) pos) := P3.out.below hb5
        have S3d : Hid (SS w4 b3 zss) := S3c.out.below hb5
        have S4d : Hid (SI .i64 w4 b4 mu) := S4.out.below hb5
        clear hb5 hs5 S1c S3c S4 B3 P3
        go_wp2_with fail
        refine (make26 la b1 vec.length d1 ru w4).mono ?_
        rintro e w5 ⟨rfl, hb6⟩
        have B5 : Hid (Below w.heap.size w w5) := B4.out.trans (hb6.mono B4.out.size)
        have S1e : Hid (SI .i64 w5 b1 vec) := S1d.out.below hb6
        have P5 : Hid (SI .i64 w5 (some ⟨pb, 0, none⟩) pos) := P4.out.below hb6
        have S3e : Hid (SS w5 b3 zss) := S3d.out.below hb6
        have S4e : Hid (SI .i64 w5 b4 mu) := S4d.out.below hb6
        clear hb6 S1d S3d S4d B4 P4
        go_wp2_with fail
        refine (new36 la b1 vec.length d1 ru b3 b4 b5 zss.length d3 mu.length d4 ph.length d5 w5).mono ?_
        rintro e w6 ⟨ob, rfl, hO, -, hb7⟩
        have B6 : Hid (Below w.heap.size w w6) := B5.out.trans (hb7.mono B5.out.size)
        have P6 : Hid (SI .i64 w6 (some ⟨pb, 0, none⟩) pos) := P5.out.below hb7
        have OO : Hid (Over w6 ob la b1 d1 ru b3 d3 b4 d4 b5 ph.length d5 vec zss mu) := ⟨hO, S1e.out.below hb7, S3e.out.below hb7, S4e.out.below hb7⟩
        clear hb7 hO S1e S3e S4e B5 P5
        as_aux_lemma =>
          go_wp2_with fail
          refine (dist_any ob la b1 d1 ru b3 d3 b4 d4 b5 ph.length d5 vec zss mu ((cl : Int) + 1) w6 OO.out HV.out (by omega) l3 l4).mono ?_
          rintro e wd ⟨ga, gc, d, rfl, hg, hd, hb8⟩
          have BD : Hid (Below w.heap.size w wd) := B6.out.trans (hb8.mono B6.out.size)
          have DG : Hid (SI .i64 wd ga d) := hg
          have DP : Hid (SI .i64 wd (some ⟨pb, 0, none⟩) pos) := P6.out.below hb8
          have DK : Hid (DistOK mu.length (edges vec ru zss mu ((cl : Int) + 1)) d) := hd
          clear hg hd hb8 OO B6 P6
          have HX : Hid (∀ v, 1 ≤ v → v < mu.length → 1 ≤ d.getD v 0 ∧ d.getD v 0 ≤ pos.getD v 0) := by
            intro v hv1 hv
            obtain ⟨k, hk, hre⟩ := PO.out.at_ v (by rw [HRL.out]; exact hv)
            obtain ⟨_, x0, x1⟩ := reach_dist DK.out HRL.out (fun u _ => HRE.out u) HRB.out hre hN
            obtain ⟨u, hu, hu0, _, hud⟩ := DK.out.par v hv (by omega) x0
            exact ⟨by omega, by rw [hk]; exact x1⟩
          obtain ⟨gb, go, rfl, -⟩ := DG.out.addr (by rw [DK.out.len]; omega)
          have FG : Hid (∀ v, v < mu.length → wd.cell? ⟨gb, go + v, none⟩ = some (.int .i64 (d.getD v 0))) := fun v hv => DG.out.cell (by rw [DK.out.len]; exact hv)
          have FP : Hid (∀ v, v < mu.length → wd.cell? ⟨pb, v, none⟩ = some (.int .i64 (pos.getD v 0))) := fun v hv => by
            have := DP.out.cell (i := v) (by rw [HPL.out]; exact hv)
            rwa [Nat.zero_add] at this
          have g0 := FG.out 0 (by omega)
          rw [DK.out.d0, Nat.add_zero] at g0
          clear DG DP H1 H3 H4 H5 N3 LR HV HRR HRB HRE PO HPL DK HRL
          generalize hn : mu.length = n at *
          clear hn m1 m3 m4 m5
          have hnn : ((n : Int) != (n : Int)) = false := by simp
          go_wp2_with fail
          go_loopw [19] (fun i w' => ∃ v m : Nat, 1 ≤ v ∧ v ≤ n ∧ i = .int .i64 v ∧ w' = wd.drewN m) (fun i _ => n - (intOf i).toNat)
          case atStart => exact ⟨1, 0, by omega, by omega, rfl, rfl⟩
          case round =>
            clear g0
            obtain ⟨v, m, hv1, hv, rfl, rfl⟩ := hrel
            by_cases hvn : v < n
            · as_aux_lemma =>
                have cg := FG.out v hvn
                have cp := FP.out v hvn
                obtain ⟨x1, x2⟩ := HX.out v hv1 hvn
                generalize d.getD v 0 = x at *
                generalize pos.getD v 0 = y at *
                have i1 : (v : Int) < (n : Int) := by omega
                have j1 : decide (x < 1) = false := by simp; omega
                have j2 : decide (y < x) = false := by simp; omega
                go_wp2_with fail
                go_quiet (fail)
                go_wp2_with fail
                go_roundw
                case rel => exact ⟨v + 1, m + nq, by omega, by omega, by go_num, by first | rfl | rw [World.drewN_drewN]⟩
                case measure => simp [intOf]; omega
            · go_wp2_with fail
              go_ret
              exact ⟨rfl, below_drewN BD.out _⟩
end Go.Proofs.Qxb6601170a
