import Derived.Test.Qxb6601170aEdge
namespace Go.Proofs.Qxb6601170a
open Go.RowKit
set_option linter.unusedVariables false
set_option linter.unusedSimpArgs false

set_option maxRecDepth 100000 in
set_option maxHeartbeats 2000000 in
theorem lawA (a1 a3 a4 a5 : Option Addr) (c1 c3 c4 c5 : Nat) (la ru col : Int) (vec : List Int) (zss : List (List Int)) (mu ph : List Int) (w : World)
    (h1 : SI .i64 w a1 vec) (h3 : SS w a3 zss) (h4 : SI .i64 w a4 mu) (h5 : SI .i64 w a5 ph) (n3 : a3 = none → zss = [])
    (m1 : vec.length ≤ maxLen) (m3 : zss.length ≤ maxLen) (m4 : mu.length ≤ maxLen) (m5 : ph.length ≤ maxLen) (mr : ∀ i, i < zss.length → (zss.getD i []).length ≤ maxLen) :
    Calls Try.prog 7 #[.int .i64 la, .slice a1 vec.length c1, .int .i64 ru, .slice a3 zss.length c3, .slice a4 mu.length c4, .slice a5 ph.length c5, .int .i64 col] w fun e w' => e = .returned (.bool true) ∧ Below w.heap.size w w' := by
  have KB : Hid (Calls Try.prog 34 #[.int .i64 la, .slice a1 vec.length c1, .int .i64 ru, .slice a3 zss.length c3, .slice a4 mu.length c4, .slice a5 ph.length c5, .int .i64 col] w fun e w' => RetIf e (AllLe vec zss mu ph) ∧ w' = w) := bytes34 a1 a3 a4 a5 c1 c3 c4 c5 la ru col vec zss mu ph w h3 m1 m3 m4 m5 mr
  have H1 : Hid (SI .i64 w a1 vec) := h1
  have H3 : Hid (SS w a3 zss) := h3
  have H4 : Hid (SI .i64 w a4 mu) := h4
  have H5 : Hid (SI .i64 w a5 ph) := h5
  have N3 : Hid (a3 = none → zss = []) := n3
  clear h1 h3 h4 h5 n3 mr
  unfold maxLen at m1 m3 m4 m5
  go_enter Try.func7, Try.ntmps7
  go_wp2_with fail
  refine KB.out.mono ?_
  rintro e w' ⟨⟨B, rfl, hB⟩, hw'⟩
  cases hw'
  cases B
  · as_aux_lemma =>
      go_wp2_with fail
      go_ret
      exact ⟨rfl, Below.refl _ _⟩
  obtain ⟨l1, l3, l4, l5, lr⟩ := hB rfl
  have LR : Hid (∀ i, i < zss.length → (zss.getD i []).length ≤ 1048576) := lr
  clear hB KB lr
  by_cases q1 : 4096 < vec.length
  · as_aux_lemma =>
      go_wp2_with fail
      go_ret
      exact ⟨rfl, Below.refl _ _⟩
  go_wp2_with fail
  refine (nested_any a3 c3 zss w H3.out l3 LR.out).mono ?_
  rintro e w' ⟨⟨z, rfl, z0, z1⟩, hw'⟩
  cases hw'
  by_cases q2 : 1048576 < 8 * ((vec.length : Int) + mu.length + ph.length) + z
  · as_aux_lemma =>
      go_wp2_with fail
      go_ret
      exact ⟨rfl, Below.refl _ _⟩
  go_wp2_with fail
  refine (valid_any a1 a3 a4 c1 c3 c4 vec zss mu w H1.out H3.out H4.out l1 l3 l4 LR.out).mono ?_
  rintro e w' ⟨⟨B, rfl, hB⟩, hw'⟩
  cases hw'
  cases B
  · as_aux_lemma =>
      go_wp2_with fail
      go_ret
      exact ⟨rfl, Below.refl _ _⟩
  have HV : Hid (Valid vec zss mu) := hB rfl
  clear hB q2 z0 z1
  as_aux_lemma =>
    go_wp2_with fail
    refine (clone_any a1 c1 vec w H1.out (by omega)).mono ?_
    rintro e w1 ⟨b1, d1, rfl, hs1, -, hb1⟩
    have B1 : Hid (Below w.heap.size w w1) := hb1
    have S1 : Hid (SI .i64 w1 b1 vec) := hs1
    clear hb1 hs1
    go_wp2_with fail
    refine (clone2_any a3 c3 zss w1 (H3.out.below B1.out) N3.out (by omega) (fun i hi => Nat.le_trans (LR.out i hi) (by omega))).mono ?_
    rintro e w2 ⟨b3, d3, rfl, hs3, hb3⟩
    have B2 : Hid (Below w.heap.size w w2) := B1.out.trans (hb3.mono B1.out.size)
    have S1b : Hid (SI .i64 w2 b1 vec) := S1.out.below hb3
    have S3 : Hid (SS w2 b3 zss) := hs3
    clear hb3 hs3 S1 B1
    go_wp2_with fail
    refine (clone_any a4 c4 mu w2 (H4.out.below B2.out) (by omega)).mono ?_
    rintro e w3 ⟨b4, d4, rfl, hs4, -, hb4⟩
    have B3 : Hid (Below w.heap.size w w3) := B2.out.trans (hb4.mono B2.out.size)
    have S1c : Hid (SI .i64 w3 b1 vec) := S1b.out.below hb4
    have S3c : Hid (SS w3 b3 zss) := S3.out.below hb4
    have S4 : Hid (SI .i64 w3 b4 mu) := hs4
    clear hb4 hs4 S1b S3 B2
    go_wp2_with fail
    refine (clone_any a5 c5 ph w3 (H5.out.below B3.out) (by omega)).mono ?_
    rintro e w4 ⟨b5, d5, rfl, hs5, -, hb5⟩
    have B4 : Hid (Below w.heap.size w w4) := B3.out.trans (hb5.mono B3.out.size)
    have S1d : Hid (SI .i64 w4 b1 vec) := S1c.out.below hb5
    have S3d : Hid (SS w4 b3 zss) := S3c.out.below hb5
    have S4d : Hid (SI .i64 w4 b4 mu) := S4.out.below hb5
    clear hb5 hs5 S1c S3c S4 B3
    go_wp2_with fail
    refine (make26 la b1 vec.length d1 ru w4).mono ?_
    rintro e w5 ⟨rfl, hb6⟩
    have B5 : Hid (Below w.heap.size w w5) := B4.out.trans (hb6.mono B4.out.size)
    have S1e : Hid (SI .i64 w5 b1 vec) := S1d.out.below hb6
    have S3e : Hid (SS w5 b3 zss) := S3d.out.below hb6
    have S4e : Hid (SI .i64 w5 b4 mu) := S4d.out.below hb6
    clear hb6 S1d S3d S4d B4
    go_wp2_with fail
    refine (new36 la b1 vec.length d1 ru b3 b4 b5 zss.length d3 mu.length d4 ph.length d5 w5).mono ?_
    rintro e w6 ⟨ob, rfl, hO, -, hb7⟩
    have B6 : Hid (Below w.heap.size w w6) := B5.out.trans (hb7.mono B5.out.size)
    have OO : Hid (Over w6 ob la b1 d1 ru b3 d3 b4 d4 b5 ph.length d5 vec zss mu) := ⟨hO, S1e.out.below hb7, S3e.out.below hb7, S4e.out.below hb7⟩
    clear hb7 hO S1e S3e S4e B5
    as_aux_lemma =>
      go_wp2_with fail
      refine (dist_any ob la b1 d1 ru b3 d3 b4 d4 b5 ph.length d5 vec zss mu col w6 OO.out HV.out (by omega) l3 l4).mono ?_
      rintro e wd ⟨ga, gc, d, rfl, hg, hd, hb8⟩
      have BD : Hid (Below w.heap.size w wd) := B6.out.trans (hb8.mono B6.out.size)
      have OD : Hid (Over wd ob la b1 d1 ru b3 d3 b4 d4 b5 ph.length d5 vec zss mu) := OO.out.below hb8
      have DG : Hid (SI .i64 wd ga d) := hg
      have DK : Hid (DistOK mu.length (edges vec ru zss mu col) d) := hd
      have hN : 1 ≤ mu.length := HV.out.pos
      have hP : 2 ≤ vec.length := by have := HV.out.mus 0 (by omega); omega
      have hM : 1 ≤ zss.length := by have := HV.out.vecs 0 (by omega); omega
      clear hg hd hb8 OO B6
      obtain ⟨gb, go, rfl, -⟩ := DG.out.addr (by rw [DK.out.len]; omega)
      obtain ⟨vb, vo, rfl, -⟩ := OD.out.vec.addr (by omega)
      obtain ⟨mb, mo, rfl, -⟩ := OD.out.mu.addr (by omega)
      have hchild := OD.out.child
      rcases hchild with h | ⟨hb, ho, rfl, -, -⟩
      · rw [h] at hM; simp at hM
      have FG : Hid (∀ z, Below wd.heap.size wd z → ∀ v, v < mu.length → z.cell? ⟨gb, go + v, none⟩ = some (.int .i64 (d.getD v 0))) := fun z hz v hv => (DG.out.below hz).cell (by rw [DK.out.len]; exact hv)
      have FV : Hid (∀ z, Below wd.heap.size wd z → ∀ v, v < vec.length → z.cell? ⟨vb, vo + v, none⟩ = some (.int .i64 (vec.getD v 0))) := fun z hz v hv => (OD.out.vec.below hz).cell hv
      have FM : Hid (∀ z, Below wd.heap.size wd z → ∀ v, v < mu.length → z.cell? ⟨mb, mo + v, none⟩ = some (.int .i64 (mu.getD v 0))) := fun z hz v hv => (OD.out.mu.below hz).cell hv
      have FC : Hid (∀ z, Below wd.heap.size wd z → ∀ l, l < zss.length → ∃ r c, z.cell? ⟨hb, ho + l, none⟩ = some (.slice r mu.length c) ∧ SI .i64 z r (zss.getD l []) ∧ (zss.getD l []).length = mu.length ∧ ∀ v, v < mu.length → (zss.getD l []).getD v 0 < mu.length) := by
        intro z hz l hl
        have hrow := HV.out.rows l hl
        rcases OD.out.child.below hz with h | ⟨b, o, e, _, hc⟩
        · rw [h] at hl; simp at hl
        · cases e
          obtain ⟨r, c, h1, h2⟩ := hc l hl
          rw [hrow.1] at h1
          exact ⟨r, c, h1, h2, hrow⟩
      have HVC : Hid (∀ j, j < vec.length → ∃ l : Nat, l < zss.length ∧ vec.getD j 0 = (l : Int) + 1) := by
        intro j hj
        have := HV.out.vecs j hj
        exact ⟨(vec.getD j 0 - 1).toNat, by omega, by omega⟩
      have HNX : Hid (∀ (u : Nat) (sb : Bool) (bs : List Bool), ((u : Int) == 0) = sb → Marks mu.length (edges vec ru zss mu col) d u bs → MarksAt mu.length (fun j => pushCol vec.length ru (mu.getD u 0) sb ((j : Int) + 1) = col) (fun j => (zss.getD (vec.getD j 0 - 1).toNat []).getD u 0) d u vec.length bs → Marks mu.length (edges vec ru zss mu col) d (u + 1) bs) := fun u sb bs h1 h2 h3 => Marks.next h1 h2 h3
      have HME : Hid (∀ (u : Nat) (sb : Bool) (j : Nat), ((u : Int) == 0) = sb → j < vec.length → pushCol vec.length ru (mu.getD u 0) sb ((j : Int) + 1) = col → (zss.getD (vec.getD j 0 - 1).toNat []).getD u 0 ∈ edges vec ru zss mu col u) := fun u sb j hs hj hc => (mem_edges hs).2 ⟨j, hj, hc, rfl⟩
      have hmk := run_mk23 mu.length (by omega)
      clear OD DG H1 H3 H4 H5 N3 LR HV
      generalize hn : mu.length = n at *
      generalize hp : vec.length = P at *
      generalize hm : zss.length = M at *
      have HNN : Hid (mu.length = n) := hn
      clear hn hp hm m1 m3 m4 m5
      have g0 := FG.out wd (Below.refl _ _) 0 (by omega)
      rw [DK.out.d0, Nat.add_zero] at g0
      have hnn : ((n : Int) != (n : Int)) = false := by simp
      go_wp2_with fail
      go_loop [19] (fun i => ∃ v : Nat, v ≤ n ∧ i = .int .i64 v) (fun i => n - (intOf i).toNat)
      case atStart => exact ⟨0, by omega, rfl⟩
      case round =>
        obtain ⟨v, hv, rfl⟩ := hrel
        by_cases hvn : v < n
        · as_aux_lemma =>
            have cg := FG.out wd (Below.refl _ _) v hvn
            have hlo := DK.out.low v hvn
            have hhi := DK.out.high v hvn
            generalize d.getD v 0 = x at *
            have i1 : (v : Int) < (n : Int) := by omega
            go_wp2_with fail
            go_round
            case rel => exact ⟨v + 1, by omega, by go_num⟩
            case measure => simp [intOf]; omega
        clear g0
        go_wp2_with fail
        go_loopw [21] (fun i w' => ∃ (u : Nat) (bs : List Bool), u ≤ n ∧ i = .int .i64 u ∧ bs.length = n ∧ Marks n (edges vec ru zss mu col) d u bs ∧ Blk w' wd.heap.size 4 (bools bs) ∧ Below wd.heap.size wd w') (fun i _ => n - (intOf i).toNat)
        case atStart => exact ⟨0, List.replicate n false, by omega, rfl, by simp, Marks.zero, by rw [← bools_zr]; exact Blk.new wd 4 _, (Below.refl _ _).alloc (Nat.le_refl _) _⟩
        case round =>
          obtain ⟨u, bs, hu, rfl, hbs, hMk, hB, hbel⟩ := hrel
          have HBS : Hid (bs.length = n) := hbs
          have HMK : Hid (Marks n (edges vec ru zss mu col) d u bs) := hMk
          have HB : Hid (Blk wr wd.heap.size 4 (bools bs)) := hB
          have HBL : Hid (Below wd.heap.size wd wr) := hbel
          clear hbs hMk hB hbel hmk
          by_cases hun : u < n
          · as_aux_lemma =>
              have cu := FG.out wr HBL.out u hun
              have hhi := DK.out.high u hun
              obtain ⟨y, hy⟩ : ∃ y, y = d.getD u 0 := ⟨_, rfl⟩
              rw [← hy] at cu hhi
              have HY : Hid (y = d.getD u 0) := hy
              clear hy
              have i1 : (u : Int) < (n : Int) := by omega
              by_cases hy0 : y < 0
              · go_wp2_with fail
                go_roundw
                case rel => exact ⟨u + 1, bs, by omega, by go_num, HBS.out, HMK.out.neg (by rw [← HY.out]; exact hy0), HB.out, HBL.out⟩
                case measure => simp [intOf]; omega
              obtain ⟨sb, hsb⟩ : ∃ sb, ((u : Int) == 0) = sb := ⟨_, rfl⟩
              obtain ⟨mk, hmk⟩ : ∃ mk, mk = MarksAt n (fun j => pushCol P ru (mu.getD u 0) sb ((j : Int) + 1) = col) (fun j => (zss.getD (vec.getD j 0 - 1).toNat []).getD u 0) d u := ⟨_, rfl⟩
              have HMKE : Hid (mk = MarksAt n (fun j => pushCol P ru (mu.getD u 0) sb ((j : Int) + 1) = col) (fun j => (zss.getD (vec.getD j 0 - 1).toNat []).getD u 0) d u) := hmk
              clear hmk
              go_wp2_with fail
              go_loopw [22] (fun i w' => ∃ (k : Nat) (bs : List Bool), k ≤ P ∧ i = .int .i64 ((k : Int) + 1) ∧ bs.length = n ∧ Marks n (edges vec ru zss mu col) d u bs ∧ mk k bs ∧ Blk w' wd.heap.size 4 (bools bs) ∧ Below wd.heap.size wd w') (fun i _ => P + 1 - (intOf i).toNat)
              case atStart => exact ⟨0, bs, by omega, rfl, HBS.out, HMK.out, by rw [HMKE.out]; exact MarksAt.zero, HB.out, HBL.out⟩
              case round =>
                clear HBS HMK HB HBL cu
                obtain ⟨k, bs, hk, rfl, hbs, hMk, hMa, hB, hbel⟩ := hrel
                have HBS : Hid (bs.length = n) := hbs
                have HMK : Hid (Marks n (edges vec ru zss mu col) d u bs) := hMk
                have HMA : Hid (mk k bs) := hMa
                have HB : Hid (Blk wr wd.heap.size 4 (bools bs)) := hB
                have HBL : Hid (Below wd.heap.size wd wr) := hbel
                clear hbs hMk hMa hB hbel
                by_cases hkP : k < P
                · as_aux_lemma =>
                    have cm := FM.out wr HBL.out u hun
                    have KPU : Hid (∀ z, Calls Try.prog 38 #[.int .i64 P, .int .i64 ru, .int .i64 (mu.getD u 0), .bool sb, .int .i64 ((k : Int) + 1)] z fun e w' => e = .returned (.int .i64 (pushCol P ru (mu.getD u 0) sb ((k : Int) + 1))) ∧ w' = z) := fun z => push38 P ru (mu.getD u 0) sb ((k : Int) + 1) z
                    have HMEk := HME.out u sb k hsb hkP
                    have HSK : Hid (∀ bs, mk k bs → (pushCol P ru (mu.getD u 0) sb ((k : Int) + 1) = col → ∀ v : Nat, v < n → (zss.getD (vec.getD k 0 - 1).toNat []).getD u 0 = (v : Int) → d.getD v 0 = d.getD u 0 + 1 → False) → mk (k + 1) bs) := by
                      intro bs h1 h2
                      rw [HMKE.out] at h1 ⊢
                      exact h1.skip h2
                    have HST : Hid (∀ (bs : List Bool) (t : Nat), mk k bs → (zss.getD (vec.getD k 0 - 1).toNat []).getD u 0 = (t : Int) → t < bs.length → mk (k + 1) (bs.set t true)) := by
                      intro bs t h1 h2 h3
                      rw [HMKE.out] at h1 ⊢
                      exact h1.set t h2 h3
                    generalize mu.getD u 0 = own at *
                    generalize pushCol P ru own sb ((k : Int) + 1) = col' at *
                    have HSB : Hid (((u : Int) == 0) = sb) := hsb
                    go_wp2_with fail
                    refine (KPU.out _).mono ?_
                    rintro e wz ⟨rfl, hwz⟩
                    cases hwz
                    by_cases hcc : col' = col
                    · obtain ⟨l, hlM, hl⟩ := HVC.out k hkP
                      have cv := FV.out wr HBL.out k hkP
                      obtain ⟨r2, c2, ch, hrow, hrl, hrn⟩ := FC.out wr HBL.out l hlM
                      obtain ⟨b2, o2, rfl, -⟩ := hrow.addr (by rw [hrl]; omega)
                      have ct := hrow.cell (i := u) (by rw [hrl]; exact hun)
                      have htn := hrn u hun
                      have hE := HMEk hcc
                      have HT : Hid ((zss.getD (vec.getD k 0 - 1).toNat []).getD u 0 = (zss.getD l []).getD u 0) := by
                        show (zss.getD (vec.getD k 0 - 1).toNat []).getD u 0 = (zss.getD l []).getD u 0
                        rw [hl, show ((l : Int) + 1 - 1).toNat = l by omega]
                      rw [HT.out] at hE
                      have hcl := DK.out.closed u hun (by rw [← HY.out]; omega) _ hE
                      rw [hl] at cv
                      obtain ⟨t, ht⟩ : ∃ t, t = (zss.getD l []).getD u 0 := ⟨_, rfl⟩
                      rw [← ht] at ct htn hE HT hcl
                      have hccb : (col' != col) = false := by simp [hcc]
                      have eL : (l : Int) + 1 - 1 = (l : Int) := by omega
                      have eK : (k : Int) + 1 - 1 = (k : Int) := by omega
                      have i3 : (l : Int) < (M : Int) := by omega
                      have i4 : (k : Int) < (P : Int) := by omega
                      clear hl hrow hrl hrn hE ht HMEk hcc KPU
                      by_cases ht0 : t < 0
                      · clear hcl
                        go_wp2_with fail
                        go_roundw
                        case rel => exact ⟨k + 1, bs, by omega, by go_num, HBS.out, HMK.out, HSK.out bs HMA.out (fun _ v hv h1 h2 => by rw [HT.out] at h1; omega), HB.out, HBL.out⟩
                        case measure => simp [intOf]; omega
                      obtain ⟨t', rfl⟩ : ∃ t' : Nat, t = (t' : Int) := ⟨t.toNat, by omega⟩
                      obtain ⟨hc1, hc2⟩ := hcl (by omega)
                      rw [show ((t' : Int)).toNat = t' by omega] at hc1 hc2
                      rw [← HY.out] at hc2
                      have cd := FG.out wr HBL.out t' (by omega)
                      have cu := FG.out wr HBL.out u hun
                      rw [← HY.out] at cu
                      obtain ⟨dt, hdt⟩ : ∃ dt, dt = d.getD t' 0 := ⟨_, rfl⟩
                      rw [← hdt] at cd hc1 hc2
                      have HDT : Hid (dt = d.getD t' 0) := hdt
                      clear hdt
                      have i5 : (t' : Int) < (n : Int) := by omega
                      have j1 : decide (dt < 0) = false := by simp; omega
                      have j2 : decide (y + 1 < dt) = false := by simp; omega
                      go_wp2_with fail
                      go_quiet (fail)
                      go_wp2_with fail
                      go_quiet (fail)
                      by_cases hdy : dt = y + 1
                      · have hdb : (dt == y + 1) = true := by simpa using hdy
                        have hb1 : wr.cell? ⟨wd.heap.size, t', none⟩ = some (.bool (bs.getD t' false)) := by rw [HB.out.cell]; exact bools_at _ _ (by rw [HBS.out]; omega)
                        have hb2 : wr.frozen? ⟨wd.heap.size, t', none⟩ = false := HB.out.frozen t'
                        go_wp2_with fail
                        go_roundw
                        case rel => exact ⟨k + 1, bs.set t' true, by omega, by go_num, by rw [List.length_set]; exact HBS.out, HMK.out.set t', HST.out bs t' HMA.out HT.out (by rw [HBS.out]; omega), by rw [← bools_set]; exact (HB.out.drewN _).set t' _, (below_drewN HBL.out _).setCell (Nat.le_refl _) _⟩
                        case measure => simp [intOf]; omega
                      · have hdb : (dt == y + 1) = false := by simpa using hdy
                        go_wp2_with fail
                        go_roundw
                        case rel => exact ⟨k + 1, bs, by omega, by go_num, HBS.out, HMK.out, HSK.out bs HMA.out (fun _ v hv h1 h2 => by rw [HT.out] at h1; have : v = t' := (by omega); rw [this, ← HDT.out, ← HY.out] at h2; exact hdy h2), HB.out.drewN _, below_drewN HBL.out _⟩
                        case measure => simp [intOf]; omega
                    · have hccb : (col' != col) = true := by simpa using hcc
                      go_wp2_with fail
                      go_roundw
                      case rel => exact ⟨k + 1, bs, by omega, by go_num, HBS.out, HMK.out, HSK.out bs HMA.out (fun h => absurd h hcc), HB.out, HBL.out⟩
                      case measure => simp [intOf]; omega
                · as_aux_lemma =>
                    have hkP' : k = P := by omega
                    subst hkP'
                    go_wp2_with fail
                    go_roundw
                    case rel => exact ⟨u + 1, bs, by omega, by go_num, HBS.out, HNX.out u sb bs hsb HMK.out (by have := HMA.out; rw [HMKE.out] at this; exact this), HB.out, HBL.out⟩
                    case measure => simp [intOf]; omega
          · have hun' : u = n := by omega
            subst hun'
            as_aux_lemma =>
              go_wp2_with fail
              go_loop [24] (fun i => ∃ v : Nat, 1 ≤ v ∧ v ≤ u ∧ i = .int .i64 v) (fun i => u - (intOf i).toNat)
              case atStart => exact ⟨1, by omega, by omega, rfl⟩
              case round =>
                obtain ⟨v, hv1, hv, rfl⟩ := hrel
                by_cases hvn : v < u
                · have cg := FG.out wr HBL.out v hvn
                  have hb1 : wr.cell? ⟨wd.heap.size, v, none⟩ = some (.bool (bs.getD v false)) := by rw [HB.out.cell]; exact bools_at _ _ (by rw [HBS.out]; exact hvn)
                  have i1 : (v : Int) < (u : Int) := by omega
                  by_cases h0 : 0 ≤ d.getD v 0
                  · obtain ⟨u', hu', h0', hm', hd'⟩ := DK.out.par v hvn (by omega) h0
                    have := HMK.out u' hu' h0' v hvn hm' hd'
                    rw [this] at hb1
                    generalize d.getD v 0 = x at *
                    clear hd' hm' h0' this
                    go_wp2_with fail
                    go_round
                    case rel => exact ⟨v + 1, by omega, by omega, by go_num⟩
                    case measure => simp [intOf]; omega
                  · generalize d.getD v 0 = x at *
                    go_wp2_with fail
                    go_round
                    case rel => exact ⟨v + 1, by omega, by omega, by go_num⟩
                    case measure => simp [intOf]; omega
                · go_wp2_with fail
                  go_ret
                  exact ⟨rfl, BD.out.trans (HBL.out.mono BD.out.size)⟩
end Go.Proofs.Qxb6601170a
