import Derived.Test.Qxb6600404aLem7
namespace Go.Proofs.Qxb6600404a
open Go.RowKit
set_option linter.unusedVariables false
set_option linter.unusedSimpArgs false

set_option maxRecDepth 100000 in
set_option maxHeartbeats 4000000 in
theorem law7 (a0 a1 a2 a3 : Option Addr) (c0 c1 c2 c3 : Nat) (ps ts lo hi : List Int) (u j : Int) (w : World)
    (h0 : SI .i64 w a0 ps) (h1 : SI .u8 w a1 ts) (h2 : SI .i64 w a2 lo) (h3 : SI .i64 w a3 hi) (e0 : a0 = none → ps = [])
    (m0 : ps.length ≤ maxLen) (m1 : ts.length ≤ maxLen) (m2 : lo.length ≤ maxLen) (m3 : hi.length ≤ maxLen)
    (w0 : ∀ z ∈ ps, (Lit.int .i64 z).wf = true) (wj : (Lit.int .i64 j).wf = true) :
    Calls Try.prog 7 #[.slice a0 ps.length c0, .slice a1 ts.length c1, .slice a2 lo.length c2, .slice a3 hi.length c3, .int .i64 u, .int .i64 j] w fun e w' => e = .returned (.bool true) ∧ Below w.heap.size w w' := by
  have H0 : Hid (SI .i64 w a0 ps) := h0
  have H1 : Hid (SI .u8 w a1 ts) := h1
  have H2 : Hid (SI .i64 w a2 lo) := h2
  have H3 : Hid (SI .i64 w a3 hi) := h3
  have E0 : Hid (a0 = none → ps = []) := e0
  have W0 : Hid (∀ z ∈ ps, (Lit.int .i64 z).wf = true) := w0
  have WJ : Hid ((Lit.int .i64 j).wf = true) := wj
  have KB : Hid (Calls Try.prog 44 #[.slice a0 ps.length c0, .slice a1 ts.length c1, .slice a2 lo.length c2, .slice a3 hi.length c3, .int .i64 u, .int .i64 j] w fun e w' => RetIf e (ps.length + ts.length + lo.length + hi.length ≤ 1048576) ∧ w' = w) := bytes_any 44 (.inr rfl) a0 a1 a2 a3 _ _ _ _ c0 c1 c2 c3 u j w m0 m1 m2 m3
  clear h0 h1 h2 h3 e0 w0 wj
  unfold maxLen at m0 m1 m2 m3
  have hq34 := nq34
  have hq22 := nq22
  go_enter Try.func7, Try.ntmps7
  go_wp2_with fail
  refine KB.out.mono ?_
  rintro e w' ⟨⟨B, rfl, hB⟩, hw'⟩
  cases hw'
  cases B
  · as_aux_lemma =>
      go_wp2_with fail
      go_ret
      exact ⟨rfl, Below.refl _ _⟩
  as_aux_lemma =>
    have hsum := hB rfl
    clear hB KB
    by_cases q0 : 4096 < ps.length
    · as_aux_lemma =>
        go_wp2_with fail
        go_ret
        exact ⟨rfl, Below.refl _ _⟩
    by_cases q1 : 4096 < ts.length
    · as_aux_lemma =>
        go_wp2_with fail
        go_ret
        exact ⟨rfl, Below.refl _ _⟩
    by_cases q2 : 32768 < lo.length
    · as_aux_lemma =>
        go_wp2_with fail
        go_ret
        exact ⟨rfl, Below.refl _ _⟩
    by_cases q3 : 32768 < hi.length
    · as_aux_lemma =>
        go_wp2_with fail
        go_ret
        exact ⟨rfl, Below.refl _ _⟩
    as_aux_lemma =>
      go_wp2_with fail
      refine (sparseS_any a0 a1 a2 a3 c0 c1 c2 c3 ps ts lo hi u w H0.out H2.out H3.out (by omega) (by omega) (by omega)).mono ?_
      rintro e w' ⟨⟨B, rfl, hB⟩, n, rfl⟩
      cases B
      · as_aux_lemma =>
          go_wp2_with fail
          go_ret
          exact ⟨rfl, below_drewN (Below.refl _ _) _⟩
      as_aux_lemma =>
        obtain ⟨hlen, hcan, hdis, hin⟩ := hB rfl
        have HLEN : Hid (ps.length = ts.length) := hlen
        have HCS : Hid (CanS lo hi u) := hcan
        have HCAN : Hid (Canon lo hi) := hcan.1
        have HIN : Hid (∀ z ∈ ps, InRuns lo hi z) := fun z hz => by obtain ⟨i, hi', rfl⟩ := mem_getD hz; exact hin i hi'
        have HDIS : Hid (Distinct ps) := hdis
        clear hB hlen hcan hdis hin
        go_upto_if 69 with (fail)
        go_cut [1] (fun s w' => ∃ b c, s = .slice b ts.length c ∧ SI .u8 w' b ts ∧ Below w.heap.size w w')
        case first =>
          as_aux_lemma =>
            cases a1 with
            | none =>
              go_wp2_with fail
              go_meet
              case rel => exact ⟨_, _, rfl, H1.out.drewN _, below_drewN (Below.refl _ _) _⟩
            | some x =>
              have hmk := run_mk34 ts.length (by omega)
              have HC : Hid (∀ ty, (Builtin.copy_ #[34, 34] ty #[.slice (some ⟨(w.drewN n).heap.size, 0, none⟩) ts.length ts.length, .slice (some x) ts.length c1]).run Try.prog ((w.drewN n).alloc (.cells (zr (.int .u8 0) ts.length).toArray 5)) = .ok (.int .i64 ts.length) (((w.drewN n).alloc (.cells (zr (.int .u8 0) ts.length).toArray 5)).setRow (w.drewN n).heap.size (ints .u8 ts).toArray)) := copy34 x c1 ts (w.drewN n) H1.out
              go_wp2_with (refine wpList_copy_run rfl _ _ 34 rfl _ _ rfl rfl _ _ HC.out ?_)
              go_meet
              case rel =>
                refine ⟨_, _, rfl, SI.ofBlk' ((Blk.new (w.drewN n) 5 _).row (ints .u8 ts)), ?_⟩
                exact below_row ((below_drewN (Below.refl _ _) _).alloc (Nat.le_refl _) _) (Nat.le_refl _) _
        case rest =>
          as_aux_lemma =>
            obtain ⟨b1, d1, rfl, hs1, hb1⟩ := hcut
            have S1 : Hid (SI .u8 wc b1 ts) := hs1
            have B1 : Hid (Below w.heap.size w wc) := hb1
            clear hs1 hb1
            obtain ⟨wa, rfl⟩ : ∃ wa : World, wa = wc := ⟨_, rfl⟩
            go_upto_if 78 with (fail)
            go_cut [2] (fun s w' => ∃ b c, s = .slice b lo.length c ∧ SI .i64 w' b lo ∧ Below wa.heap.size wa w')
            case first =>
              as_aux_lemma =>
                cases a2 with
                | none =>
                  go_wp2_with fail
                  go_meet
                  case rel => exact ⟨_, _, rfl, H2.out.below B1.out, Below.refl _ _⟩
                | some x =>
                  have hmk := run_mk22 lo.length (by omega)
                  have HC : Hid (∀ ty, (Builtin.copy_ #[22, 22] ty #[.slice (some ⟨wa.heap.size, 0, none⟩) lo.length lo.length, .slice (some x) lo.length c2]).run Try.prog (wa.alloc (.cells (zr (.int .i64 0) lo.length).toArray 3)) = .ok (.int .i64 lo.length) ((wa.alloc (.cells (zr (.int .i64 0) lo.length).toArray 3)).setRow wa.heap.size (ints .i64 lo).toArray)) := copy22 x c2 lo wa (H2.out.below B1.out)
                  go_wp2_with (refine wpList_copy_run rfl _ _ 22 rfl _ _ rfl rfl _ _ HC.out ?_)
                  go_meet
                  case rel => exact ⟨_, _, rfl, SI.ofBlk' ((Blk.new wa 3 _).row (ints .i64 lo)), below_row ((Below.refl _ _).alloc (Nat.le_refl _) _) (Nat.le_refl _) _⟩
            case rest =>
              as_aux_lemma =>
                obtain ⟨b2, d2, rfl, hs2, hb2⟩ := hcut
                have S2 : Hid (SI .i64 wc b2 lo) := hs2
                have B2 : Hid (Below w.heap.size w wc) := B1.out.trans (hb2.mono B1.out.size)
                have S1' : Hid (SI .u8 wc b1 ts) := S1.out.below hb2
                clear hs2 hb2 S1 B1
                obtain ⟨wb, rfl⟩ : ∃ wb : World, wb = wc := ⟨_, rfl⟩
                go_upto_if 87 with (fail)
                go_cut [3] (fun s w' => ∃ b c, s = .slice b hi.length c ∧ SI .i64 w' b hi ∧ Below wb.heap.size wb w')
                case first =>
                  as_aux_lemma =>
                    cases a3 with
                    | none =>
                      go_wp2_with fail
                      go_meet
                      case rel => exact ⟨_, _, rfl, H3.out.below B2.out, Below.refl _ _⟩
                    | some x =>
                      have hmk := run_mk22 hi.length (by omega)
                      have HC : Hid (∀ ty, (Builtin.copy_ #[22, 22] ty #[.slice (some ⟨wb.heap.size, 0, none⟩) hi.length hi.length, .slice (some x) hi.length c3]).run Try.prog (wb.alloc (.cells (zr (.int .i64 0) hi.length).toArray 3)) = .ok (.int .i64 hi.length) ((wb.alloc (.cells (zr (.int .i64 0) hi.length).toArray 3)).setRow wb.heap.size (ints .i64 hi).toArray)) := copy22 x c3 hi wb (H3.out.below B2.out)
                      go_wp2_with (refine wpList_copy_run rfl _ _ 22 rfl _ _ rfl rfl _ _ HC.out ?_)
                      go_meet
                      case rel => exact ⟨_, _, rfl, SI.ofBlk' ((Blk.new wb 3 _).row (ints .i64 hi)), below_row ((Below.refl _ _).alloc (Nat.le_refl _) _) (Nat.le_refl _) _⟩
                case rest =>
                  as_aux_lemma =>
                    obtain ⟨b3, d3, rfl, hs3, hb3⟩ := hcut
                    have S3 : Hid (SI .i64 wc b3 hi) := hs3
                    have B3 : Hid (Below w.heap.size w wc) := B2.out.trans (hb3.mono B2.out.size)
                    have S1'' : Hid (SI .u8 wc b1 ts) := S1'.out.below hb3
                    have S2' : Hid (SI .i64 wc b2 lo) := S2.out.below hb3
                    clear hs3 hb3 S1' S2 B2
                    have HL2 : Hid (lo.length = hi.length) := HCAN.out.1
                    go_wp2_with fail
                    refine (cloneB_any a0 c0 ps wc (H0.out.below B3.out) E0.out (by omega)).mono ?_
                    rintro e x1 ⟨pa, rfl, hP, hb, hfp⟩
                    have BX : Hid (Below wc.heap.size wc x1) := hb
                    have T1 : Hid (SI .u8 x1 b1 ts) := S1''.out.below hb
                    have T2 : Hid (SI .i64 x1 b2 lo) := S2'.out.below hb
                    have T3 : Hid (SI .i64 x1 b3 hi) := S3.out.below hb
                    have HP : Hid (OwnP x1 pa ps.length ps) := hP
                    have FP : Hid (From wc.heap.size pa) := hfp
                    clear hb hP hfp
                    as_aux_lemma =>
                      go_wp2_with fail
                      refine (sparseB_any pa ps.length b1 b2 b3 d1 d2 d3 ps ts lo hi u x1 HP.out T1.out T2.out T3.out HDIS.out W0.out HL2.out (by omega) (by omega) (by omega)).mono ?_
                      rintro e x2 ⟨rfl, hb, ka, mb, ra, hT, hmb, hfk, hfr⟩
                      have B5 : Hid (Below wc.heap.size wc x2) := BX.out.trans (hb.mono BX.out.size)
                      have HT : Hid (TBL x2 x1.heap.size pa ps.length ka ts.length mb ra lo.length ps ts lo hi u) := hT
                      have HMB : Hid (wc.heap.size ≤ mb) := Nat.le_trans BX.out.size hmb
                      have FK : Hid (From wc.heap.size ka) := fun x hx => Nat.le_trans BX.out.size (hfk x hx)
                      have FR : Hid (From wc.heap.size ra) := fun x hx => Nat.le_trans BX.out.size (hfr x hx)
                      clear hb hT hmb hfk hfr T1 T2 T3 HP
                      have hu0 : 0 ≤ u := by have := HCS.out; exact canS_u0 this
                      have hu1 : u ≤ 2305843009213693950 := by have := HCS.out; exact canS_u1 this
                      as_aux_lemma =>
                        go_wp2_with fail
                        refine (takeT_any wc.heap.size x1.heap.size pa ps.length ka ts.length mb ra ps ts lo hi u j x2 HT.out HLEN.out HCAN.out (by omega) (by omega) hu0 hu1 HDIS.out W0.out WJ.out HIN.out BX.out.size FR.out B5.out.size FP.out FK.out HMB.out).mono ?_
                        rintro e x3 ⟨lb, ok, t, ra', rc', ps', ts', lo', hi', u', rfl, hL, hlb, hb, hT, hkl, hcase⟩
                        have HL3 : Hid (Blk x3 lb 83 (linkCells t)) := hL
                        have HLB : Hid (wc.heap.size ≤ lb) := Nat.le_trans B5.out.size hlb
                        have B6 : Hid (Below wc.heap.size wc x3) := B5.out.trans hb
                        have HT3 : Hid (TBL x3 x1.heap.size pa ps.length ka ts.length mb ra' rc' ps' ts' lo' hi' u') := hT
                        have HKL : Hid (∀ x, ka = some x → x.block ≠ lb) := hkl
                        have HCASE : Hid (TookCase ps ts lo hi u j ok t ps' ts' lo' hi' u') := hcase
                        obtain ⟨p1, p2, p3, p4, p5⟩ := took_facts HCS.out HLEN.out HDIS.out W0.out hcase
                        have HL' : Hid (ps'.length = ts'.length) := p1
                        have hps' : ps'.length ≤ 4096 := by omega
                        have hts' : ts'.length ≤ 4096 := by omega
                        have HLR : Hid (lo'.length = hi'.length) := p3
                        have hlo' : lo'.length ≤ 32769 := by omega
                        have WP' : Hid (∀ z ∈ ps', (Lit.int .i64 z).wf = true) := p5
                        clear hL hlb hb hT hkl hcase p1 p2 p3 p4 p5 HT
                        as_aux_lemma =>
                          go_wp2_with fail
                          refine (peers_any x1.heap.size pa ps.length ps' x3 HT3.out.tab.lt (TBL.cells HT3.out.tab).1 HT3.out.peers.si (by omega)).mono ?_
                          rintro e x4 ⟨rfl, hg, hb, hs⟩
                          have G4 : Hid (Blk x4 x3.heap.size 3 (ints .i64 ps')) := hg
                          have B7 : Hid (Below x3.heap.size x3 x4) := hb
                          have HT4 : Hid (TBL x4 x1.heap.size pa ps.length ka ts.length mb ra' rc' ps' ts' lo' hi' u') := HT3.out.below hb
                          clear hg hb hs
                          as_aux_lemma =>
                            go_wp2_with fail
                            refine (tags_any x1.heap.size ka ts.length ts' x4 HT4.out.tab.lt (TBL.cells HT4.out.tab).2.1 HT4.out.kept.sk (by omega)).mono ?_
                            rintro e x5 ⟨rfl, hg, hb, hs⟩
                            have G5 : Hid (Blk x5 x4.heap.size 5 (ints .u8 ts')) := hg
                            have B8 : Hid (Below x3.heap.size x3 x5) := B7.out.trans (hb.mono B7.out.size)
                            have HT5 : Hid (TBL x5 x1.heap.size pa ps.length ka ts.length mb ra' rc' ps' ts' lo' hi' u') := HT4.out.below hb
                            have G4' : Hid (Blk x5 x3.heap.size 3 (ints .i64 ps')) := G4.out.below hb G4.out.lt
                            clear hg hb hs G4 HT4
                            as_aux_lemma =>
                              go_wp2_with fail
                              refine (up_any x1.heap.size ra' rc' lo' hi' u' x5 HT5.out.tab.lt (TBL.cells HT5.out.tab).2.2.2.1 (TBL.cells HT5.out.tab).2.2.2.2 (HT5.out.runs.sr HLR.out) HLR.out (by omega)).mono ?_
                              rintro e x6 ⟨rfl, hg1, hg2, hb, hs⟩
                              have G6 : Hid (Blk x6 x5.heap.size 3 (ints .i64 lo')) := hg1
                              have G7 : Hid (Blk x6 (x5.heap.size + 1) 3 (ints .i64 hi')) := hg2
                              have HT6 : Hid (TBL x6 x1.heap.size pa ps.length ka ts.length mb ra' rc' ps' ts' lo' hi' u') := HT5.out.below hb
                              have G4'' : Hid (Blk x6 x3.heap.size 3 (ints .i64 ps')) := G4'.out.below hb G4'.out.lt
                              have G5' : Hid (Blk x6 x4.heap.size 5 (ints .u8 ts')) := G5.out.below hb G5.out.lt
                              have B9 : Hid (Below x3.heap.size x3 x6) := B8.out.trans (hb.mono B8.out.size)
                              have HL6 : Hid (Blk x6 lb 83 (linkCells t)) := HL3.out.below B9.out HL3.out.lt
                              clear hg1 hg2 hb hs G4' G5 HT5 HT3 B7 B8
                              have hne8 : ((ts'.length : Int) != (ps'.length : Int)) = false := by have := HL'.out; simp; omega
                              have hnn8 : ((ps'.length : Int) != (ps'.length : Int)) = false := by simp
                              as_aux_lemma =>
                                go_wp2_with fail
                                refine (indexLenT x1.heap.size pa ps.length ka ts.length mb ra' rc' ps' ts' lo' hi' u' x6 HT6.out).mono ?_
                                rintro e x9 ⟨rfl, hx9⟩
                                cases hx9
                                go_wp2_with fail
                                go_loopw [24] (fun i w' => ∃ k : Nat, k ≤ ps'.length ∧ i = .int .i64 k ∧ Below x6.heap.size x6 w') (fun i _ => ps'.length - (intOf i).toNat)
                                case atStart =>
                                  exact ⟨0, by omega, rfl, Below.refl _ _⟩
                                case round =>
                                  obtain ⟨k, hk, rfl, hbr⟩ := hrel
                                  have BR : Hid (Below x6.heap.size x6 wr) := hbr
                                  have HTr : Hid (TBL wr x1.heap.size pa ps.length ka ts.length mb ra' rc' ps' ts' lo' hi' u') := HT6.out.below hbr
                                  clear hbr
                                  by_cases hlt : k < ps'.length
                                  · as_aux_lemma =>
                                      obtain ⟨x, hx⟩ : ∃ x, x = ps'.getD k 0 := ⟨_, rfl⟩
                                      have hgk : wr.cell? ⟨x3.heap.size, k, none⟩ = some (.int .i64 x) := by
                                        rw [(G4''.out.below BR.out G4''.out.lt).cell, hx]
                                        simp only [ints, List.getElem?_map, List.getD_eq_getElem?_getD]
                                        rw [List.getElem?_eq_getElem hlt]; rfl
                                      have hxw : (Lit.int .i64 x).wf = true := WP'.out x (by rw [hx]; exact getD_mem hlt)
                                      have KI : Hid (Calls Try.prog 40 #[.pointer (some ⟨x1.heap.size, 0, none⟩), .int .i64 x] wr fun e w' => e = .returned (.tuple #[.int .i64 k, .bool true]) ∧ w' = wr) := indexAt _ _ _ _ _ _ _ _ _ _ _ _ _ wr HTr.out k hlt x hx hxw
                                      have hkk : ((k : Int) != (k : Int)) = false := by simp
                                      clear hx hxw
                                      go_wp2_with fail
                                      refine KI.out.mono ?_
                                      rintro e wz ⟨rfl, hwz⟩
                                      cases hwz
                                      go_wp2_with fail
                                      refine (keptCopyT _ _ _ _ _ _ _ _ _ _ _ _ _ wr HTr.out k (by have := HL'.out; omega)).mono ?_
                                      rintro e y1 ⟨rfl, hy1, hyb, hys⟩
                                      go_wp2_with fail
                                      refine (setSeq_any wr.heap.size _ 0 y1 hy1).mono ?_
                                      rintro e y2 ⟨rfl, hy2⟩
                                      cases hy2
                                      have hZ : Blk (y1.setCell ⟨wr.heap.size, 13, none⟩ (.int .u8 0)) wr.heap.size 83 (linkCells 0) := by
                                        have := hy1.set 13 (.int .u8 0)
                                        rw [link_set] at this; exact this
                                      have HZ : Hid (Blk (y1.setCell ⟨wr.heap.size, 13, none⟩ (.int .u8 0)) wr.heap.size 83 (linkCells 0)) := hZ
                                      have HB2 : Hid (Below wr.heap.size wr (y1.setCell ⟨wr.heap.size, 13, none⟩ (.int .u8 0))) := hyb.setCell (Nat.le_refl _) _
                                      generalize y1.setCell ⟨wr.heap.size, 13, none⟩ (.int .u8 0) = y3 at *
                                      clear hy1 hyb hys hZ
                                      go_wp2_with fail
                                      refine (isZeroB wr.heap.size y3 HZ.out).mono ?_
                                      rintro e y4 ⟨rfl, hb4⟩
                                      have HB4 : Hid (Below x6.heap.size x6 y4) := (BR.out.trans (HB2.out.mono BR.out.size)).trans (hb4.mono (by have := HB2.out.size; have := BR.out.size; omega))
                                      clear hb4
                                      go_wp2_with fail
                                      go_roundw
                                      case rel => exact ⟨k + 1, by omega, by go_num, HB4.out⟩
                                      case measure => simp [intOf]; omega
                                  as_aux_lemma =>
                                    have hkn : k = ps'.length := by omega
                                    have BX3 : Hid (Below x3.heap.size x3 wr) := B9.out.trans (BR.out.mono B9.out.size)
                                    have BWC : Hid (Below wc.heap.size wc wr) := B6.out.trans (BX3.out.mono B6.out.size)
                                    have BW : Hid (Below w.heap.size w wr) := B3.out.trans (BWC.out.mono B3.out.size)
                                    have R1 : Hid (SI .u8 wr b1 ts) := S1''.out.below BWC.out
                                    have R2 : Hid (SI .i64 wr b2 lo) := S2'.out.below BWC.out
                                    have R3 : Hid (SI .i64 wr b3 hi) := S3.out.below BWC.out
                                    have R0 : Hid (SI .i64 wr a0 ps) := H0.out.below BW.out
                                    have GP : Hid (Blk wr x3.heap.size 3 (ints .i64 ps')) := G4''.out.below BR.out G4''.out.lt
                                    have GT : Hid (Blk wr x4.heap.size 5 (ints .u8 ts')) := G5'.out.below BR.out G5'.out.lt
                                    have GL : Hid (Blk wr x5.heap.size 3 (ints .i64 lo')) := G6.out.below BR.out G6.out.lt
                                    have GH : Hid (Blk wr (x5.heap.size + 1) 3 (ints .i64 hi')) := G7.out.below BR.out G7.out.lt
                                    have LB : Hid (Blk wr lb 83 (linkCells t)) := HL6.out.below BR.out HL6.out.lt
                                    have KL : Hid (Calls Try.prog 41 #[.slice b2 lo.length d2, .slice b3 hi.length d3, .int .i64 j] wr fun e w' => RetIff e (InRuns lo hi j) ∧ w' = wr) := linear_any b2 b3 d2 d3 lo hi j wr R2.out R3.out HL2.out (by omega)
                                    clear HT6 G4'' G5' G6 G7 HL6 HL3 B9 hq34 hq22 hkn
                                    rcases HCASE.out with hc | hc
                                    · as_aux_lemma =>
                                        obtain ⟨hok, ht, hnot, hps, hts, hlo, hhi, huu⟩ := hc
                                        have HNOT : Hid (¬ InRuns lo hi j) := hnot
                                        clear hnot HCASE
                                        subst hok ht hps hts hlo hhi huu
                                        have huu : (u' == u') = true := by simp
                                        go_wp2_with fail
                                        refine KL.out.mono ?_
                                        rintro e wz ⟨⟨B, rfl, hB⟩, hwz⟩
                                        cases hwz
                                        cases B with
                                        | true => exact absurd (hB.1 rfl) HNOT.out
                                        | false =>
                                          clear hB
                                          go_wp2_with fail
                                          refine (isZeroB lb wr LB.out).mono ?_
                                          rintro e z1 ⟨rfl, hz1⟩
                                          have Z1 : Hid (Below wr.heap.size wr z1) := hz1
                                          clear hz1
                                          go_wp2_with fail
                                          refine (equalInts_eq _ a0 ps'.length ps'.length ps'.length c0 ps' z1 ((SI.ofBlk' GP.out).below Z1.out) (R0.out.below Z1.out) (by omega) rfl rfl).mono ?_
                                          rintro e wz ⟨rfl, n1, rfl⟩
                                          go_wp2_with fail
                                          refine (equalBytes_eq _ b1 ts'.length ts'.length ts'.length d1 ts' (z1.drewN n1) (((SI.ofBlk' GT.out).below Z1.out).drewN _) ((R1.out.below Z1.out).drewN _) (by omega) rfl rfl).mono ?_
                                          rintro e wz ⟨rfl, n2, rfl⟩
                                          go_wp2_with fail
                                          refine (equalInts_eq _ b2 lo'.length lo'.length lo'.length d2 lo' (z1.drewN (n1 + n2)) (((SI.ofBlk' GL.out).below Z1.out).drewN _) ((R2.out.below Z1.out).drewN _) (by omega) rfl rfl).mono ?_
                                          rintro e wz ⟨rfl, n3, rfl⟩
                                          go_wp2_with fail
                                          refine (equalInts_eq _ b3 lo'.length hi'.length lo'.length d3 hi' (z1.drewN (n1 + n2 + n3)) (((SI.ofBlk' GH.out).below Z1.out).drewN _) ((R3.out.below Z1.out).drewN _) (by have := HL2.out; omega) HL2.out rfl).mono ?_
                                          rintro e wz ⟨rfl, n4, rfl⟩
                                          go_wp2_with fail
                                          go_ret
                                          exact ⟨rfl, below_drewN (BW.out.trans (Z1.out.mono BW.out.size)) _⟩
                                    as_aux_lemma =>
                                      obtain ⟨hok, ⟨A, r, C, hsp, hr1, hr2, hlo, hhi, huu⟩, hkeep⟩ := hc
                                      have hpl := rem_plain HCS.out hsp hr1 hr2
                                      rw [← hlo, ← hhi, ← huu] at hpl
                                      have HCN : Hid (CanS lo' hi' u') := hpl.1
                                      have HWI : Hid (Within lo' hi' lo hi) := hpl.2.1
                                      have HNJ : Hid (¬ InRuns lo' hi' j) := hpl.2.2.1
                                      have HUP : Hid (InRuns lo hi j) := inRuns_split HCAN.out.1 hsp hr1 hr2
                                      have HKEEP : Hid ((j ∉ ps ∧ t = 0 ∧ ps' = ps ∧ ts' = ts) ∨ (∃ k, k < ps.length ∧ ps.getD k 0 = j ∧ t = ts.getD k 0 ∧ ps' = outOf ps k ∧ ts' = outOf ts k)) := hkeep
                                      have huq : (u' != u - 1) = false := by simp [huu]
                                      subst hok
                                      clear hpl hsp hr1 hr2 hlo hhi huu hkeep HCASE
                                      go_wp2_with fail
                                      refine KL.out.mono ?_
                                      rintro e wz ⟨⟨B, rfl, hB⟩, hwz⟩
                                      cases hwz
                                      cases B with
                                      | false => exact absurd (hB.2 HUP.out) (by simp)
                                      | true =>
                                        clear hB KL
                                        as_aux_lemma =>
                                          obtain ⟨wd, rfl⟩ : ∃ wd : World, wd = wc := ⟨_, rfl⟩
                                          go_wp2_with fail
                                          refine (indexOf_any a0 c0 ps j wr R0.out (by omega)).mono ?_
                                          rintro e wz ⟨rfl, hwz⟩
                                          cases hwz
                                          obtain ⟨ix, hix⟩ : ∃ ix, ix = idxOf ps j := ⟨_, rfl⟩
                                          rw [← hix]
                                          have HIX : Hid (ix = idxOf ps j) := hix
                                          clear hix
                                          go_upto_if 204 with (fail)
                                          go_cut [29] (fun s w' => s = .int .i64 ps'.length ∧ Blk w' lb 83 (linkCells 0) ∧ FrL [lb] wr w')
                                          case first =>
                                            as_aux_lemma =>
                                              rcases HKEEP.out with ⟨hj, ht, hp, hts⟩ | ⟨kk, hkk, hjk, ht, hp, hts⟩
                                              · obtain rfl : ix = -1 := by rw [HIX.out]; exact idxOf_no hj
                                                have HPL : Hid (ps.length = ps'.length) := by rw [hp]; rfl
                                                have HLB0 : Hid (Blk wr lb 83 (linkCells 0)) := by have := LB.out; rw [ht] at this; exact this
                                                clear hj ht hp hts
                                                go_wp2_with fail
                                                go_meet
                                                case rel => exact ⟨by rw [HPL.out], HLB0.out, FrL.refl _ _⟩
                                              · obtain rfl : ix = (kk : Int) := by rw [HIX.out]; exact idxOf_at HDIS.out hkk hjk
                                                have hwant : (ps.length : Int) - 1 = (ps'.length : Int) := by rw [hp, outOf_len]; omega
                                                have HWANT : Hid ((ps.length : Int) - 1 = (ps'.length : Int)) := hwant
                                                have hkt : kk < ts.length := by have := HLEN.out; omega
                                                have hseq : wr.cell? ⟨lb, 13, none⟩ = some (.int .u8 t) := by rw [LB.out.cell]; rfl
                                                have hsi := R1.out
                                                rcases hsi with h | ⟨bb, oo, rfl, hbb, hcc⟩
                                                · rw [h] at hkt; simp at hkt
                                                have htag := hcc kk hkt
                                                rw [← ht] at htag
                                                clear hcc ht hp hts hwant
                                                have i1 : (kk : Int) < (ts.length : Int) := by omega
                                                have i0 : (0 : Int) ≤ (kk : Int) := by omega
                                                have htt : (t != t) = false := by simp
                                                go_wp2_with fail
                                                go_quiet ((go_at_call 30; exact Calls.quiet_of_same (linkSeq_any lb 0 t _ hseq)))
                                                go_wp2_with fail
                                                refine (setSeq_any lb t 0 _ (LB.out.drewN _)).mono ?_
                                                rintro e y2 ⟨rfl, hy2⟩
                                                cases hy2
                                                go_wp2_with fail
                                                go_meet
                                                case rel =>
                                                  refine ⟨by rw [HWANT.out], ?_, ((FrL.refl [lb] wr).drewN _).setCell (by simp) _ _⟩
                                                  have := (LB.out.drewN nq).set 13 (.int .u8 0)
                                                  rw [link_set] at this
                                                  exact this
                                          case rest =>
                                            as_aux_lemma =>
                                              obtain ⟨rfl, hz, hf⟩ := hcut
                                              have hnl : ∀ {b : Nat} {e : TypeId} {cs : List Value}, Blk wr b e cs → e ≠ 83 → Blk wc b e cs := fun hb hne => hf.blk hb (by simp only [List.mem_singleton]; exact hb.ne LB.out hne)
                                              have ZL : Hid (Blk wc lb 83 (linkCells 0)) := hz
                                              have TY : Hid (TBL wc x1.heap.size pa ps.length ka ts.length mb ra' rc' ps' ts' lo' hi' u') := HTr.out.frL LB.out HKL.out hf
                                              have P1 : Hid (Blk wc x3.heap.size 3 (ints .i64 ps')) := hnl GP.out (by decide)
                                              have P2 : Hid (Blk wc x4.heap.size 5 (ints .u8 ts')) := hnl GT.out (by decide)
                                              have P3 : Hid (Blk wc x5.heap.size 3 (ints .i64 lo')) := hnl GL.out (by decide)
                                              have P4 : Hid (Blk wc (x5.heap.size + 1) 3 (ints .i64 hi')) := hnl GH.out (by decide)
                                              have Q1 : Hid (SI .u8 wc b1 ts) := SI.frL S1''.out R1.out HLB.out hf
                                              have Q2 : Hid (SI .i64 wc b2 lo) := SI.frL S2'.out R2.out HLB.out hf
                                              have Q3 : Hid (SI .i64 wc b3 hi) := SI.frL S3.out R3.out HLB.out hf
                                              have Q0 : Hid (SI .i64 wc a0 ps) := SI.frL (H0.out.below B3.out) R0.out HLB.out hf
                                              have BY : Hid (Below w.heap.size w wc) := BW.out.trans (hf.below (fun b hb => by rw [List.mem_singleton] at hb; rw [hb]; exact Nat.le_trans B3.out.size HLB.out) BW.out.size)
                                              have JN : Hid (j ∉ ps') := by
                                                rcases HKEEP.out with ⟨hj, _, hp, _⟩ | ⟨kk, hkk, hjk, _, hp, _⟩
                                                · rw [hp]; exact hj
                                                · rw [hp]; exact fun hm => ((mem_outOf HDIS.out hkk j).1 hm).2 hjk.symm
                                              have HQ : Hid (∀ i, i < ps'.length → ∃ q, q < ps.length ∧ ps.getD q 0 = ps'.getD i 0 ∧ ts.getD q 0 = ts'.getD i 0) := by
                                                intro i hi0
                                                rcases HKEEP.out with ⟨_, _, hp, hq⟩ | ⟨kk, hkk, _, _, hp, hq⟩
                                                · rw [hp] at hi0 ⊢; rw [hq]; exact ⟨i, hi0, rfl, rfl⟩
                                                · rw [hp] at hi0 ⊢; rw [hq]; exact outOf_from HLEN.out hkk hi0
                                              clear hz hf hnl HTr GP GT GL GH R0 R1 R2 R3 LB HKEEP hlt
                                              go_wp2_with fail
                                              refine (isZeroB lb wc ZL.out).mono ?_
                                              rintro e y1 ⟨rfl, hb⟩
                                              have TY1 : Hid (TBL y1 x1.heap.size pa ps.length ka ts.length mb ra' rc' ps' ts' lo' hi' u') := TY.out.below hb
                                              have P1' : Hid (Blk y1 x3.heap.size 3 (ints .i64 ps')) := P1.out.below hb P1.out.lt
                                              have P2' : Hid (Blk y1 x4.heap.size 5 (ints .u8 ts')) := P2.out.below hb P2.out.lt
                                              have P3' : Hid (SI .i64 y1 (some ⟨x5.heap.size, 0, none⟩) lo') := SI.ofBlk' (P3.out.below hb P3.out.lt)
                                              have P4' : Hid (SI .i64 y1 (some ⟨x5.heap.size + 1, 0, none⟩) hi') := SI.ofBlk' (P4.out.below hb P4.out.lt)
                                              have Q1' : Hid (SI .u8 y1 b1 ts) := Q1.out.below hb
                                              have Q2' : Hid (SI .i64 y1 b2 lo) := Q2.out.below hb
                                              have Q3' : Hid (SI .i64 y1 b3 hi) := Q3.out.below hb
                                              have Q0' : Hid (SI .i64 y1 a0 ps) := Q0.out.below hb
                                              have BY1 : Hid (Below w.heap.size w y1) := BY.out.trans (hb.mono BY.out.size)
                                              clear hb TY P1 P2 P3 P4 Q0 Q1 Q2 Q3 BY ZL
                                              as_aux_lemma =>
                                                go_wp2_with fail
                                                refine (indexNot _ _ _ _ _ _ _ _ _ _ _ _ _ y1 TY1.out j JN.out WJ.out).mono ?_
                                                rintro e wz ⟨rfl, hwz⟩
                                                cases hwz
                                                go_wp2_with fail
                                                go_loopw [32] (fun i w' => ∃ k m : Nat, k ≤ ps'.length ∧ i = .int .i64 k ∧ w' = y1.drewN m) (fun i _ => ps'.length - (intOf i).toNat)
                                                case atStart =>
                                                  exact ⟨0, 0, by omega, rfl, rfl⟩
                                                case round =>
                                                  obtain ⟨k, m, hk, rfl, rfl⟩ := hrel
                                                  by_cases hlt : k < ps'.length
                                                  · as_aux_lemma =>
                                                      obtain ⟨q, hq, hq1, hq2⟩ := HQ.out k hlt
                                                      obtain ⟨x, hx⟩ : ∃ x, x = ps'.getD k 0 := ⟨_, rfl⟩
                                                      obtain ⟨tg, htg⟩ : ∃ tg, tg = ts'.getD k 0 := ⟨_, rfl⟩
                                                      have hgk : y1.cell? ⟨x3.heap.size, k, none⟩ = some (.int .i64 x) := by
                                                        rw [P1'.out.cell, hx]
                                                        simp only [ints, List.getElem?_map, List.getD_eq_getElem?_getD]
                                                        rw [List.getElem?_eq_getElem hlt]; rfl
                                                      have hkt' : k < ts'.length := by have := HL'.out; omega
                                                      have hgt : y1.cell? ⟨x4.heap.size, k, none⟩ = some (.int .u8 tg) := by
                                                        rw [P2'.out.cell, htg]
                                                        simp only [ints, List.getElem?_map, List.getD_eq_getElem?_getD]
                                                        rw [List.getElem?_eq_getElem hkt']; rfl
                                                      have hqt : q < ts.length := by have := HLEN.out; omega
                                                      have hsi := Q1'.out
                                                      rcases hsi with h | ⟨bb, oo, rfl, hbb, hcc⟩
                                                      · rw [h] at hqt; simp at hqt
                                                      have htag := hcc q hqt
                                                      rw [hq2, ← htg] at htag
                                                      have hxj : (x == j) = false := by
                                                        have h1 := JN.out
                                                        have h2 : x ∈ ps' := by rw [hx]; exact getD_mem hlt
                                                        have h3 : x ≠ j := fun e => h1 (by rw [← e]; exact h2)
                                                        simp [h3]
                                                      have KX : Hid (Calls Try.prog 29 #[.slice a0 ps.length c0, .int .i64 x] (y1.drewN m) fun e w' => e = .returned (.int .i64 (q : Int)) ∧ w' = y1.drewN m) := by
                                                        have := indexOf_any a0 c0 ps x (y1.drewN m) (Q0'.out.drewN _) (by omega)
                                                        rw [idxOf_at HDIS.out hq (by rw [hq1, hx])] at this
                                                        exact this
                                                      clear hx htg hcc hq1 hq2
                                                      have i1 : (q : Int) < (ts.length : Int) := by omega
                                                      have i2 : (k : Int) < (ts'.length : Int) := by omega
                                                      have i3 : (k : Int) < (ps'.length : Int) := by omega
                                                      have g1 : decide ((q : Int) < 0) = false := by simp
                                                      have g2 : (tg != tg) = false := by simp
                                                      go_wp2_with fail
                                                      refine KX.out.mono ?_
                                                      rintro e wz ⟨rfl, hwz⟩
                                                      cases hwz
                                                      go_wp2_with fail
                                                      go_quiet (fail)
                                                      go_wp2_with fail
                                                      go_roundw
                                                      case rel => exact ⟨k + 1, m + nq, by omega, by go_num, by first | rfl | rw [World.drewN_drewN]⟩
                                                      case measure => simp [intOf]; omega
                                                  as_aux_lemma =>
                                                    have hu0' : -9223372036854775807 ≤ u := by omega
                                                    have KC : Hid (Calls Try.prog 11 #[.slice (some ⟨x5.heap.size, 0, none⟩) lo'.length lo'.length, .slice (some ⟨x5.heap.size + 1, 0, none⟩) lo'.length lo'.length, .int .i64 u'] (y1.drewN m) fun e w' => RetIff e (CanS lo' hi' u') ∧ ∃ n, w' = (y1.drewN m).drewN n) := by
                                                      have := canS_any (some ⟨x5.heap.size, 0, none⟩) (some ⟨x5.heap.size + 1, 0, none⟩) lo'.length lo'.length lo' hi' u' (y1.drewN m) (P3'.out.drewN _) (P4'.out.drewN _) (by omega) (by have := HLR.out; omega)
                                                      rw [← HLR.out] at this
                                                      exact this
                                                    go_wp2_with fail
                                                    refine KC.out.mono ?_
                                                    rintro e wz ⟨⟨B, rfl, hB⟩, n1, rfl⟩
                                                    cases B with
                                                    | false => exact absurd (hB.2 HCN.out) (by simp)
                                                    | true =>
                                                      clear hB KC
                                                      have KW : Hid (∀ n, Calls Try.prog 45 #[.slice (some ⟨x5.heap.size, 0, none⟩) lo'.length lo'.length, .slice (some ⟨x5.heap.size + 1, 0, none⟩) lo'.length lo'.length, .slice b2 lo.length d2, .slice b3 hi.length d3] (y1.drewN n) fun e w' => e = .returned (.bool true) ∧ ∃ q, w' = (y1.drewN n).drewN q) := by
                                                        intro n
                                                        have := within_any (some ⟨x5.heap.size, 0, none⟩) (some ⟨x5.heap.size + 1, 0, none⟩) b2 b3 lo'.length lo'.length d2 d3 lo' hi' lo hi (y1.drewN n) (P3'.out.drewN _) (P4'.out.drewN _) (Q2'.out.drewN _) (Q3'.out.drewN _) HCAN.out HWI.out (by omega) (by omega)
                                                        rw [← HLR.out] at this
                                                        exact this
                                                      have KJ : Hid (∀ n, Calls Try.prog 41 #[.slice (some ⟨x5.heap.size, 0, none⟩) lo'.length lo'.length, .slice (some ⟨x5.heap.size + 1, 0, none⟩) lo'.length lo'.length, .int .i64 j] (y1.drewN n) fun e w' => RetIff e (InRuns lo' hi' j) ∧ w' = y1.drewN n) := by
                                                        intro n
                                                        have := linear_any (some ⟨x5.heap.size, 0, none⟩) (some ⟨x5.heap.size + 1, 0, none⟩) lo'.length lo'.length lo' hi' j (y1.drewN n) (P3'.out.drewN _) (P4'.out.drewN _) HLR.out (by omega)
                                                        rw [← HLR.out] at this
                                                        exact this
                                                      go_wp2_with fail
                                                      refine (KW.out _).mono ?_
                                                      rintro e wz ⟨rfl, n2, rfl⟩
                                                      go_wp2_with fail
                                                      refine (KJ.out _).mono ?_
                                                      rintro e wz ⟨⟨B, rfl, hB⟩, hwz⟩
                                                      cases hwz
                                                      cases B with
                                                      | true => exact absurd (hB.1 rfl) HNJ.out
                                                      | false =>
                                                        clear hB
                                                        go_wp2_with fail
                                                        go_ret
                                                        exact ⟨rfl, below_drewN BY1.out _⟩
end Go.Proofs.Qxb6600404a
