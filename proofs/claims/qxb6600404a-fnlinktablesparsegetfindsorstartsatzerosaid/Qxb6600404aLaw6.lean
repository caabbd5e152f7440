import Derived.Test.Qxb6600404aLawLem
namespace Go.Proofs.Qxb6600404a
open Go.RowKit
set_option linter.unusedVariables false
set_option linter.unusedSimpArgs false

set_option maxRecDepth 100000 in
set_option maxHeartbeats 4000000 in
theorem law6 (a0 a1 a2 a3 : Option Addr) (c0 c1 c2 c3 : Nat) (ps ts lo hi : List Int) (u j : Int) (w : World)
    (h0 : SI .i64 w a0 ps) (h1 : SI .u8 w a1 ts) (h2 : SI .i64 w a2 lo) (h3 : SI .i64 w a3 hi) (e0 : a0 = none → ps = [])
    (m0 : ps.length ≤ maxLen) (m1 : ts.length ≤ maxLen) (m2 : lo.length ≤ maxLen) (m3 : hi.length ≤ maxLen)
    (w0 : ∀ z ∈ ps, (Lit.int .i64 z).wf = true) (wj : (Lit.int .i64 j).wf = true) :
    Calls Try.prog 6 #[.slice a0 ps.length c0, .slice a1 ts.length c1, .slice a2 lo.length c2, .slice a3 hi.length c3, .int .i64 u, .int .i64 j] w fun e w' => e = .returned (.bool true) ∧ Below w.heap.size w w' := by
  have H0 : Hid (SI .i64 w a0 ps) := h0
  have H1 : Hid (SI .u8 w a1 ts) := h1
  have H2 : Hid (SI .i64 w a2 lo) := h2
  have H3 : Hid (SI .i64 w a3 hi) := h3
  have E0 : Hid (a0 = none → ps = []) := e0
  have W0 : Hid (∀ z ∈ ps, (Lit.int .i64 z).wf = true) := w0
  have WJ : Hid ((Lit.int .i64 j).wf = true) := wj
  have KB : Hid (Calls Try.prog 35 #[.slice a0 ps.length c0, .slice a1 ts.length c1, .slice a2 lo.length c2, .slice a3 hi.length c3, .int .i64 u, .int .i64 j] w fun e w' => RetIf e (ps.length + ts.length + lo.length + hi.length ≤ 1048576) ∧ w' = w) := bytes_any 35 (.inl rfl) a0 a1 a2 a3 _ _ _ _ c0 c1 c2 c3 u j w m0 m1 m2 m3
  clear h0 h1 h2 h3 e0 w0 wj
  unfold maxLen at m0 m1 m2 m3
  have hq34 := nq34
  have hq22 := nq22
  go_enter Try.func6, Try.ntmps6
  go_wp2_with fail
  refine KB.out.mono ?_
  rintro e w' ⟨⟨B, rfl, hB⟩, hw'⟩
  cases hw'
  cases B
  · as_aux_lemma =>
      go_wp2_with fail
      go_ret
      exact ⟨rfl, Below.refl _ _⟩
  as_aux_lemma =>
    have hsum := hB rfl
    clear hB KB
    by_cases q0 : 4096 < ps.length
    · as_aux_lemma =>
        go_wp2_with fail
        go_ret
        exact ⟨rfl, Below.refl _ _⟩
    by_cases q1 : 4096 < ts.length
    · as_aux_lemma =>
        go_wp2_with fail
        go_ret
        exact ⟨rfl, Below.refl _ _⟩
    by_cases q2 : 32768 < lo.length
    · as_aux_lemma =>
        go_wp2_with fail
        go_ret
        exact ⟨rfl, Below.refl _ _⟩
    by_cases q3 : 32768 < hi.length
    · as_aux_lemma =>
        go_wp2_with fail
        go_ret
        exact ⟨rfl, Below.refl _ _⟩
    as_aux_lemma =>
      go_wp2_with fail
      refine (sparseOK_any a0 a1 a2 a3 c0 c1 c2 c3 ps ts lo hi u w H0.out H2.out H3.out (by omega) (by omega) (by omega)).mono ?_
      rintro e w' ⟨⟨B, rfl, hB⟩, n, rfl⟩
      cases B
      · as_aux_lemma =>
          go_wp2_with fail
          go_ret
          exact ⟨rfl, below_drewN (Below.refl _ _) _⟩
      as_aux_lemma =>
        obtain ⟨hlen, hcan, hdis, hin⟩ := hB rfl
        have HLEN : Hid (ps.length = ts.length) := hlen
        have HCAN : Hid (Canon lo hi) := hcan
        have HDIS : Hid (Distinct ps) := hdis
        clear hB hlen hcan hdis hin
        go_upto_if 69 with (fail)
        go_cut [1] (fun s w' => ∃ b c, s = .slice b ts.length c ∧ SI .u8 w' b ts ∧ Below w.heap.size w w')
        case first =>
          as_aux_lemma =>
            cases a1 with
            | none =>
              go_wp2_with fail
              go_meet
              case rel => exact ⟨_, _, rfl, H1.out.drewN _, below_drewN (Below.refl _ _) _⟩
            | some x =>
              have hmk := run_mk34 ts.length (by omega)
              have HC : Hid (∀ ty, (Builtin.copy_ #[34, 34] ty #[.slice (some ⟨(w.drewN n).heap.size, 0, none⟩) ts.length ts.length, .slice (some x) ts.length c1]).run Try.prog ((w.drewN n).alloc (.cells (zr (.int .u8 0) ts.length).toArray 5)) = .ok (.int .i64 ts.length) (((w.drewN n).alloc (.cells (zr (.int .u8 0) ts.length).toArray 5)).setRow (w.drewN n).heap.size (ints .u8 ts).toArray)) := copy34 x c1 ts (w.drewN n) H1.out
              go_wp2_with (refine wpList_copy_run rfl _ _ 34 rfl _ _ rfl rfl _ _ HC.out ?_)
              go_meet
              case rel =>
                refine ⟨_, _, rfl, SI.ofBlk' ((Blk.new (w.drewN n) 5 _).row (ints .u8 ts)), ?_⟩
                exact below_row ((below_drewN (Below.refl _ _) _).alloc (Nat.le_refl _) _) (Nat.le_refl _) _
        case rest =>
          as_aux_lemma =>
            obtain ⟨b1, d1, rfl, hs1, hb1⟩ := hcut
            have S1 : Hid (SI .u8 wc b1 ts) := hs1
            have B1 : Hid (Below w.heap.size w wc) := hb1
            clear hs1 hb1
            obtain ⟨wa, rfl⟩ : ∃ wa : World, wa = wc := ⟨_, rfl⟩
            go_upto_if 78 with (fail)
            go_cut [2] (fun s w' => ∃ b c, s = .slice b lo.length c ∧ SI .i64 w' b lo ∧ Below wa.heap.size wa w')
            case first =>
              as_aux_lemma =>
                cases a2 with
                | none =>
                  go_wp2_with fail
                  go_meet
                  case rel => exact ⟨_, _, rfl, H2.out.below B1.out, Below.refl _ _⟩
                | some x =>
                  have hmk := run_mk22 lo.length (by omega)
                  have HC : Hid (∀ ty, (Builtin.copy_ #[22, 22] ty #[.slice (some ⟨wa.heap.size, 0, none⟩) lo.length lo.length, .slice (some x) lo.length c2]).run Try.prog (wa.alloc (.cells (zr (.int .i64 0) lo.length).toArray 3)) = .ok (.int .i64 lo.length) ((wa.alloc (.cells (zr (.int .i64 0) lo.length).toArray 3)).setRow wa.heap.size (ints .i64 lo).toArray)) := copy22 x c2 lo wa (H2.out.below B1.out)
                  go_wp2_with (refine wpList_copy_run rfl _ _ 22 rfl _ _ rfl rfl _ _ HC.out ?_)
                  go_meet
                  case rel => exact ⟨_, _, rfl, SI.ofBlk' ((Blk.new wa 3 _).row (ints .i64 lo)), below_row ((Below.refl _ _).alloc (Nat.le_refl _) _) (Nat.le_refl _) _⟩
            case rest =>
              as_aux_lemma =>
                obtain ⟨b2, d2, rfl, hs2, hb2⟩ := hcut
                have S2 : Hid (SI .i64 wc b2 lo) := hs2
                have B2 : Hid (Below w.heap.size w wc) := B1.out.trans (hb2.mono B1.out.size)
                have S1' : Hid (SI .u8 wc b1 ts) := S1.out.below hb2
                clear hs2 hb2 S1 B1
                obtain ⟨wb, rfl⟩ : ∃ wb : World, wb = wc := ⟨_, rfl⟩
                go_upto_if 87 with (fail)
                go_cut [3] (fun s w' => ∃ b c, s = .slice b hi.length c ∧ SI .i64 w' b hi ∧ Below wb.heap.size wb w')
                case first =>
                  as_aux_lemma =>
                    cases a3 with
                    | none =>
                      go_wp2_with fail
                      go_meet
                      case rel => exact ⟨_, _, rfl, H3.out.below B2.out, Below.refl _ _⟩
                    | some x =>
                      have hmk := run_mk22 hi.length (by omega)
                      have HC : Hid (∀ ty, (Builtin.copy_ #[22, 22] ty #[.slice (some ⟨wb.heap.size, 0, none⟩) hi.length hi.length, .slice (some x) hi.length c3]).run Try.prog (wb.alloc (.cells (zr (.int .i64 0) hi.length).toArray 3)) = .ok (.int .i64 hi.length) ((wb.alloc (.cells (zr (.int .i64 0) hi.length).toArray 3)).setRow wb.heap.size (ints .i64 hi).toArray)) := copy22 x c3 hi wb (H3.out.below B2.out)
                      go_wp2_with (refine wpList_copy_run rfl _ _ 22 rfl _ _ rfl rfl _ _ HC.out ?_)
                      go_meet
                      case rel => exact ⟨_, _, rfl, SI.ofBlk' ((Blk.new wb 3 _).row (ints .i64 hi)), below_row ((Below.refl _ _).alloc (Nat.le_refl _) _) (Nat.le_refl _) _⟩
                case rest =>
                  as_aux_lemma =>
                    obtain ⟨b3, d3, rfl, hs3, hb3⟩ := hcut
                    have S3 : Hid (SI .i64 wc b3 hi) := hs3
                    have B3 : Hid (Below w.heap.size w wc) := B2.out.trans (hb3.mono B2.out.size)
                    have S1'' : Hid (SI .u8 wc b1 ts) := S1'.out.below hb3
                    have S2' : Hid (SI .i64 wc b2 lo) := S2.out.below hb3
                    clear hs3 hb3 S1' S2 B2
                    have HL2 : Hid (lo.length = hi.length) := HCAN.out.1
                    go_wp2_with fail
                    refine (clone_any a0 c0 ps wc (H0.out.below B3.out) E0.out (by omega)).mono ?_
                    rintro e x1 ⟨pa, rfl, hP, hb⟩
                    have BX : Hid (Below wc.heap.size wc x1) := hb
                    have T1 : Hid (SI .u8 x1 b1 ts) := S1''.out.below hb
                    have T2 : Hid (SI .i64 x1 b2 lo) := S2'.out.below hb
                    have T3 : Hid (SI .i64 x1 b3 hi) := S3.out.below hb
                    have B4 : Hid (Below w.heap.size w x1) := B3.out.trans (hb.mono B3.out.size)
                    have HP : Hid (OwnP x1 pa ps.length ps) := hP
                    clear hb hP S1'' S2' S3 B3
                    as_aux_lemma =>
                      go_wp2_with fail
                      refine (sparseT_any pa ps.length b1 b2 b3 d1 d2 d3 ps ts lo hi u x1 HP.out T1.out T2.out T3.out HDIS.out W0.out HL2.out (by omega) (by omega) (by omega)).mono ?_
                      rintro e x2 ⟨rfl, hb, ka, mb, ra, hT, hmb⟩
                      have B5 : Hid (Below x1.heap.size x1 x2) := hb
                      have HT : Hid (TBL x2 x1.heap.size pa ps.length ka ts.length mb ra lo.length ps ts lo hi u) := hT
                      have HMB : Hid (x1.heap.size ≤ mb) := hmb
                      clear hb hT hmb
                      as_aux_lemma =>
                        go_wp2_with fail
                        refine (getT_any x1.heap.size pa ka mb ra lo.length ps ts lo hi u x2 HT.out HLEN.out j WJ.out HCAN.out (by omega) (by omega)).mono ?_
                        rintro e x3 ⟨ptr, ok, pa', pc', ka', kc', ps', ts', rfl, hT, hl', hF, hcase⟩
                        have HT3 : Hid (TBL x3 x1.heap.size pa' pc' ka' kc' mb ra lo.length ps' ts' lo hi u) := hT
                        have HL' : Hid (ps'.length = ts'.length) := hl'
                        have B6 : Hid (Below x1.heap.size x1 x3) := B5.out.trans ⟨hF.os, hF.tape, hF.output, hF.size, fun b hb => hF.block b (by have := B5.out.size; omega) (by omega) (by have := HMB.out; omega)⟩
                        have HCASE : Hid ((ps' = ps ∧ ts' = ts ∧ ok = true ∧ ∃ k kb, k < ps.length ∧ ps.getD k 0 = j ∧ ka' = some ⟨kb, 0, none⟩ ∧ ptr = some ⟨kb, k * 19, none⟩) ∨ (ps' = ps ∧ ts' = ts ∧ ok = false ∧ ptr = none ∧ j ∉ ps ∧ ¬ InRuns lo hi j) ∨ (ps' = ps ++ [j] ∧ ts' = ts ++ [0] ∧ ok = true ∧ j ∉ ps ∧ InRuns lo hi j ∧ ∃ kb, ka' = some ⟨kb, 0, none⟩ ∧ ptr = some ⟨kb, ts.length * 19, none⟩)) := hcase
                        have hps' : ps'.length ≤ 4097 := by
                          rcases hcase with ⟨h, _⟩ | ⟨h, _⟩ | ⟨h, _⟩
                          · rw [h]; omega
                          · rw [h]; omega
                          · rw [h]; simp; omega
                        clear hT hl' hF hcase B5 HT
                        as_aux_lemma =>
                          have hT0 := TBL.cells HT3.out.tab
                          obtain ⟨y0, y1, y2, y3, y4⟩ := hT0
                          have HY : Hid (_ ∧ _ ∧ _ ∧ _ ∧ _) := ⟨y0, y1, y2, y3, y4⟩
                          have hz0 := HT3.out.tab.lt
                          go_wp2_with fail
                          refine (up_any x1.heap.size ra lo.length lo hi u x3 hz0 y3 y4 (HT3.out.runs.sr HL2.out) HL2.out (by omega)).mono ?_
                          rintro e x4 ⟨rfl, hg1, hg2, hb4, hsz4⟩
                          have G1 : Hid (SI .i64 x4 (some ⟨x3.heap.size, 0, none⟩) lo) := SI.ofBlk' hg1
                          have G2 : Hid (SI .i64 x4 (some ⟨x3.heap.size + 1, 0, none⟩) hi) := SI.ofBlk' hg2
                          have B7 : Hid (Below x3.heap.size x3 x4) := hb4
                          have B8 : Hid (Below x1.heap.size x1 x4) := B6.out.trans (hb4.mono B6.out.size)
                          clear hg1 hg2 hb4 hsz4 y0 y1 y2 y3 y4 HY
                          have hu0 : (u != u) = false := by simp
                          as_aux_lemma =>
                            go_wp2_with fail
                            refine (equalInts_eq _ b2 lo.length lo.length lo.length d2 lo x4 G1.out (T2.out.below B8.out) (by omega) rfl rfl).mono ?_
                            rintro e x5 ⟨rfl, n5, rfl⟩
                            go_wp2_with fail
                            refine (equalInts_eq _ b3 lo.length hi.length lo.length d3 hi (x4.drewN n5) (G2.out.drewN _) ((T3.out.below B8.out).drewN _) (by omega) HL2.out rfl).mono ?_
                            rintro e x6 ⟨rfl, n6, rfl⟩
                            as_aux_lemma =>
                              go_wp2_with fail
                              have hT5 := (HT3.out.below B7.out).drewN (n5 + n6)
                              refine (peers_any x1.heap.size pa' pc' ps' (x4.drewN (n5 + n6)) hT5.tab.lt (TBL.cells hT5.tab).1 hT5.peers.si (by omega)).mono ?_
                              rintro e x7 ⟨rfl, hg7, hb7, hsz7⟩
                              have B9 : Hid (Below x4.heap.size x4 x7) := ⟨hb7.os, hb7.tape, hb7.output, hb7.size, hb7.block⟩
                              have hT7 := hT5.below hb7
                              have HT7 : Hid (TBL x7 x1.heap.size pa' pc' ka' kc' mb ra lo.length ps' ts' lo hi u) := hT7
                              have G7 : Hid (Blk x7 x4.heap.size 3 (ints .i64 ps')) := hg7
                              clear hT5 hg7 hb7 hsz7 hT7
                              as_aux_lemma =>
                                have hts' : ts'.length ≤ 4097 := by have := HL'.out; omega
                                go_wp2_with fail
                                refine (tags_any x1.heap.size ka' kc' ts' x7 HT7.out.tab.lt (TBL.cells HT7.out.tab).2.1 HT7.out.kept.sk (by omega)).mono ?_
                                rintro e x8 ⟨rfl, hg8, hb8, hsz8⟩
                                have HT8 : Hid (TBL x8 x1.heap.size pa' pc' ka' kc' mb ra lo.length ps' ts' lo hi u) := HT7.out.below hb8
                                have G8 : Hid (Blk x8 x7.heap.size 5 (ints .u8 ts')) := hg8
                                have G7' : Hid (Blk x8 x4.heap.size 3 (ints .i64 ps')) := G7.out.below hb8 G7.out.lt
                                have B10 : Hid (Below x1.heap.size x1 x8) := (B8.out.trans (B9.out.mono B8.out.size)).trans (hb8.mono (by have := B9.out.size; have := B8.out.size; omega))
                                clear hg8 hb8 hsz8
                                have hne8 : ((ts'.length : Int) != (ps'.length : Int)) = false := by have := HL'.out; simp; omega
                                have hnn8 : ((ps'.length : Int) != (ps'.length : Int)) = false := by simp
                                as_aux_lemma =>
                                  go_wp2_with fail
                                  refine (indexLenT x1.heap.size pa' pc' ka' kc' mb ra lo.length ps' ts' lo hi u x8 HT8.out).mono ?_
                                  rintro e x9 ⟨rfl, hx9⟩
                                  cases hx9
                                  have WP' : Hid (∀ z ∈ ps', (Lit.int .i64 z).wf = true) := by
                                    intro z hz
                                    rcases HCASE.out with ⟨h, _⟩ | ⟨h, _⟩ | ⟨h, _⟩
                                    · rw [h] at hz; exact W0.out z hz
                                    · rw [h] at hz; exact W0.out z hz
                                    · rw [h] at hz
                                      rcases List.mem_append.1 hz with h' | h'
                                      · exact W0.out z h'
                                      · simp at h'; rw [h']; exact WJ.out
                                  go_wp2_with fail
                                  go_loopw [24] (fun i w' => ∃ k : Nat, k ≤ ps'.length ∧ i = .int .i64 k ∧ Below x8.heap.size x8 w') (fun i _ => ps'.length - (intOf i).toNat)
                                  case atStart =>
                                    exact ⟨0, by omega, rfl, Below.refl _ _⟩
                                  case round =>
                                    obtain ⟨k, hk, rfl, hbr⟩ := hrel
                                    have BR : Hid (Below x8.heap.size x8 wr) := hbr
                                    have HTr : Hid (TBL wr x1.heap.size pa' pc' ka' kc' mb ra lo.length ps' ts' lo hi u) := HT8.out.below hbr
                                    clear hbr
                                    by_cases hlt : k < ps'.length
                                    · as_aux_lemma =>
                                        obtain ⟨x, hx⟩ : ∃ x, x = ps'.getD k 0 := ⟨_, rfl⟩
                                        have hgk : wr.cell? ⟨x4.heap.size, k, none⟩ = some (.int .i64 x) := by
                                          rw [(G7'.out.below BR.out G7'.out.lt).cell, hx]
                                          simp only [ints, List.getElem?_map, List.getD_eq_getElem?_getD]
                                          rw [List.getElem?_eq_getElem hlt]; rfl
                                        have hxw : (Lit.int .i64 x).wf = true := WP'.out x (by rw [hx]; exact getD_mem hlt)
                                        have KI : Hid (Calls Try.prog 40 #[.pointer (some ⟨x1.heap.size, 0, none⟩), .int .i64 x] wr fun e w' => e = .returned (.tuple #[.int .i64 k, .bool true]) ∧ w' = wr) := indexAt _ _ _ _ _ _ _ _ _ _ _ _ _ wr HTr.out k hlt x hx hxw
                                        have hkk : ((k : Int) != (k : Int)) = false := by simp
                                        clear hx hxw
                                        go_wp2_with fail
                                        refine KI.out.mono ?_
                                        rintro e wz ⟨rfl, hwz⟩
                                        cases hwz
                                        go_wp2_with fail
                                        refine (keptCopyT _ _ _ _ _ _ _ _ _ _ _ _ _ wr HTr.out k (by have := HL'.out; omega)).mono ?_
                                        rintro e y1 ⟨rfl, hy1, hyb, hys⟩
                                        go_wp2_with fail
                                        refine (setSeq_any wr.heap.size _ 0 y1 hy1).mono ?_
                                        rintro e y2 ⟨rfl, hy2⟩
                                        cases hy2
                                        have hZ : Blk (y1.setCell ⟨wr.heap.size, 13, none⟩ (.int .u8 0)) wr.heap.size 83 (linkCells 0) := by
                                          have := hy1.set 13 (.int .u8 0)
                                          rw [link_set] at this; exact this
                                        have HZ : Hid (Blk (y1.setCell ⟨wr.heap.size, 13, none⟩ (.int .u8 0)) wr.heap.size 83 (linkCells 0)) := hZ
                                        have HB2 : Hid (Below wr.heap.size wr (y1.setCell ⟨wr.heap.size, 13, none⟩ (.int .u8 0))) := hyb.setCell (Nat.le_refl _) _
                                        generalize y1.setCell ⟨wr.heap.size, 13, none⟩ (.int .u8 0) = y3 at *
                                        clear hy1 hyb hys hZ
                                        go_wp2_with fail
                                        refine (isZeroB wr.heap.size y3 HZ.out).mono ?_
                                        rintro e y4 ⟨rfl, hb4⟩
                                        have HB4 : Hid (Below x8.heap.size x8 y4) := (BR.out.trans (HB2.out.mono BR.out.size)).trans (hb4.mono (by have := HB2.out.size; have := BR.out.size; omega))
                                        clear hb4
                                        go_wp2_with fail
                                        go_roundw
                                        case rel => exact ⟨k + 1, by omega, by go_num, HB4.out⟩
                                        case measure => simp [intOf]; omega
                                    as_aux_lemma =>
                                      have hkn : k = ps'.length := by omega
                                      have BW : Hid (Below w.heap.size w wr) := (B4.out.trans (B10.out.mono B4.out.size)).trans (BR.out.mono (by have := B10.out.size; have := B4.out.size; omega))
                                      have BXR : Hid (Below x1.heap.size x1 wr) := B10.out.trans (BR.out.mono B10.out.size)
                                      have R1 : Hid (SI .u8 wr b1 ts) := T1.out.below BXR.out
                                      have R2 : Hid (SI .i64 wr b2 lo) := T2.out.below BXR.out
                                      have R3 : Hid (SI .i64 wr b3 hi) := T3.out.below BXR.out
                                      have R0 : Hid (SI .i64 wr a0 ps) := H0.out.below BW.out
                                      have GP : Hid (SI .i64 wr (some ⟨x4.heap.size, 0, none⟩) ps') := SI.ofBlk' (G7'.out.below BR.out G7'.out.lt)
                                      have GT : Hid (SI .u8 wr (some ⟨x7.heap.size, 0, none⟩) ts') := SI.ofBlk' (G8.out.below BR.out G8.out.lt)
                                      have K29 : Hid (Calls Try.prog 29 #[.slice a0 ps.length c0, .int .i64 j] wr fun e w' => e = .returned (.int .i64 (idxOf ps j)) ∧ w' = wr) := indexOf_any a0 c0 ps j wr R0.out (by omega)
                                      clear HT8 HT7 HT3 G7 G7' G8 G1 G2 B6 B7 B8 B9 T1 T2 T3 H1 H2 H3 HP hkn
                                      have KL : Hid (Calls Try.prog 41 #[.slice b2 lo.length d2, .slice b3 hi.length d3, .int .i64 j] wr fun e w' => RetIff e (InRuns lo hi j) ∧ w' = wr) := linear_any b2 b3 d2 d3 lo hi j wr R2.out R3.out HL2.out (by omega)
                                      clear hq34 hq22
                                      rcases HCASE.out with hc | hc | hc
                                      · as_aux_lemma =>
                                          obtain ⟨hps, hts, hok, kk, kb, hkk, hjk, hka, hptr⟩ := hc
                                          have hidx := idxOf_at HDIS.out hkk hjk
                                          have K29' : Hid (Calls Try.prog 29 #[.slice a0 ps.length c0, .int .i64 j] wr fun e w' => e = .returned (.int .i64 (kk : Int)) ∧ w' = wr) := by have := K29.out; rw [hidx] at this; exact this
                                          clear hidx K29 HCASE KL
                                          subst hps hts hok hptr hka
                                          have hkt : kk < ts'.length := by have := HLEN.out; omega
                                          have hsk := HTr.out.kept.sk
                                          have hseq : wr.cell? ⟨kb, kk * 19 + 13, none⟩ = some (.int .u8 (ts'.getD kk 0)) := by
                                            rcases hsk with h | ⟨kb', e, _, h⟩
                                            · rw [h] at hkt; simp at hkt
                                            · cases e; rw [h kk 13 hkt (by omega)]; rfl
                                          have hsi := R1.out
                                          rcases hsi with h | ⟨bb, oo, rfl, hbb, hcc⟩
                                          · rw [h] at hkt; simp at hkt
                                          have htag := hcc kk hkt
                                          clear hcc hsk
                                          generalize ts'.getD kk 0 = tg at *
                                          have i1 : (kk : Int) < (ts'.length : Int) := by omega
                                          have i0 : (0 : Int) ≤ (kk : Int) := by omega
                                          have htt : (tg == tg) = true := by simp
                                          go_wp2_with fail
                                          refine K29'.out.mono ?_
                                          rintro e wz ⟨rfl, hwz⟩
                                          cases hwz
                                          go_wp2_with fail
                                          go_quiet (first | (go_at_call 30; exact Calls.quiet_of_same (linkSeq_any kb (kk * 19) tg _ hseq)) | (go_at_call 16; exact Calls.quiet_of (equalInts_eq _ _ _ _ _ _ ps' _ (GP.out.drewN _) (R0.out.drewN _) (by omega) rfl rfl)) | (go_at_call 25; exact Calls.quiet_of (equalBytes_eq _ _ _ _ _ _ ts' _ (GT.out.drewN _) (R1.out.drewN _) (by omega) rfl rfl)))
                                          go_wp2_with fail
                                          go_ret
                                          exact ⟨rfl, below_drewN BW.out _⟩
                                      · as_aux_lemma =>
                                          obtain ⟨hps, hts, hok, hptr, hjn, hnot⟩ := hc
                                          have hidx := idxOf_no hjn
                                          have K29' : Hid (Calls Try.prog 29 #[.slice a0 ps.length c0, .int .i64 j] wr fun e w' => e = .returned (.int .i64 (-1)) ∧ w' = wr) := by have := K29.out; rw [hidx] at this; exact this
                                          have KN : Hid (Calls Try.prog 40 #[.pointer (some ⟨x1.heap.size, 0, none⟩), .int .i64 j] wr fun e w' => e = .returned (.tuple #[.int .i64 0, .bool false]) ∧ w' = wr) := indexNot _ _ _ _ _ _ _ _ _ _ _ _ _ wr HTr.out j (by rw [hps]; exact hjn) WJ.out
                                          have HNOT : Hid (¬ InRuns lo hi j) := hnot
                                          clear hidx K29 HCASE hjn hnot
                                          subst hps hts hok hptr
                                          go_wp2_with fail
                                          refine K29'.out.mono ?_
                                          rintro e wz ⟨rfl, hwz⟩
                                          cases hwz
                                          go_wp2_with fail
                                          refine KL.out.mono ?_
                                          rintro e wz ⟨⟨B, rfl, hB⟩, hwz⟩
                                          cases hwz
                                          cases B with
                                          | true => exact absurd (hB.1 rfl) HNOT.out
                                          | false =>
                                            clear hB
                                            go_wp2_with fail
                                            refine KN.out.mono ?_
                                            rintro e wz ⟨rfl, hwz⟩
                                            cases hwz
                                            go_wp2_with fail
                                            refine (equalInts_eq _ a0 ps'.length ps'.length ps'.length c0 ps' wr GP.out R0.out (by omega) rfl rfl).mono ?_
                                            rintro e wz ⟨rfl, n7, rfl⟩
                                            go_wp2_with fail
                                            refine (equalBytes_eq _ b1 ts'.length ts'.length ts'.length d1 ts' (wr.drewN n7) (GT.out.drewN _) (R1.out.drewN _) (by omega) rfl rfl).mono ?_
                                            rintro e wz ⟨rfl, n8, rfl⟩
                                            go_wp2_with fail
                                            go_ret
                                            exact ⟨rfl, below_drewN BW.out _⟩
                                      · as_aux_lemma =>
                                          obtain ⟨hps, hts, hok, hjn, hin, kb, hka, hptr⟩ := hc
                                          have hidx := idxOf_no hjn
                                          have K29' : Hid (Calls Try.prog 29 #[.slice a0 ps.length c0, .int .i64 j] wr fun e w' => e = .returned (.int .i64 (-1)) ∧ w' = wr) := by have := K29.out; rw [hidx] at this; exact this
                                          have HIN : Hid (InRuns lo hi j) := hin
                                          subst hok hptr hka
                                          have hskl : ∀ q, q < 19 → wr.cell? ⟨kb, ts.length * 19 + q, none⟩ = (linkCells 0)[q]? := by
                                            intro q hq
                                            have hsk := HTr.out.kept.sk
                                            rw [hts] at hsk
                                            rcases hsk with h | ⟨kb', e, _, h⟩
                                            · simp at h
                                            · cases e
                                              rw [h ts.length q (by simp) hq, snoc_last]
                                          have hkbl : kb < wr.heap.size := by
                                            rcases HTr.out.kept with ⟨h, _⟩ | ⟨kb', rest, e, hB, _⟩
                                            · cases h
                                            · cases e; exact hB.lt
                                          have KZ1 : Hid (Calls Try.prog 28 #[.pointer (some ⟨kb, ts.length * 19, none⟩)] wr fun e w' => e = .returned (.bool true) ∧ Below wr.heap.size wr w') := isZero_any kb (ts.length * 19) wr hskl hkbl
                                          have GP' : Hid (SI .i64 wr (some ⟨x4.heap.size, 0, none⟩) (ps ++ [j])) := by have := GP.out; rw [hps] at this; exact this
                                          have GT' : Hid (SI .u8 wr (some ⟨x7.heap.size, 0, none⟩) (ts ++ [0])) := by have := GT.out; rw [hts] at this; exact this
                                          have HPS : Hid (ps' = ps ++ [j]) := hps
                                          have HTS : Hid (ts' = ts ++ [0]) := hts
                                          have hpl : ps'.length = ps.length + 1 := by rw [hps]; simp
                                          have htl : ts'.length = ts.length + 1 := by rw [hts]; simp
                                          have HPL : Hid (ps'.length = ps.length + 1) := hpl
                                          have HTL : Hid (ts'.length = ts.length + 1) := htl
                                          clear hidx K29 HCASE hjn hin hps hts hskl hkbl hpl htl GP GT
                                          have hnn0 : ((ps.length : Int) != (ps.length : Int)) = false := by simp
                                          go_wp2_with fail
                                          refine K29'.out.mono ?_
                                          rintro e wz ⟨rfl, hwz⟩
                                          cases hwz
                                          go_wp2_with fail
                                          refine KL.out.mono ?_
                                          rintro e wz ⟨⟨B, rfl, hB⟩, hwz⟩
                                          cases hwz
                                          cases B with
                                          | false => exact absurd (hB.2 HIN.out) (by simp)
                                          | true =>
                                            clear hB
                                            go_wp2_with fail
                                            refine KZ1.out.mono ?_
                                            rintro e z1 ⟨rfl, hz1⟩
                                            have Z1 : Hid (Below wr.heap.size wr z1) := hz1
                                            clear hz1
                                            go_wp2_with fail
                                            refine (appendInt_any a0 c0 ps j z1 (R0.out.below Z1.out) (by omega)).mono ?_
                                            rintro e z2 ⟨rfl, hz2, hb2, hs2⟩
                                            have Z2 : Hid (Below wr.heap.size wr z2) := Z1.out.trans (hb2.mono Z1.out.size)
                                            have Y2 : Hid (SI .i64 z2 (some ⟨z1.heap.size, 0, none⟩) (ps ++ [j])) := SI.ofBlk' hz2
                                            clear hz2 hb2 hs2
                                            go_wp2_with fail
                                            refine (equalInts_eq _ _ ps'.length (ps.length + 1) ps'.length (ps.length + 1) (ps ++ [j]) z2 (GP'.out.below Z2.out) Y2.out (by simp; omega) (by rw [HPS.out]) (by simp)).mono ?_
                                            rintro e wz ⟨rfl, n7, rfl⟩
                                            go_wp2_with fail
                                            refine (appendByte_any b1 d1 ts 0 (z2.drewN n7) ((R1.out.below Z2.out).drewN _) (by omega)).mono ?_
                                            rintro e z3 ⟨rfl, hz3, hb3, hs3⟩
                                            have Z3 : Hid (Below wr.heap.size wr z3) := (below_drewN Z2.out n7).trans (hb3.mono (by have := Z2.out.size; simpa using this))
                                            have Y3 : Hid (SI .u8 z3 (some ⟨z2.heap.size, 0, none⟩) (ts ++ [0])) := SI.ofBlk' hz3
                                            clear hz3 hb3 hs3
                                            go_wp2_with fail
                                            refine (equalBytes_eq _ _ ts'.length (ts.length + 1) ts'.length (ts.length + 1) (ts ++ [0]) z3 (GT'.out.below Z3.out) Y3.out (by simp; omega) (by rw [HTS.out]) (by simp)).mono ?_
                                            rintro e wz ⟨rfl, n8, rfl⟩
                                            have hTz : TBL (z3.drewN n8) x1.heap.size pa' pc' (some ⟨kb, 0, none⟩) kc' mb ra lo.length ps' ts' lo hi u := (HTr.out.below Z3.out).drewN n8
                                            have hjat : ps'.getD ps.length 0 = j := by rw [HPS.out]; exact snoc_last ps j
                                            have hkl : ps.length < ps'.length := by rw [HPL.out]; omega
                                            have KI : Hid (Calls Try.prog 40 #[.pointer (some ⟨x1.heap.size, 0, none⟩), .int .i64 j] (z3.drewN n8) fun e w' => e = .returned (.tuple #[.int .i64 (ps.length : Nat), .bool true]) ∧ w' = z3.drewN n8) := indexAt _ _ _ _ _ _ _ _ _ _ _ _ _ _ hTz ps.length hkl j hjat.symm WJ.out
                                            have KG : Hid (Calls Try.prog 22 #[.pointer (some ⟨x1.heap.size, 0, none⟩), .int .i64 j] (z3.drewN n8) fun e w' => e = .returned (.tuple #[.pointer (some ⟨kb, ps.length * 19, none⟩), .bool true]) ∧ w' = z3.drewN n8) := getT_kept _ _ _ kb _ _ _ _ _ _ _ _ _ _ hTz HL'.out ps.length hkl j hjat WJ.out
                                            have KP : Hid (Calls Try.prog 23 #[.pointer (some ⟨x1.heap.size, 0, none⟩)] (z3.drewN n8) fun e w' => NewRow (z3.drewN n8) w' e 3 ps'.length (ints .i64 ps')) := peers_any _ _ _ ps' _ hTz.tab.lt (TBL.cells hTz.tab).1 hTz.peers.si (by omega)
                                            have HTZ : Hid (TBL (z3.drewN n8) x1.heap.size pa' pc' (some ⟨kb, 0, none⟩) kc' mb ra lo.length ps' ts' lo hi u) := hTz
                                            clear hTz hjat hkl
                                            go_wp2_with fail
                                            refine KI.out.mono ?_
                                            rintro e wz ⟨rfl, hwz⟩
                                            cases hwz
                                            go_wp2_with fail
                                            refine KG.out.mono ?_
                                            rintro e wz ⟨rfl, hwz⟩
                                            cases hwz
                                            have hll : ps.length = ts.length := HLEN.out
                                            have hpp : ((ps'.length : Int) == (ts.length : Int) + 1) = true := by have := HPL.out; simp; omega
                                            have hpe := ptr_same ⟨kb, ts.length * 19, none⟩
                                            rw [hll]
                                            clear hll
                                            go_wp2_with fail
                                            refine KP.out.mono ?_
                                            rintro e z5 ⟨rfl, hz5, hb5, hs5⟩
                                            have Z5 : Hid (Below wr.heap.size wr z5) := (below_drewN Z3.out n8).trans (hb5.mono (by have := Z3.out.size; simpa using this))
                                            have KL5 : Hid (Calls Try.prog 39 #[.pointer (some ⟨x1.heap.size, 0, none⟩)] z5 fun e w' => e = .returned (.int .i64 ps'.length) ∧ w' = z5) := indexLenT _ _ _ _ _ _ _ _ _ _ _ _ _ _ (HTZ.out.below hb5)
                                            clear hz5 hb5 hs5
                                            go_wp2_with fail
                                            refine KL5.out.mono ?_
                                            rintro e wz ⟨rfl, hwz⟩
                                            cases hwz
                                            go_wp2_with fail
                                            go_ret
                                            exact ⟨rfl, BW.out.trans (Z5.out.mono BW.out.size)⟩
end Go.Proofs.Qxb6600404a
