import Derived.Test.Qxb6600404aGrow
namespace Go.Proofs.Qxb6600404a
open Go.RowKit
set_option linter.unusedVariables false
set_option linter.unusedSimpArgs false

set_option maxRecDepth 100000 in
set_option maxHeartbeats 4000000 in
/-- j is not kept, and up: a zero record is kept for it from now on -/
theorem get_new (tb : Nat) (pa : Option Addr) (ka : Option Addr) (mb : Nat) (ra : Option Addr) (rc : Nat) (ps ts lo hi : List Int) (u : Int) (w : World) (h : TBL w tb pa ps.length ka ts.length mb ra rc ps ts lo hi u) (hlen : ps.length = ts.length) (j : Int) (hj : j ∉ ps) (hw : (Lit.int .i64 j).wf = true) (hc : Canon lo hi) (hl : lo.length ≤ 2000000) (hl2 : ps.length ≤ 1000000) (hup : InRuns lo hi j) :
    Calls Try.prog 51 #[.pointer (some ⟨tb, 0, none⟩), .int .i64 j] w fun e w' => GotNew w w' e tb mb ra rc ps ts lo hi u j (ts.length / 2 + 1) := by
  obtain ⟨c0, c1, c2, c3, c4⟩ := TBL.cells h.tab
  obtain ⟨f, hIM, hIx⟩ := h.idx
  have hlook := hIM.look hw
  rw [hIx.2 j hj] at hlook
  have hlook' : (Instr.lookup 71 (.map (some mb)) (.int .i64 j) true).run Try.prog w = .ok (.tuple #[.int .i64 0, .bool false]) w := hlook
  have K : Hid (Calls Try.prog 60 #[.pointer (some ⟨tb, 0, none⟩)] w fun e w' => e = .returned (.bool true) ∧ w' = w) := sparse_any tb mb w c2
  have K2 : Hid (Calls Try.prog 55 #[.pointer (some ⟨tb, 3, none⟩), .int .i64 j] w fun e w' => RetIff e (InRuns lo hi j) ∧ Below w.heap.size w w') := has_any tb ra rc lo hi j w c3 (h.runs.sr hc.1) hc hl
  have HU : Hid (InRuns lo hi j) := hup
  have HT : Hid (TBL w tb pa ps.length ka ts.length mb ra rc ps ts lo hi u) := h
  have HIM : Hid (IM w mb ps.length f) := hIM
  have HIX : Hid (IsIx ps f) := hIx
  have HJ : Hid (j ∉ ps) := hj
  have HW : Hid ((Lit.int .i64 j).wf = true) := hw
  have HL : Hid (ps.length = ts.length) := hlen
  have hl3 : ts.length ≤ 1000000 := by omega
  clear hlook hIM hIx h hj hw hc hup hlen
  go_enter Try.func51, Try.ntmps51
  go_wp2_with fail
  refine K.out.mono ?_
  rintro e w0 ⟨rfl, rfl⟩
  go_wp2_with fail
  refine K2.out.mono ?_
  rintro e w1 ⟨⟨B, rfl, hB⟩, hbel⟩
  cases B with
  | false => exact absurd (hB.2 HU.out) (by simp)
  | true =>
    have hT1 := HT.out.below hbel
    have d := TBL.cells hT1.tab
    obtain ⟨d0, d1, d2, d3, d4⟩ := d
    have HT1 : Hid (TBL w1 tb pa ps.length ka ts.length mb ra rc ps ts lo hi u) := hT1
    have HIM1 : Hid (IM w1 mb ps.length f) := HIM.out.below hbel HIM.out.lt
    have HB1 : Hid (Below w0.heap.size w0 w1) := hbel
    clear hB hT1 hbel
    have HM : Hid (∃ m, m = ts.length) := ⟨_, rfl⟩
    have q : ((ts.length : Int) == (ts.length : Int)) = true := by simp
    go_wp2_with fail
    rw [show (((ts.length : Nat) : Int) / 2 + 1) = ((ts.length / 2 + 1 : Nat) : Int) from by omega]
    refine (makeRoom_any tb mb pa ka ra lo.length rc u ps ts (ts.length / 2 + 1) w1 HT1.out.tab HT1.out.peers HT1.out.kept (by omega) (by omega) (by omega)).mono ?_
    rintro e w2 ⟨rfl, pb, kb, hpb, hkb, hP, hK, hT, g1, g2, g3, g4, g5⟩
    obtain ⟨f0, f1, f2, f3, f4⟩ := TBL.cells hT
    have hne : mb ≠ tb := HIM1.out.ne_blk HT1.out.tab
    have hIM2 : IM w2 mb ps.length f := HIM1.out.keep (g5 mb HIM1.out.lt hne)
    obtain ⟨w3, hrun, hIM3, hturn⟩ := hIM2.drew.store (by omega) HW.out (wf_nat (k := ps.length) (by omega))
    have hS3 : St w1 tb mb pb kb w3 (tabCells (some ⟨pb, 0, none⟩) ps.length (ps.length + (ts.length / 2 + 1)) (some ⟨kb, 0, none⟩) ts.length (ts.length + (ts.length / 2 + 1)) (some mb) ra lo.length rc u) (ints .i64 ps ++ zr (.int .i64 0) (ts.length / 2 + 1)) (KC ts ++ KZ (ts.length / 2 + 1)) (ps.length + 1) (fun y => if y = j then some (ps.length : Int) else f y) := by
      refine ⟨hT.drew.turned hturn, hP.drew.turned hturn, hK.drew.turned hturn, ?_, ⟨?_, ?_, ?_, ?_, ?_⟩, hpb, hkb⟩
      · rw [HIX.out.2 j HJ.out] at hIM3; exact hIM3
      · exact hturn.grown.os.trans g1
      · exact hturn.grown.tape.trans g2
      · exact hturn.grown.output.trans g3
      · rw [turned_size hturn]; exact g4
      · intro b hb h1 h2; rw [turned_other hturn b h2]; exact g5 b hb h1
    have HS3 : Hid (St w1 tb mb pb kb w3 (tabCells (some ⟨pb, 0, none⟩) ps.length (ps.length + (ts.length / 2 + 1)) (some ⟨kb, 0, none⟩) ts.length (ts.length + (ts.length / 2 + 1)) (some mb) ra lo.length rc u) (ints .i64 ps ++ zr (.int .i64 0) (ts.length / 2 + 1)) (KC ts ++ KZ (ts.length / 2 + 1)) (ps.length + 1) (fun y => if y = j then some (ps.length : Int) else f y)) := hS3
    obtain ⟨k0, k1, k2, k3, k4⟩ := TBL.cells hS3.tab
    clear hIM2 hT hP hK hS3 hIM3 hturn
    go_wp2_with fail
    go_region
    all_goals go_wp2_with fail
    refine wp_region_any (by kernel_rfl) ?_
    change wpAny _ _ _ _ _ _ _ (World.drew _)
    refine wpAny_take (i := 0) (v := ?v0) rfl (by kernel_rfl) (by kernel_rfl) (by kernel_rfl) (fun _ _ _ h => h) (Or.inl ⟨by rfl, ?hy0⟩) ?r0
    case hy0 => (intro wz; go_simp; try with_reducible rfl)
    simp only [Act.put, List.setIfInBounds_toArray, List.set_cons_zero, List.set_cons_succ]
    refine wpAny_take (i := 1) (v := ?v1) rfl (by kernel_rfl) (by kernel_rfl) (by kernel_rfl) (fun _ _ _ h => h) (Or.inl ⟨by rfl, ?hy1⟩) ?r1
    case hy1 => (intro wz; go_simp; try with_reducible rfl)
    simp only [Act.put, List.setIfInBounds_toArray, List.set_cons_zero, List.set_cons_succ]
    refine wpAny_take (i := 2) (v := ?v2) rfl (by kernel_rfl) (by kernel_rfl) (by kernel_rfl) (fun _ _ _ h => h) (Or.inl ⟨by rfl, ?hy2⟩) ?r2
    case hy2 => (intro wz; go_simp; try with_reducible rfl)
    simp only [Act.put, List.setIfInBounds_toArray, List.set_cons_zero, List.set_cons_succ]
    refine wpAny_take (i := 3) (v := ?v3) rfl (by kernel_rfl) (by kernel_rfl) (by kernel_rfl) (fun _ _ _ h => h) (Or.inl ⟨by rfl, ?hy3⟩) ?r3
    case hy3 => (intro wz; go_simp; try with_reducible rfl)
    simp only [Act.put, List.setIfInBounds_toArray, List.set_cons_zero, List.set_cons_succ]
    refine wpAny_take (i := 4) (v := ?v4) rfl (by kernel_rfl) (by kernel_rfl) (by kernel_rfl) (fun _ _ _ h => h) (Or.inl ⟨by rfl, ?hy4⟩) ?r4
    case hy4 => (intro wz; go_simp; try with_reducible rfl)
    simp only [Act.put, List.setIfInBounds_toArray, List.set_cons_zero, List.set_cons_succ]
    refine wpAny_take (i := 6) (v := ?v6) rfl (by kernel_rfl) (by kernel_rfl) (by kernel_rfl) (fun _ _ _ h => h) (Or.inl ⟨by rfl, ?hy6⟩) ?r6
    case hy6 => (intro wz; go_simp; try with_reducible rfl)
    simp only [Act.put, List.setIfInBounds_toArray, List.set_cons_zero, List.set_cons_succ]
    refine wpAny_take (i := 9) (v := ?v9) rfl (by kernel_rfl) (by kernel_rfl) (by kernel_rfl) (fun _ _ _ h => h) (Or.inl ⟨by rfl, ?hy9⟩) ?r9
    case hy9 => (intro wz; go_simp; try with_reducible rfl)
    simp only [Act.put, List.setIfInBounds_toArray, List.set_cons_zero, List.set_cons_succ]
    refine wpAny_take (i := 10) (v := ?v10) rfl (by kernel_rfl) (by kernel_rfl) (by kernel_rfl) (fun _ _ _ h => h) (Or.inl ⟨by rfl, ?hy10⟩) ?r10
    case hy10 => (intro wz; go_simp; try with_reducible rfl)
    simp only [Act.put, List.setIfInBounds_toArray, List.set_cons_zero, List.set_cons_succ]
    refine wpAny_take (i := 11) (v := ?v11) rfl (by kernel_rfl) (by kernel_rfl) (by kernel_rfl) (fun _ _ _ h => h) (Or.inl ⟨by rfl, ?hy11⟩) ?r11
    case hy11 => (intro wz; go_simp; try with_reducible rfl)
    simp only [Act.put, List.setIfInBounds_toArray, List.set_cons_zero, List.set_cons_succ]
    refine wpAny_take (i := 13) (v := ?v13) rfl (by kernel_rfl) (by kernel_rfl) (by kernel_rfl) (fun _ _ _ h => h) (Or.inl ⟨by rfl, ?hy13⟩) ?r13
    case hy13 => (intro wz; go_simp; try with_reducible rfl)
    simp only [Act.put, List.setIfInBounds_toArray, List.set_cons_zero, List.set_cons_succ]
    refine wpAny_of_T (S := fun w' => w'.cell? ⟨tb, 0, none⟩ = some (.slice (some ⟨pb, 0, none⟩) ps.length (ps.length + (ts.length / 2 + 1))) ∧ w'.cell? ⟨tb, 1, none⟩ = some (.slice (some ⟨kb, 0, none⟩) ts.length (ts.length + (ts.length / 2 + 1)))) (T := allUp [0, 1, 2, 3, 4, 5, 6, 7, 8, 9, 10, 11, 12, 13, 14, 15]) _ _ _ _ ?_
    refine wpAnyT_take (i := 5) (v := ?v5) rfl (by kernel_rfl) (by kernel_rfl) (by kernel_rfl) (by kernel_rfl) (fun _ _ _ h => h) (Or.inl ⟨by rfl, ?hy5⟩) (by exact ⟨k0, k1⟩) ?r5
    case hy5 => (intro wz hSw; obtain ⟨s0, s1⟩ := hSw; go_simp; try with_reducible rfl)
    simp only [Act.put, List.setIfInBounds_toArray, List.set_cons_zero, List.set_cons_succ]
    refine wpAnyT_take (i := 12) (v := ?v12) rfl (by kernel_rfl) (by kernel_rfl) (by kernel_rfl) (by kernel_rfl) (fun _ _ _ h => h) (Or.inl ⟨by rfl, ?hy12⟩) (by exact ⟨k0, k1⟩) ?r12
    case hy12 => (intro wz hSw; obtain ⟨s0, s1⟩ := hSw; go_simp; try with_reducible rfl)
    simp only [Act.put, List.setIfInBounds_toArray, List.set_cons_zero, List.set_cons_succ]
    have HSS : Hid (∀ x, Blk x tb 74 (tabCells (some ⟨pb, 0, none⟩) ps.length (ps.length + (ts.length / 2 + 1)) (some ⟨kb, 0, none⟩) ts.length (ts.length + (ts.length / 2 + 1)) (some mb) ra lo.length rc u) → x.cell? ⟨tb, 0, none⟩ = some (.slice (some ⟨pb, 0, none⟩) ps.length (ps.length + (ts.length / 2 + 1))) ∧ x.cell? ⟨tb, 1, none⟩ = some (.slice (some ⟨kb, 0, none⟩) ts.length (ts.length + (ts.length / 2 + 1)))) := fun x hx => ⟨(TBL.cells hx).1, (TBL.cells hx).2.1⟩
    clear c0 c1 c2 c3 c4 hlook' K K2 d0 d1 d2 d3 d4 f0 f1 f2 f3 f4 hrun k0 k1 k2 k3 k4
    refine wpAnyT_all (rs := [7, 14]) (by kernel_rfl) (by simp) ?_
    refine AllT.cons rfl rfl (fun K hK => ?_) (AllT.cons rfl rfl (fun K hK => ?_) AllT.nil)
    · go_simp
      have hs7 := (HS3.out.alloc (.cells #[.int .i64 j] 3)).drew
      have hb7 := (Blk.new w3 3 [.int .i64 j]).drew
      refine hK _ _ (HSS.out _ hs7.tab) ?_
      clear hK K
      generalize (w3.alloc (.cells #[.int .i64 j] 3)).drew = x7 at hs7 hb7 ⊢
      refine wpAnyT_all (rs := [8, 14]) (by kernel_rfl) (by simp) ?_
      refine AllT.cons rfl rfl (fun K hK => ?_) (AllT.cons rfl rfl (fun K hK => ?_) AllT.nil)
      · refine wp_append_run _ _ 22 rfl _ _ rfl rfl _ _ (app_in22 x7 pb ps.length (ps.length + (ts.length / 2 + 1)) w3.heap.size j _ hs7.p hb7 (by omega) (by simp [ints_len, zr_len])) ?_
        go_simp
        have hs8 := hs7.setP ps.length (.int .i64 j)
        rw [peers_snoc] at hs8
        refine hK _ _ (HSS.out _ hs8.tab) ?_
        clear hK K
        generalize x7.setCell ⟨pb, ps.length, none⟩ (.int .i64 j) = x8 at hs8 ⊢
        refine wpAnyT_all (rs := [14]) (by kernel_rfl) (by simp) ?_
        refine AllT.cons rfl rfl (fun K hK => ?_) AllT.nil
        go_simp
        have hs14 := hs8.alloc (.cells (linkCells 0).toArray 83)
        have hb14 := Blk.new x8 83 (linkCells 0)
        refine hK _ _ (HSS.out _ hs14.tab) ?_
        clear hK K
        change wpAnyT _ _ _ _ _ _ _ _ _ (x8.alloc (.cells (linkCells 0).toArray 83))
        generalize x8.alloc (.cells (linkCells 0).toArray 83) = x14 at hs14 hb14 ⊢
        refine wpAnyT_all (rs := [15]) (by kernel_rfl) (by simp) ?_
        refine AllT.cons rfl rfl (fun K hK => ?_) AllT.nil
        refine wp_append_run _ _ 70 rfl _ _ rfl rfl _ _ (app_in70 x14 kb ts.length (ts.length + (ts.length / 2 + 1)) x8.heap.size _ hs14.k hb14 (by omega) (by simp [KC_len, KZ_len]; omega)) ?_
        go_simp
        have hs15 := hs14.setK (ts.length * 19) (linkCells 0) (by simp [KC_len, KZ_len, link_len]; omega)
        rw [kept_snoc] at hs15
        refine hK _ _ (HSS.out _ hs15.tab) ?_
        clear hK K
        generalize x14.setCells kb (ts.length * 19) (linkCells 0) = xe at hs15 ⊢
        have HE : Hid (St w1 tb mb pb kb xe (tabCells (some ⟨pb, 0, none⟩) ps.length (ps.length + (ts.length / 2 + 1)) (some ⟨kb, 0, none⟩) ts.length (ts.length + (ts.length / 2 + 1)) (some mb) ra lo.length rc u) (ints .i64 (ps ++ [j]) ++ zr (.int .i64 0) (ts.length / 2)) (KC (ts ++ [0]) ++ KZ (ts.length / 2)) (ps.length + 1) (fun y => if y = j then some (ps.length : Int) else f y)) := hs15
        obtain ⟨z0, z1, z2, z3, z4⟩ := TBL.cells hs15.tab
        have fz0 := hs15.tab.frozen 0
        have fz1 := hs15.tab.frozen 1
        clear hs15
        refine wpAnyT_tail (allUp_mono _) _ _ _ _ (by unfold allUp; decide +kernel) ?_
        refine wpAny_take (i := 16) (v := ?v1_16) rfl (by kernel_rfl) (by kernel_rfl) (by kernel_rfl) (fun _ _ _ h => h) (Or.inl ⟨by rfl, ?h1_16⟩) ?r1_16
        case h1_16 => (intro wz; go_simp; try with_reducible rfl)
        simp only [Act.put, List.setIfInBounds_toArray, List.set_cons_zero, List.set_cons_succ]
        refine wpAny_take (i := 17) (v := ?v1_17) rfl (by kernel_rfl) (by kernel_rfl) (by kernel_rfl) (fun _ _ _ h => h) (Or.inl ⟨by rfl, ?h1_17⟩) ?r1_17
        case h1_17 => (intro wz; go_simp; try with_reducible rfl)
        simp only [Act.put, List.setIfInBounds_toArray, List.set_cons_zero, List.set_cons_succ]
        refine wpAny_one (i := 18) (by kernel_rfl) rfl rfl (fun K hK => ?_)
        go_simp
        refine hK _ _ ?_
        clear hK K
        refine wpAny_take (i := 19) (v := ?v1_19) rfl (by kernel_rfl) (by kernel_rfl) (by kernel_rfl) (fun _ _ _ h => h) (Or.inl ⟨by rfl, ?h1_19⟩) ?r1_19
        case h1_19 => (intro wz; go_simp; try with_reducible rfl)
        simp only [Act.put, List.setIfInBounds_toArray, List.set_cons_zero, List.set_cons_succ]
        refine wpAny_take (i := 20) (v := ?v1_20) rfl (by kernel_rfl) (by kernel_rfl) (by kernel_rfl) (fun _ _ _ h => h) (Or.inl ⟨by rfl, ?h1_20⟩) ?r1_20
        case h1_20 => (intro wz; go_simp; try with_reducible rfl)
        simp only [Act.put, List.setIfInBounds_toArray, List.set_cons_zero, List.set_cons_succ]
        refine wpAny_one (i := 21) (by kernel_rfl) rfl rfl (fun K hK => ?_)
        go_simp
        refine hK _ _ ?_
        clear hK K
        refine wpAny_done (by kernel_rfl) ?_ _
        have i1 : (0 : Int) ≤ (ts.length : Int) + 1 - 1 := by omega
        have i2 : (ts.length : Int) + 1 - 1 < (ts.length : Int) + 1 := by omega
        go_wp2_with fail
        go_quiet (fail)
        go_wp2_with fail
        go_ret2
        have hfin := ((HE.out.setT 0 (.slice (some ⟨pb, 0, none⟩) (ps.length + 1) (ps.length + (ts.length / 2 + 1)))).setT 1 (.slice (some ⟨kb, 0, none⟩) (ts.length + 1) (ts.length + (ts.length / 2 + 1)))).drewN nq
        exact ⟨pb, kb, rfl, got_done HL.out HJ.out HIX.out HB1.out HT1.out.runs HT1.out.tab HIM1.out hfin rfl⟩
      · go_simp
        have hs14 := hs7.alloc (.cells (linkCells 0).toArray 83)
        have hb14 := Blk.new x7 83 (linkCells 0)
        have hb7' := hb7.alloc (.cells (linkCells 0).toArray 83)
        refine hK _ _ (HSS.out _ hs14.tab) ?_
        clear hK K
        change wpAnyT _ _ _ _ _ _ _ _ _ (x7.alloc (.cells (linkCells 0).toArray 83))
        generalize x7.alloc (.cells (linkCells 0).toArray 83) = x14 at hs14 hb14 hb7' ⊢
        refine wpAnyT_all (rs := [8]) (by kernel_rfl) (by simp) ?_
        refine AllT.cons rfl rfl (fun K hK => ?_) AllT.nil
        refine wp_append_run _ _ 22 rfl _ _ rfl rfl _ _ (app_in22 x14 pb ps.length (ps.length + (ts.length / 2 + 1)) w3.heap.size j _ hs14.p hb7' (by omega) (by simp [ints_len, zr_len])) ?_
        go_simp
        have hs8 := hs14.setP ps.length (.int .i64 j)
        have hb14c : Blk (x14.setCell ⟨pb, ps.length, none⟩ (.int .i64 j)) _ 83 (linkCells 0) := hb14.setOther (Blk.ne (e := 83) (e' := 3) hb14 hs14.p (by decide)) _
        rw [peers_snoc] at hs8
        refine hK _ _ (HSS.out _ hs8.tab) ?_
        clear hK K
        generalize x14.setCell ⟨pb, ps.length, none⟩ (.int .i64 j) = x8 at hs8 hb14c ⊢
        refine wpAnyT_all (rs := [15]) (by kernel_rfl) (by simp) ?_
        refine AllT.cons rfl rfl (fun K hK => ?_) AllT.nil
        refine wp_append_run _ _ 70 rfl _ _ rfl rfl _ _ (app_in70 x8 kb ts.length (ts.length + (ts.length / 2 + 1)) x7.heap.size _ hs8.k hb14c (by omega) (by simp [KC_len, KZ_len]; omega)) ?_
        go_simp
        have hs15 := hs8.setK (ts.length * 19) (linkCells 0) (by simp [KC_len, KZ_len, link_len]; omega)
        rw [kept_snoc] at hs15
        refine hK _ _ (HSS.out _ hs15.tab) ?_
        clear hK K
        generalize x8.setCells kb (ts.length * 19) (linkCells 0) = xe at hs15 ⊢
        have HE : Hid (St w1 tb mb pb kb xe (tabCells (some ⟨pb, 0, none⟩) ps.length (ps.length + (ts.length / 2 + 1)) (some ⟨kb, 0, none⟩) ts.length (ts.length + (ts.length / 2 + 1)) (some mb) ra lo.length rc u) (ints .i64 (ps ++ [j]) ++ zr (.int .i64 0) (ts.length / 2)) (KC (ts ++ [0]) ++ KZ (ts.length / 2)) (ps.length + 1) (fun y => if y = j then some (ps.length : Int) else f y)) := hs15
        obtain ⟨z0, z1, z2, z3, z4⟩ := TBL.cells hs15.tab
        have fz0 := hs15.tab.frozen 0
        have fz1 := hs15.tab.frozen 1
        clear hs15
        refine wpAnyT_tail (allUp_mono _) _ _ _ _ (by unfold allUp; decide +kernel) ?_
        refine wpAny_take (i := 16) (v := ?v2_16) rfl (by kernel_rfl) (by kernel_rfl) (by kernel_rfl) (fun _ _ _ h => h) (Or.inl ⟨by rfl, ?h2_16⟩) ?r2_16
        case h2_16 => (intro wz; go_simp; try with_reducible rfl)
        simp only [Act.put, List.setIfInBounds_toArray, List.set_cons_zero, List.set_cons_succ]
        refine wpAny_take (i := 17) (v := ?v2_17) rfl (by kernel_rfl) (by kernel_rfl) (by kernel_rfl) (fun _ _ _ h => h) (Or.inl ⟨by rfl, ?h2_17⟩) ?r2_17
        case h2_17 => (intro wz; go_simp; try with_reducible rfl)
        simp only [Act.put, List.setIfInBounds_toArray, List.set_cons_zero, List.set_cons_succ]
        refine wpAny_one (i := 18) (by kernel_rfl) rfl rfl (fun K hK => ?_)
        go_simp
        refine hK _ _ ?_
        clear hK K
        refine wpAny_take (i := 19) (v := ?v2_19) rfl (by kernel_rfl) (by kernel_rfl) (by kernel_rfl) (fun _ _ _ h => h) (Or.inl ⟨by rfl, ?h2_19⟩) ?r2_19
        case h2_19 => (intro wz; go_simp; try with_reducible rfl)
        simp only [Act.put, List.setIfInBounds_toArray, List.set_cons_zero, List.set_cons_succ]
        refine wpAny_take (i := 20) (v := ?v2_20) rfl (by kernel_rfl) (by kernel_rfl) (by kernel_rfl) (fun _ _ _ h => h) (Or.inl ⟨by rfl, ?h2_20⟩) ?r2_20
        case h2_20 => (intro wz; go_simp; try with_reducible rfl)
        simp only [Act.put, List.setIfInBounds_toArray, List.set_cons_zero, List.set_cons_succ]
        refine wpAny_one (i := 21) (by kernel_rfl) rfl rfl (fun K hK => ?_)
        go_simp
        refine hK _ _ ?_
        clear hK K
        refine wpAny_done (by kernel_rfl) ?_ _
        have i1 : (0 : Int) ≤ (ts.length : Int) + 1 - 1 := by omega
        have i2 : (ts.length : Int) + 1 - 1 < (ts.length : Int) + 1 := by omega
        go_wp2_with fail
        go_quiet (fail)
        go_wp2_with fail
        go_ret2
        have hfin := ((HE.out.setT 0 (.slice (some ⟨pb, 0, none⟩) (ps.length + 1) (ps.length + (ts.length / 2 + 1)))).setT 1 (.slice (some ⟨kb, 0, none⟩) (ts.length + 1) (ts.length + (ts.length / 2 + 1)))).drewN nq
        exact ⟨pb, kb, rfl, got_done HL.out HJ.out HIX.out HB1.out HT1.out.runs HT1.out.tab HIM1.out hfin rfl⟩
    · go_simp
      have hs14 := (HS3.out.alloc (.cells (linkCells 0).toArray 83)).drew
      have hb14 := (Blk.new w3 83 (linkCells 0)).drew
      refine hK _ _ (HSS.out _ hs14.tab) ?_
      clear hK K
      change wpAnyT _ _ _ _ _ _ _ _ _ (w3.alloc (.cells (linkCells 0).toArray 83)).drew
      generalize (w3.alloc (.cells (linkCells 0).toArray 83)).drew = x14 at hs14 hb14 ⊢
      refine wpAnyT_all (rs := [7]) (by kernel_rfl) (by simp) ?_
      refine AllT.cons rfl rfl (fun K hK => ?_) AllT.nil
      go_simp
      have hs7 := hs14.alloc (.cells #[.int .i64 j] 3)
      have hb7 := Blk.new x14 3 [.int .i64 j]
      refine hK _ _ (HSS.out _ hs7.tab) ?_
      clear hK K
      have hb14' := hb14.alloc (.cells #[.int .i64 j] 3)
      generalize x14.alloc (.cells #[.int .i64 j] 3) = x7 at hs7 hb7 hb14' ⊢
      refine wpAnyT_all (rs := [8]) (by kernel_rfl) (by simp) ?_
      refine AllT.cons rfl rfl (fun K hK => ?_) AllT.nil
      refine wp_append_run _ _ 22 rfl _ _ rfl rfl _ _ (app_in22 x7 pb ps.length (ps.length + (ts.length / 2 + 1)) x14.heap.size j _ hs7.p hb7 (by omega) (by simp [ints_len, zr_len])) ?_
      go_simp
      have hs8 := hs7.setP ps.length (.int .i64 j)
      have hb14c : Blk (x7.setCell ⟨pb, ps.length, none⟩ (.int .i64 j)) _ 83 (linkCells 0) := hb14'.setOther (Blk.ne (e := 83) (e' := 3) hb14' hs7.p (by decide)) _
      rw [peers_snoc] at hs8
      refine hK _ _ (HSS.out _ hs8.tab) ?_
      clear hK K
      generalize x7.setCell ⟨pb, ps.length, none⟩ (.int .i64 j) = x8 at hs8 hb14c ⊢
      refine wpAnyT_all (rs := [15]) (by kernel_rfl) (by simp) ?_
      refine AllT.cons rfl rfl (fun K hK => ?_) AllT.nil
      refine wp_append_run _ _ 70 rfl _ _ rfl rfl _ _ (app_in70 x8 kb ts.length (ts.length + (ts.length / 2 + 1)) w3.heap.size _ hs8.k hb14c (by omega) (by simp [KC_len, KZ_len]; omega)) ?_
      go_simp
      have hs15 := hs8.setK (ts.length * 19) (linkCells 0) (by simp [KC_len, KZ_len, link_len]; omega)
      rw [kept_snoc] at hs15
      refine hK _ _ (HSS.out _ hs15.tab) ?_
      clear hK K
      generalize x8.setCells kb (ts.length * 19) (linkCells 0) = xe at hs15 ⊢
      have HE : Hid (St w1 tb mb pb kb xe (tabCells (some ⟨pb, 0, none⟩) ps.length (ps.length + (ts.length / 2 + 1)) (some ⟨kb, 0, none⟩) ts.length (ts.length + (ts.length / 2 + 1)) (some mb) ra lo.length rc u) (ints .i64 (ps ++ [j]) ++ zr (.int .i64 0) (ts.length / 2)) (KC (ts ++ [0]) ++ KZ (ts.length / 2)) (ps.length + 1) (fun y => if y = j then some (ps.length : Int) else f y)) := hs15
      obtain ⟨z0, z1, z2, z3, z4⟩ := TBL.cells hs15.tab
      have fz0 := hs15.tab.frozen 0
      have fz1 := hs15.tab.frozen 1
      clear hs15
      refine wpAnyT_tail (allUp_mono _) _ _ _ _ (by unfold allUp; decide +kernel) ?_
      refine wpAny_take (i := 16) (v := ?v3_16) rfl (by kernel_rfl) (by kernel_rfl) (by kernel_rfl) (fun _ _ _ h => h) (Or.inl ⟨by rfl, ?h3_16⟩) ?r3_16
      case h3_16 => (intro wz; go_simp; try with_reducible rfl)
      simp only [Act.put, List.setIfInBounds_toArray, List.set_cons_zero, List.set_cons_succ]
      refine wpAny_take (i := 17) (v := ?v3_17) rfl (by kernel_rfl) (by kernel_rfl) (by kernel_rfl) (fun _ _ _ h => h) (Or.inl ⟨by rfl, ?h3_17⟩) ?r3_17
      case h3_17 => (intro wz; go_simp; try with_reducible rfl)
      simp only [Act.put, List.setIfInBounds_toArray, List.set_cons_zero, List.set_cons_succ]
      refine wpAny_one (i := 18) (by kernel_rfl) rfl rfl (fun K hK => ?_)
      go_simp
      refine hK _ _ ?_
      clear hK K
      refine wpAny_take (i := 19) (v := ?v3_19) rfl (by kernel_rfl) (by kernel_rfl) (by kernel_rfl) (fun _ _ _ h => h) (Or.inl ⟨by rfl, ?h3_19⟩) ?r3_19
      case h3_19 => (intro wz; go_simp; try with_reducible rfl)
      simp only [Act.put, List.setIfInBounds_toArray, List.set_cons_zero, List.set_cons_succ]
      refine wpAny_take (i := 20) (v := ?v3_20) rfl (by kernel_rfl) (by kernel_rfl) (by kernel_rfl) (fun _ _ _ h => h) (Or.inl ⟨by rfl, ?h3_20⟩) ?r3_20
      case h3_20 => (intro wz; go_simp; try with_reducible rfl)
      simp only [Act.put, List.setIfInBounds_toArray, List.set_cons_zero, List.set_cons_succ]
      refine wpAny_one (i := 21) (by kernel_rfl) rfl rfl (fun K hK => ?_)
      go_simp
      refine hK _ _ ?_
      clear hK K
      refine wpAny_done (by kernel_rfl) ?_ _
      have i1 : (0 : Int) ≤ (ts.length : Int) + 1 - 1 := by omega
      have i2 : (ts.length : Int) + 1 - 1 < (ts.length : Int) + 1 := by omega
      go_wp2_with fail
      go_quiet (fail)
      go_wp2_with fail
      go_ret2
      have hfin := ((HE.out.setT 0 (.slice (some ⟨pb, 0, none⟩) (ps.length + 1) (ps.length + (ts.length / 2 + 1)))).setT 1 (.slice (some ⟨kb, 0, none⟩) (ts.length + 1) (ts.length + (ts.length / 2 + 1)))).drewN nq
      exact ⟨pb, kb, rfl, got_done HL.out HJ.out HIX.out HB1.out HT1.out.runs HT1.out.tab HIM1.out hfin rfl⟩
end Go.Proofs.Qxb6600404a
