import Derived.Test.Qxb6600404aTk2
namespace Go.Proofs.Qxb6600404a
open Go.RowKit
set_option linter.unusedVariables false
set_option linter.unusedSimpArgs false

theorem exec_load_mid {P : Program} {o : Oper} {ev : Operand → Value} (ty : TypeId) (x : Operand) (ho : o.op = .load ty x) (b off : Nat) (hx : ev x = .pointer (some ⟨b, off, none⟩)) (cs : List Value) (d : TypeDesc) (w : World) (hr : w.rangeAt b off cs)
    (hu : P.underlying ty = some d) (hd : d.isRow = true) (hi : (P.info? ty).map (·.size) = some cs.length) : (execOp ev o).run P w = .ok (.value (.agg cs.toArray)) w := by
  unfold execOp
  simp only [ho, hx, Instr.loadAt, Instr.sureAddr, Sem.run_bind, Sem.run_pure, Result.andThen_ok, run_loadVar_mid w b off ty cs d hr hu hd hi]

theorem wpAny_two {P : Program} {ops : Array Oper} {Q : Exit → Act → World → Prop} {md : Region.Mode} {i j : Nat} {o o' : Oper} {fuel : Nat} {listed : Array Bool} {a : Act} {w : World} (hr : Region.ready md ops listed = [i, j]) (ho : ops[i]? = some o) (hg : o.guard = none) (ho' : ops[j]? = some o') (hg' : o'.guard = none)
    (h : ∀ K : Act → World → Prop, (∀ a' w', wpAny P md ops Q fuel (listed.setIfInBounds i true) a' w' → K a' w') → o.wp P a w K Q)
    (h' : ∀ K : Act → World → Prop, (∀ a' w', wpAny P md ops Q fuel (listed.setIfInBounds j true) a' w' → K a' w') → o'.wp P a w K Q) : wpAny P md ops Q (fuel + 1) listed a w := by
  refine wpAny_all hr (by simp) fun q hq => ?_
  rcases List.mem_cons.1 hq with rfl | hq
  · unfold wpOp
    have hw : Region.wanted o (yielded ops a.tmps) = true := by simp [Region.wanted, hg]
    simp only [ho, hw, if_true]
    exact .inl (h _ fun a' w' h' => h')
  · rw [List.mem_singleton] at hq
    subst hq
    unfold wpOp
    have hw : Region.wanted o' (yielded ops a.tmps) = true := by simp [Region.wanted, hg']
    simp only [ho', hw, if_true]
    exact .inl (h' _ fun a' w' h' => h')

def TookKept (w w' : World) (e : Ending) (B tb : Nat) (pa : Option Addr) (pc : Nat) (ka : Option Addr) (kc mb : Nat) (ps ts lo hi : List Int) (u j : Int) (k : Nat) : Prop :=
  ∃ A r C ra' rc', lo.zip hi = A ++ r :: C ∧ r.1 ≤ j ∧ j < r.2 ∧ e = .returned (.tuple #[.agg (linkCells (ts.getD k 0)).toArray, .bool true]) ∧ Below B w w' ∧
    TBL w' tb pa pc ka kc mb ra' rc' (outOf ps k) (outOf ts k) ((A ++ mid r j ++ C).map Prod.fst) ((A ++ mid r j ++ C).map Prod.snd) (u - 1)

set_option maxRecDepth 100000 in
set_option maxHeartbeats 4000000 in
theorem take_kept (B tb : Nat) (pa : Option Addr) (pc : Nat) (ka : Option Addr) (kc mb : Nat) (ra : Option Addr) (ps ts lo hi : List Int) (u j : Int) (w : World) (h : TBL w tb pa pc ka kc mb ra lo.length ps ts lo hi u) (hlen : ps.length = ts.length) (hc : Canon lo hi) (hl : lo.length ≤ 2000000) (hl2 : ps.length ≤ 1000000) (hu0 : 0 ≤ u) (hu1 : u ≤ 2305843009213693950) (hup : InRuns lo hi j) (k : Nat) (hk : k < ps.length) (hj : ps.getD k 0 = j) (hd : Distinct ps) (hw : ∀ z ∈ ps, (Lit.int .i64 z).wf = true)
    (hB1 : B ≤ tb) (hB2 : From B ra) (hB3 : B ≤ w.heap.size) (hB4 : From B pa) (hB5 : From B ka) (hB6 : B ≤ mb) :
    Calls Try.prog 52 #[.pointer (some ⟨tb, 0, none⟩), .int .i64 j] w fun e w' => TookKept w w' e B tb pa pc ka kc mb ps ts lo hi u j k := by
  have h1 := h.below ((Below.refl w.heap.size w).alloc (Nat.le_refl _) (.cells (linkCells 0).toArray 83))
  obtain ⟨c0, c1, c2, c3, c4⟩ := TBL.cells h1.tab
  have hwj : (Lit.int .i64 j).wf = true := hw j (by rw [← hj]; exact getD_mem hk)
  have K : Hid (Calls Try.prog 60 #[.pointer (some ⟨tb, 0, none⟩)] (w.alloc (.cells (linkCells 0).toArray 83)) fun e w' => e = .returned (.bool true) ∧ w' = (w.alloc (.cells (linkCells 0).toArray 83))) := sparse_any tb mb _ c2
  have K2 : Hid (Calls Try.prog 56 #[.pointer (some ⟨tb, 3, none⟩), .int .i64 j] (w.alloc (.cells (linkCells 0).toArray 83)) fun e w' => RemLeft (w.alloc (.cells (linkCells 0).toArray 83)) w' e tb pa ps.length pc ka ts.length kc (some mb) ra lo hi u j) := remove_any tb pa _ pc ka _ kc (some mb) ra lo hi u j _ h1.tab h1.runs hc hl hu0 hu1
  have HU : Hid (InRuns lo hi j) := hup
  have H1 : Hid (TBL (w.alloc (.cells (linkCells 0).toArray 83)) tb pa pc ka kc mb ra lo.length ps ts lo hi u) := h1
  have HJ : Hid (ps.getD k 0 = j) := hj
  have HBR : Hid (From B ra) := hB2
  have HBP : Hid (From B pa) := hB4
  have HBK : Hid (From B ka) := hB5
  have HKL : Hid (∀ x, ka = some x → x.block < w.heap.size) := h.kept.lt
  have HLEN : Hid (ps.length = ts.length) := hlen
  have HD : Hid (Distinct ps) := hd
  have HW : Hid (∀ z ∈ ps, (Lit.int .i64 z).wf = true) := hw
  clear h h1 hup hj hB2 hB4 hB5 hlen hd hw
  go_enter Try.func52, Try.ntmps52
  go_wp2_with fail
  refine K.out.mono ?_
  rintro e w1 ⟨rfl, rfl⟩
  go_wp2_with fail
  refine K2.out.mono ?_
  rintro e w2 (⟨rfl, hno, hb⟩ | ⟨rb, A, r, C, ra', rc', hra, hsp, hr1, hr2, rfl, hT, hR, hF⟩)
  · exact absurd HU.out hno
  · have hne : lo ≠ [] := by
      intro h'
      rw [h'] at hsp
      simp at hsp
    have hT2 := H1.out.rem hra hne (lo' := (A ++ mid r j ++ C).map Prod.fst) (by rw [List.length_map]; exact hT) hR hF
    have hL : Blk w2 w.heap.size 83 (linkCells 0) := hF.blk (Blk.new w 83 (linkCells 0)) (by
      simp only [List.mem_cons, List.not_mem_nil, or_false, not_or]
      refine ⟨Blk.ne (Blk.new w 83 (linkCells 0)) H1.out.tab (by decide), ?_⟩
      rcases H1.out.runs with ⟨h', _⟩ | ⟨rb', rest, h', hB, _⟩
      · rw [hra] at h'; cases h'
      · rw [hra] at h'; cases h'; exact Blk.ne (Blk.new w 83 (linkCells 0)) hB (by decide))
    have hBel : Below B w w2 := ((Below.refl B w).alloc (by omega) _).trans (hF.below (fun b hb => by
      simp only [List.mem_cons, List.not_mem_nil, or_false] at hb
      rcases hb with rfl | rfl
      · exact hB1
      · exact HBR.out _ hra) (by simp; omega))
    have HL : Hid (Blk w2 w.heap.size 83 (linkCells 0)) := hL
    have HBel : Hid (Below B w w2) := hBel
    have HT2 : Hid (TBL w2 tb pa pc ka kc mb ra' rc' ps ts ((A ++ mid r j ++ C).map Prod.fst) ((A ++ mid r j ++ C).map Prod.snd) (u - 1)) := hT2
    have HSP : Hid (lo.zip hi = A ++ r :: C) := hsp
    have hkt : k < ts.length := by have := HLEN.out; omega
    rcases hT2.peers with ⟨_, h', _⟩ | ⟨pb, prest, hpa, hPB, hprest⟩
    · rw [h'] at hk; simp at hk
    rcases hT2.kept with ⟨_, h', _⟩ | ⟨kb, krest, hka, hKB, hkrest⟩
    · rw [h'] at hkt; simp at hkt
    subst hpa hka
    clear c0 c1 c2 c3 c4
    obtain ⟨c0, c1, c2, c3, c4⟩ := TBL.cells hT2.tab
    obtain ⟨f, hIM, hIx⟩ := hT2.idx
    have hlook := hIM.look hwj
    have hfj := hIx.1 k hk
    rw [HJ.out] at hfj
    rw [hfj] at hlook
    have hlook' : (Instr.lookup 71 (.map (some mb)) (.int .i64 j) true).run Try.prog w2 = .ok (.tuple #[.int .i64 k, .bool true]) w2 := hlook
    have HIM : Hid (IM w2 mb ps.length f) := hIM
    have HIX : Hid (IsIx ps f) := hIx
    have HPB : Hid (Blk w2 pb 3 (ints .i64 ps ++ prest)) := hPB
    have HKB : Hid (Blk w2 kb 83 (KC ts ++ krest)) := hKB
    have HPR : Hid (prest.length + ps.length = pc) := hprest
    have HKR : Hid (krest.length + ts.length * 19 = kc * 19) := hkrest
    clear hlook hIM hIx hT2 hL hBel hsp hT hR hF hra hne hfj hPB hKB hprest hkrest
    go_wp2_with fail
    obtain ⟨t, ht⟩ : ∃ t, t = ts.getD k 0 := ⟨_, rfl⟩
    have HTT : Hid (t = ts.getD k 0) := ht
    have i1 : (k : Int) < (ts.length : Int) := by omega
    have hwl : IntKind.i64.wrap ((ts.length : Int) - 1) = (ts.length : Int) - 1 := by rw [IntKind.wrap_i64]; have := HLEN.out; omega
    have hrg : ∀ y, Blk y kb 83 (KC ts ++ krest) → y.rangeAt kb (k * 19) (linkCells t) := by
      intro y hy
      refine range_of fun q hq => ?_
      rw [hy.cell, List.getElem?_append_left (by rw [KC_len]; omega), KC_at ts k q hkt hq, ht]
    have hS : ∀ y, Blk y tb 74 (tabCells (some ⟨pb, 0, none⟩) ps.length pc (some ⟨kb, 0, none⟩) ts.length kc (some mb) ra' ((A ++ mid r j ++ C).map Prod.fst).length rc' (u - 1)) → Blk y kb 83 (KC ts ++ krest) → y.cell? ⟨tb, 1, none⟩ = some (.slice (some ⟨kb, 0, none⟩) ts.length kc) ∧ y.rangeAt kb (k * 19) (linkCells t) := fun y h1 h2 => ⟨(TBL.cells h1).2.1, hrg y h2⟩
    have HS : Hid (∀ y, Blk y tb 74 (tabCells (some ⟨pb, 0, none⟩) ps.length pc (some ⟨kb, 0, none⟩) ts.length kc (some mb) ra' ((A ++ mid r j ++ C).map Prod.fst).length rc' (u - 1)) → Blk y kb 83 (KC ts ++ krest) → y.cell? ⟨tb, 1, none⟩ = some (.slice (some ⟨kb, 0, none⟩) ts.length kc) ∧ y.rangeAt kb (k * 19) (linkCells t)) := hS
    clear hrg hS ht c0 c1 c2 c3 c4
    refine wp_region_any (by kernel_rfl) ?_
    change wpAny _ _ _ _ _ _ _ (World.drew _)
    refine wpAny_take (i := 0) (v := ?va0) rfl (by kernel_rfl) (by kernel_rfl) (by kernel_rfl) (fun _ _ _ h => h) (Or.inl ⟨by rfl, ?hya0⟩) ?ra0
    case hya0 => (intro wz; go_simp; try with_reducible rfl)
    simp only [Act.put, List.getElem_toArray, List.getElem_cons_zero, List.getElem_cons_succ, List.setIfInBounds_toArray, List.set_cons_zero, List.set_cons_succ]
    refine wpAny_take (i := 1) (v := ?va1) rfl (by kernel_rfl) (by kernel_rfl) (by kernel_rfl) (fun _ _ _ h => h) (Or.inl ⟨by rfl, ?hya1⟩) ?ra1
    case hya1 => (intro wz; go_simp; try with_reducible rfl)
    simp only [Act.put, List.getElem_toArray, List.getElem_cons_zero, List.getElem_cons_succ, List.setIfInBounds_toArray, List.set_cons_zero, List.set_cons_succ]
    refine wpAny_take (i := 2) (v := ?va2) rfl (by kernel_rfl) (by kernel_rfl) (by kernel_rfl) (fun _ _ _ h => h) (Or.inl ⟨by rfl, ?hya2⟩) ?ra2
    case hya2 => (intro wz; go_simp; try with_reducible rfl)
    simp only [Act.put, List.getElem_toArray, List.getElem_cons_zero, List.getElem_cons_succ, List.setIfInBounds_toArray, List.set_cons_zero, List.set_cons_succ]
    refine wpAny_take (i := 4) (v := ?va4) rfl (by kernel_rfl) (by kernel_rfl) (by kernel_rfl) (fun _ _ _ h => h) (Or.inl ⟨by rfl, ?hya4⟩) ?ra4
    case hya4 => (intro wz; go_simp; try with_reducible rfl)
    simp only [Act.put, List.getElem_toArray, List.getElem_cons_zero, List.getElem_cons_succ, List.setIfInBounds_toArray, List.set_cons_zero, List.set_cons_succ]
    refine wpAny_take (i := 7) (v := ?va7) rfl (by kernel_rfl) (by kernel_rfl) (by kernel_rfl) (fun _ _ _ h => h) (Or.inl ⟨by rfl, ?hya7⟩) ?ra7
    case hya7 => (intro wz; go_simp; try with_reducible rfl)
    simp only [Act.put, List.getElem_toArray, List.getElem_cons_zero, List.getElem_cons_succ, List.setIfInBounds_toArray, List.set_cons_zero, List.set_cons_succ]
    refine wpAny_take (i := 8) (v := ?va8) rfl (by kernel_rfl) (by kernel_rfl) (by kernel_rfl) (fun _ _ _ h => h) (Or.inl ⟨by rfl, ?hya8⟩) ?ra8
    case hya8 => (intro wz; go_simp; try with_reducible rfl)
    simp only [Act.put, List.getElem_toArray, List.getElem_cons_zero, List.getElem_cons_succ, List.setIfInBounds_toArray, List.set_cons_zero, List.set_cons_succ]
    refine wpAny_take (i := 9) (v := ?va9) rfl (by kernel_rfl) (by kernel_rfl) (by kernel_rfl) (fun _ _ _ h => h) (Or.inl ⟨by rfl, ?hya9⟩) ?ra9
    case hya9 => (intro wz; go_simp; try with_reducible rfl)
    simp only [Act.put, List.getElem_toArray, List.getElem_cons_zero, List.getElem_cons_succ, List.setIfInBounds_toArray, List.set_cons_zero, List.set_cons_succ]
    refine wpAny_of_T (S := fun w' => w'.cell? ⟨tb, 1, none⟩ = some (.slice (some ⟨kb, 0, none⟩) ts.length kc) ∧ w'.rangeAt kb (k * 19) (linkCells t)) (T := allUp [0, 1, 2, 3, 4, 5, 6, 7, 8, 9, 10, 11, 12, 13, 14]) _ _ _ _ ?_
    refine wpAnyT_take (i := 3) (v := ?vb3) rfl (by kernel_rfl) (by kernel_rfl) (by kernel_rfl) (by kernel_rfl) (fun _ _ _ h => h) (Or.inl ⟨by rfl, ?hyb3⟩) (HS.out _ HT2.out.tab HKB.out) ?rb3
    case hyb3 => (intro wz hSw; obtain ⟨s0, s1⟩ := hSw; go_simp; try with_reducible rfl)
    simp only [Act.put, List.getElem_toArray, List.getElem_cons_zero, List.getElem_cons_succ, List.setIfInBounds_toArray, List.set_cons_zero, List.set_cons_succ]
    refine wpAnyT_take (i := 5) (v := ?vb5) rfl (by kernel_rfl) (by kernel_rfl) (by kernel_rfl) (by kernel_rfl) (fun _ _ _ h => h) (Or.inl ⟨by rfl, ?hyb5⟩) (HS.out _ HT2.out.tab HKB.out) ?rb5
    case hyb5 => (intro wz hSw; obtain ⟨s0, s1⟩ := hSw; go_simp; try with_reducible rfl)
    simp only [Act.put, List.getElem_toArray, List.getElem_cons_zero, List.getElem_cons_succ, List.setIfInBounds_toArray, List.set_cons_zero, List.set_cons_succ]
    refine wpAnyT_take (i := 6) (v := ?vb6) rfl (by kernel_rfl) (by kernel_rfl) (by kernel_rfl) (by kernel_rfl) (fun _ _ _ h => h) (Or.inl ⟨by rfl, ?hyb6⟩) (HS.out _ HT2.out.tab HKB.out) ?rb6
    case hyb6 => (intro wz hSw; refine exec_load_mid 83 (.tmp 82) ?_ kb (k * 19) ?_ (linkCells t) _ wz hSw.2 Try.underlying83 rfl (size83 t) <;> rfl)
    simp only [Act.put, List.getElem_toArray, List.getElem_cons_zero, List.getElem_cons_succ, List.setIfInBounds_toArray, List.set_cons_zero, List.set_cons_succ]
    refine wpAnyT_take (i := 10) (v := ?vb10) rfl (by kernel_rfl) (by kernel_rfl) (by kernel_rfl) (by kernel_rfl) (fun _ _ _ h => h) (Or.inl ⟨by rfl, ?hyb10⟩) (HS.out _ HT2.out.tab HKB.out) ?rb10
    case hyb10 => (intro wz hSw; obtain ⟨s0, s1⟩ := hSw; go_simp; try with_reducible rfl)
    simp only [Act.put, List.getElem_toArray, List.getElem_cons_zero, List.getElem_cons_succ, List.setIfInBounds_toArray, List.set_cons_zero, List.set_cons_succ]
    refine wpAnyT_take (i := 11) (v := ?vb11) rfl (by kernel_rfl) (by kernel_rfl) (by kernel_rfl) (by kernel_rfl) (fun _ _ _ h => h) (Or.inl ⟨by rfl, ?hyb11⟩) (HS.out _ HT2.out.tab HKB.out) ?rb11
    case hyb11 => (intro wz hSw; obtain ⟨s0, s1⟩ := hSw; go_simp; try with_reducible rfl)
    simp only [Act.put, List.getElem_toArray, List.getElem_cons_zero, List.getElem_cons_succ, List.setIfInBounds_toArray, List.set_cons_zero, List.set_cons_succ]
    refine wpAnyT_take (i := 12) (v := ?vb12) rfl (by kernel_rfl) (by kernel_rfl) (by kernel_rfl) (by kernel_rfl) (fun _ _ _ h => h) (Or.inl ⟨by rfl, ?hyb12⟩) (HS.out _ HT2.out.tab HKB.out) ?rb12
    case hyb12 => (intro wz hSw; obtain ⟨s0, s1⟩ := hSw; go_simp; try with_reducible rfl)
    simp only [Act.put, List.getElem_toArray, List.getElem_cons_zero, List.getElem_cons_succ, List.setIfInBounds_toArray, List.set_cons_zero, List.set_cons_succ]
    refine wpAnyT_all (rs := [13]) (by kernel_rfl) (by simp) ?_
    refine AllT.cons rfl rfl (fun K hK => ?_) AllT.nil
    go_simp
    change K _ (w2.alloc (.cells (linkCells 0).toArray 83)).drew
    have hT3 := (HT2.out.tab.alloc (.cells (linkCells 0).toArray 83)).drew
    have hK3 := (HKB.out.alloc (.cells (linkCells 0).toArray 83)).drew
    refine hK _ _ (HS.out _ hT3 hK3) ?_
    clear hK K
    have hM3 := (Blk.new w2 83 (linkCells 0)).drew
    have hkM : kb ≠ w2.heap.size := Nat.ne_of_lt HKB.out.lt
    have hLM : w.heap.size ≠ w2.heap.size := Nat.ne_of_lt HL.out.lt
    have hkL : kb ≠ w.heap.size := Nat.ne_of_lt (HKL.out _ rfl)
    have hS4 : S4 w ((w2.alloc (.cells (linkCells 0).toArray 83)).drew.setCells w2.heap.size 0 (linkCells t)) B tb pb kb mb w.heap.size w2.heap.size (tabCells (some ⟨pb, 0, none⟩) ps.length pc (some ⟨kb, 0, none⟩) ts.length kc (some mb) ra' ((A ++ mid r j ++ C).map Prod.fst).length rc' (u - 1)) (ints .i64 ps ++ prest) (KC ts ++ krest) (linkCells 0) t ra' rc' ((A ++ mid r j ++ C).map Prod.fst) ((A ++ mid r j ++ C).map Prod.snd) ps.length f := by
      refine ⟨hT3.far (hT3.ne hM3 (by decide)), (HPB.out.alloc _).drew.far ((HPB.out.alloc _).drew.ne hM3 (by decide)), hK3.far hkM, (HL.out.alloc _).drew.far hLM, link_over t hM3, HT2.out.runs.keep fun b cs hb => (hb.alloc _).drew.far ((hb.alloc _).drew.ne hM3 (by decide)), ?_, ?_, hkL, hkM, hLM, hB1, HBP.out _ rfl, HBK.out _ rfl, hB6, hB3⟩
      · have h1 : IM (w2.alloc (.cells (linkCells 0).toArray 83)).drew mb ps.length f := (HIM.out.alloc _).drew
        exact h1.keep (setCells_other (h1.ne_blk hM3))
      · have hz := HBel.out.size
        exact below_setCells (HBel.out.alloc (by omega) _).drew (by omega)
    have HS4 : Hid (S4 w ((w2.alloc (.cells (linkCells 0).toArray 83)).drew.setCells w2.heap.size 0 (linkCells t)) B tb pb kb mb w.heap.size w2.heap.size (tabCells (some ⟨pb, 0, none⟩) ps.length pc (some ⟨kb, 0, none⟩) ts.length kc (some mb) ra' ((A ++ mid r j ++ C).map Prod.fst).length rc' (u - 1)) (ints .i64 ps ++ prest) (KC ts ++ krest) (linkCells 0) t ra' rc' ((A ++ mid r j ++ C).map Prod.fst) ((A ++ mid r j ++ C).map Prod.snd) ps.length f) := hS4
    clear hS4 hT3 hK3
    refine wpAnyT_all (rs := [14]) (by kernel_rfl) (by simp) ?_
    refine AllT.cons rfl rfl (fun K hK => ?_) AllT.nil
    refine wp_store_mid 83 (.tmp 11) (.tmp 83) rfl w2.heap.size 0 (linkCells t).toArray rfl rfl (hM3.there 0 19 (by rw [link_len]; omega)) (size83a t) (all_oneCell_toArray (link_one t)) ?_
    clear hM3
    refine hK _ _ (HS.out _ HS4.out.tab HS4.out.k) ?_
    clear hK K
    simp only [Act.put]
    generalize (w2.alloc (.cells (linkCells 0).toArray 83)).drew.setCells w2.heap.size 0 (linkCells t) = x3 at *
    change wpAnyT _ _ _ _ _ _ _ _ _ x3
    refine wpAnyT_tail (allUp_mono _) _ _ _ _ (by unfold allUp; decide +kernel) ?_
    refine wpAny_one (i := 15) (by kernel_rfl) rfl rfl (fun K hK => ?_)
    go_simp
    refine hK _ _ ?_
    clear hK K
    refine wpAny_done (by kernel_rfl) ?_ _
    generalize w2.heap.size = M at *
    generalize w.heap.size = L at *
    obtain ⟨c0, c1, c2, c3, c4⟩ := TBL.cells HS4.out.tab
    have hfj : f j = some (k : Int) := by have := HIX.out.1 k hk; rw [HJ.out] at this; exact this
    obtain ⟨x4, hdel, hIM4, hturn⟩ := HS4.out.idx.drop hwj 0
    rw [hfj] at hIM4
    have HDEL : Hid (∀ ty, (Builtin.delete_ #[71, 3] ty #[.map (some mb), .int .i64 j]).run Try.prog x3 = .ok (.tuple #[]) x4) := fun ty => hdel
    have hS5 := HS4.out.turn hIM4 hturn
    have HS5 : Hid (S4 w x4 B tb pb kb mb L M (tabCells (some ⟨pb, 0, none⟩) ps.length pc (some ⟨kb, 0, none⟩) ts.length kc (some mb) ra' ((A ++ mid r j ++ C).map Prod.fst).length rc' (u - 1)) (ints .i64 ps ++ prest) (KC ts ++ krest) (linkCells 0) t ra' rc' ((A ++ mid r j ++ C).map Prod.fst) ((A ++ mid r j ++ C).map Prod.snd) (ps.length - 1) (fun y => if y = j then none else f y)) := hS5
    obtain ⟨nl, hnl⟩ : ∃ nl : Nat, nl = ts.length - 1 := ⟨_, rfl⟩
    have hnl' : (ts.length : Int) - 1 = (nl : Int) := by omega
    have hnp : nl = ps.length - 1 := by have := HLEN.out; omega
    have hsl22 := slice22_h pb ps.length pc nl (by have := HPR.out; omega)
    have hsl70 := slice70_h kb ts.length kc nl (by have := HKR.out; omega)
    rw [hnl']
    have HNL : Hid (nl = ts.length - 1) := hnl
    have HNP : Hid (nl = ps.length - 1) := hnp
    clear hnl hnl' hnp
    clear hdel hIM4 hturn hS5 HS hfj hwl K HL HBel
    by_cases hkl : k = nl
    · have hq : ((k : Int) != (nl : Int)) = false := by simp [hkl]
      have HKL2 : Hid (k = nl) := hkl
      clear hkl
      go_wp2_with (refine wpList_delete_run rfl _ _ 71 3 rfl _ _ rfl rfl _ _ HDEL.out ?_)
      obtain ⟨y, hy⟩ : ∃ y, y = x4 := ⟨_, rfl⟩
      rw [← hy]
      have hP1 : ps.set k (ps.getD (ps.length - 1) 0) = ps := by rw [HKL2.out, HNP.out]; exact set_last ps (by omega)
      have hQ1 : ts.set k (ts.getD (ts.length - 1) 0) = ts := by rw [HKL2.out, HNL.out]; exact set_last ts (by omega)
      have HY : Hid (S4 w y B tb pb kb mb L M (tabCells (some ⟨pb, 0, none⟩) ps.length pc (some ⟨kb, 0, none⟩) ts.length kc (some mb) ra' ((A ++ mid r j ++ C).map Prod.fst).length rc' (u - 1)) (ints .i64 (ps.set k (ps.getD (ps.length - 1) 0)) ++ prest) (KC (ts.set k (ts.getD (ts.length - 1) 0)) ++ krest) (linkCells 0) t ra' rc' ((A ++ mid r j ++ C).map Prod.fst) ((A ++ mid r j ++ C).map Prod.snd) (ps.length - 1) (fun y => if y = j then none else f y)) := by rw [hP1, hQ1, hy]; exact HS5.out
      have HIX' : Hid (IsIx (outOf ps k) (fun y => if y = j then none else f y)) := isIx_last HD.out hk (HKL2.out.trans HNP.out) HJ.out HIX.out
      clear hP1 hQ1 hy HS5 HDEL HS4 c0 c1 c2 c3 c4
      obtain ⟨c0, c1, c2, c3, c4⟩ := TBL.cells HY.out.tab
      have f0 := HY.out.tab.frozen 0
      have f1 := HY.out.tab.frozen 1
      refine wp_region_any (by kernel_rfl) ?_
      change wpAny _ _ _ _ _ _ _ (World.drew _)
      refine wpAny_take (i := 0) (v := ?vla0) rfl (by kernel_rfl) (by kernel_rfl) (by kernel_rfl) (fun _ _ _ h => h) (Or.inl ⟨by rfl, ?hyla0⟩) ?rla0
      case hyla0 => (intro wz; go_simp; try with_reducible rfl)
      simp only [Act.put, List.getElem_toArray, List.getElem_cons_zero, List.getElem_cons_succ, List.setIfInBounds_toArray, List.set_cons_zero, List.set_cons_succ]
      refine wpAny_take (i := 1) (v := ?vla1) rfl (by kernel_rfl) (by kernel_rfl) (by kernel_rfl) (fun _ _ _ h => h) (Or.inl ⟨by rfl, ?hyla1⟩) ?rla1
      case hyla1 => (intro wz; go_simp; try with_reducible rfl)
      simp only [Act.put, List.getElem_toArray, List.getElem_cons_zero, List.getElem_cons_succ, List.setIfInBounds_toArray, List.set_cons_zero, List.set_cons_succ]
      refine wpAny_take (i := 2) (v := ?vla2) rfl (by kernel_rfl) (by kernel_rfl) (by kernel_rfl) (fun _ _ _ h => h) (Or.inl ⟨by rfl, ?hyla2⟩) ?rla2
      case hyla2 => (intro wz; go_simp; try with_reducible rfl)
      simp only [Act.put, List.getElem_toArray, List.getElem_cons_zero, List.getElem_cons_succ, List.setIfInBounds_toArray, List.set_cons_zero, List.set_cons_succ]
      refine wpAny_take (i := 3) (v := ?vla3) rfl (by kernel_rfl) (by kernel_rfl) (by kernel_rfl) (fun _ _ _ h => h) (Or.inl ⟨by rfl, ?hyla3⟩) ?rla3
      case hyla3 => (intro wz; go_simp; try with_reducible rfl)
      simp only [Act.put, List.getElem_toArray, List.getElem_cons_zero, List.getElem_cons_succ, List.setIfInBounds_toArray, List.set_cons_zero, List.set_cons_succ]
      refine wpAny_take (i := 4) (v := ?vla4) rfl (by kernel_rfl) (by kernel_rfl) (by kernel_rfl) (fun _ _ _ h => h) (Or.inl ⟨by rfl, ?hyla4⟩) ?rla4
      case hyla4 => (intro wz; go_simp; try with_reducible rfl)
      simp only [Act.put, List.getElem_toArray, List.getElem_cons_zero, List.getElem_cons_succ, List.setIfInBounds_toArray, List.set_cons_zero, List.set_cons_succ]
      refine wpAny_take (i := 6) (v := ?vla6) rfl (by kernel_rfl) (by kernel_rfl) (by kernel_rfl) (fun _ _ _ h => h) (Or.inl ⟨by rfl, ?hyla6⟩) ?rla6
      case hyla6 => (intro wz; go_simp; try with_reducible rfl)
      simp only [Act.put, List.getElem_toArray, List.getElem_cons_zero, List.getElem_cons_succ, List.setIfInBounds_toArray, List.set_cons_zero, List.set_cons_succ]
      refine wpAny_take (i := 8) (v := ?vla8) rfl (by kernel_rfl) (by kernel_rfl) (by kernel_rfl) (fun _ _ _ h => h) (Or.inl ⟨by rfl, ?hyla8⟩) ?rla8
      case hyla8 => (intro wz; go_simp; try with_reducible rfl)
      simp only [Act.put, List.getElem_toArray, List.getElem_cons_zero, List.getElem_cons_succ, List.setIfInBounds_toArray, List.set_cons_zero, List.set_cons_succ]
      refine wpAny_take (i := 9) (v := ?vla9) rfl (by kernel_rfl) (by kernel_rfl) (by kernel_rfl) (fun _ _ _ h => h) (Or.inl ⟨by rfl, ?hyla9⟩) ?rla9
      case hyla9 => (intro wz; go_simp; try with_reducible rfl)
      simp only [Act.put, List.getElem_toArray, List.getElem_cons_zero, List.getElem_cons_succ, List.setIfInBounds_toArray, List.set_cons_zero, List.set_cons_succ]
      refine wpAny_take (i := 10) (v := ?vla10) rfl (by kernel_rfl) (by kernel_rfl) (by kernel_rfl) (fun _ _ _ h => h) (Or.inl ⟨by rfl, ?hyla10⟩) ?rla10
      case hyla10 => (intro wz; go_simp; try with_reducible rfl)
      simp only [Act.put, List.getElem_toArray, List.getElem_cons_zero, List.getElem_cons_succ, List.setIfInBounds_toArray, List.set_cons_zero, List.set_cons_succ]
      refine wpAny_take (i := 12) (v := ?vla12) rfl (by kernel_rfl) (by kernel_rfl) (by kernel_rfl) (fun _ _ _ h => h) (Or.inl ⟨by rfl, ?hyla12⟩) ?rla12
      case hyla12 => (intro wz; go_simp; try with_reducible rfl)
      simp only [Act.put, List.getElem_toArray, List.getElem_cons_zero, List.getElem_cons_succ, List.setIfInBounds_toArray, List.set_cons_zero, List.set_cons_succ]
      refine wpAny_two (i := 5) (j := 11) (by kernel_rfl) rfl rfl rfl rfl (fun K hK => ?_) (fun K hK => ?_)
      · go_simp
        refine hK _ _ ?_
        clear hK K
        refine wpAny_take (i := 7) (v := ?vlx7) rfl (by kernel_rfl) (by kernel_rfl) (by kernel_rfl) (fun _ _ _ h => h) (Or.inl ⟨by rfl, ?hylx7⟩) ?rlx7
        case hylx7 => (intro wz; go_simp; try with_reducible rfl)
        simp only [Act.put, List.getElem_toArray, List.getElem_cons_zero, List.getElem_cons_succ, List.setIfInBounds_toArray, List.set_cons_zero, List.set_cons_succ]
        refine wpAny_one (i := 11) (by kernel_rfl) rfl rfl (fun K hK => ?_)
        go_simp
        refine hK _ _ ?_
        clear hK K
        refine wpAny_take (i := 13) (v := ?vlx13) rfl (by kernel_rfl) (by kernel_rfl) (by kernel_rfl) (fun _ _ _ h => h) (Or.inl ⟨by rfl, ?hylx13⟩) ?rlx13
        case hylx13 => (intro wz; go_simp; try with_reducible rfl)
        simp only [Act.put, List.getElem_toArray, List.getElem_cons_zero, List.getElem_cons_succ, List.setIfInBounds_toArray, List.set_cons_zero, List.set_cons_succ]
        refine wpAny_take (i := 14) (v := ?vlx14) rfl (by kernel_rfl) (by kernel_rfl) (by kernel_rfl) (fun _ _ _ h => h) (Or.inl ⟨by rfl, ?hylx14⟩) ?rlx14
        case hylx14 => (intro wz; go_simp; try with_reducible rfl)
        simp only [Act.put, List.getElem_toArray, List.getElem_cons_zero, List.getElem_cons_succ, List.setIfInBounds_toArray, List.set_cons_zero, List.set_cons_succ]
        refine wpAny_take (i := 15) (v := ?vlx15) rfl (by kernel_rfl) (by kernel_rfl) (by kernel_rfl) (fun _ _ _ h => h) (Or.inl ⟨by rfl, ?hylx15⟩) ?rlx15
        case hylx15 => (intro wz; go_simp; try with_reducible rfl)
        simp only [Act.put, List.getElem_toArray, List.getElem_cons_zero, List.getElem_cons_succ, List.setIfInBounds_toArray, List.set_cons_zero, List.set_cons_succ]
        refine wpAny_one (i := 16) (by kernel_rfl) rfl rfl (fun K hK => ?_)
        go_simp
        refine hK _ _ ?_
        clear hK K
        refine wpAny_take (i := 17) (v := ?vlx17) rfl (by kernel_rfl) (by kernel_rfl) (by kernel_rfl) (fun _ _ _ h => h) (Or.inl ⟨by rfl, ?hylx17⟩) ?rlx17
        case hylx17 => (intro wz; go_simp; try with_reducible rfl)
        simp only [Act.put, List.getElem_toArray, List.getElem_cons_zero, List.getElem_cons_succ, List.setIfInBounds_toArray, List.set_cons_zero, List.set_cons_succ]
        refine wpAny_take (i := 18) (v := ?vlx18) rfl (by kernel_rfl) (by kernel_rfl) (by kernel_rfl) (fun _ _ _ h => h) (Or.inl ⟨by rfl, ?hylx18⟩) ?rlx18
        case hylx18 => (intro wz; go_simp; try with_reducible rfl)
        simp only [Act.put, List.getElem_toArray, List.getElem_cons_zero, List.getElem_cons_succ, List.setIfInBounds_toArray, List.set_cons_zero, List.set_cons_succ]
        refine wpAny_one (i := 19) (by kernel_rfl) rfl rfl (fun K hK => ?_)
        go_simp
        refine hK _ _ ?_
        clear hK K
        refine wpAny_done (by kernel_rfl) ?_ _
        have hE := (HY.out.drew.setT 0 (.slice (some ⟨pb, 0, none⟩) nl pc)).setT 1 (.slice (some ⟨kb, 0, none⟩) nl kc)
        have HE : Hid (S4 w ((y.drew.setCell ⟨tb, 0, none⟩ (.slice (some ⟨pb, 0, none⟩) nl pc)).setCell ⟨tb, 1, none⟩ (.slice (some ⟨kb, 0, none⟩) nl kc)) B tb pb kb mb L M (tabCells (some ⟨pb, 0, none⟩) nl pc (some ⟨kb, 0, none⟩) nl kc (some mb) ra' ((A ++ mid r j ++ C).map Prod.fst).length rc' (u - 1)) (ints .i64 (ps.set k (ps.getD (ps.length - 1) 0)) ++ prest) (KC (ts.set k (ts.getD (ts.length - 1) 0)) ++ krest) (linkCells 0) t ra' rc' ((A ++ mid r j ++ C).map Prod.fst) ((A ++ mid r j ++ C).map Prod.snd) (ps.length - 1) (fun y => if y = j then none else f y)) := hE
        clear hE c0 c1 c2 c3 c4 f0 f1
        change Exit.then _ _ Exit.normal _ ((y.drew.setCell ⟨tb, 0, none⟩ (.slice (some ⟨pb, 0, none⟩) nl pc)).setCell ⟨tb, 1, none⟩ (.slice (some ⟨kb, 0, none⟩) nl kc))
        generalize (y.drew.setCell ⟨tb, 0, none⟩ (.slice (some ⟨pb, 0, none⟩) nl pc)).setCell ⟨tb, 1, none⟩ (.slice (some ⟨kb, 0, none⟩) nl kc) = z at *
        have hML : z.rangeAt M 0 (linkCells t) := fun q v hv => by rw [HE.out.m.cell, Nat.zero_add]; exact hv
        go_wp2_with (first | (refine wpList_load_mid rfl 83 _ rfl M 0 rfl (linkCells t) _ hML Try.underlying83 rfl (size83 t) ?_) | (refine wpList_store_mid rfl 83 _ _ rfl L 0 (linkCells t).toArray rfl rfl ?_ (size83a t) (all_oneCell_toArray (link_one t)) ?_))
        · exact HE.out.l.there 0 19 (by rw [link_len]; omega)
        · refine bodyPost_ret (v := .tuple #[.agg (linkCells t).toArray, .bool true]) (res52 _ _ L t true rfl rfl (link_over t HE.out.l)) rfl ?_
          refine ⟨A, r, C, ra', rc', HSP.out, hr1, hr2, by rw [← HTT.out], below_setCells HE.out.bel HE.out.b5, ?_⟩
          exact (take_done rfl HNP.out HNL.out (by omega) (by omega) HE.out HPR.out HKR.out HIX'.out).far HE.out.l (fun x hx => by cases hx; exact HE.out.kL)
      · go_simp
        refine hK _ _ ?_
        clear hK K
        refine wpAny_take (i := 13) (v := ?vly13) rfl (by kernel_rfl) (by kernel_rfl) (by kernel_rfl) (fun _ _ _ h => h) (Or.inl ⟨by rfl, ?hyly13⟩) ?rly13
        case hyly13 => (intro wz; go_simp; try with_reducible rfl)
        simp only [Act.put, List.getElem_toArray, List.getElem_cons_zero, List.getElem_cons_succ, List.setIfInBounds_toArray, List.set_cons_zero, List.set_cons_succ]
        refine wpAny_one (i := 5) (by kernel_rfl) rfl rfl (fun K hK => ?_)
        go_simp
        refine hK _ _ ?_
        clear hK K
        refine wpAny_take (i := 7) (v := ?vly7) rfl (by kernel_rfl) (by kernel_rfl) (by kernel_rfl) (fun _ _ _ h => h) (Or.inl ⟨by rfl, ?hyly7⟩) ?rly7
        case hyly7 => (intro wz; go_simp; try with_reducible rfl)
        simp only [Act.put, List.getElem_toArray, List.getElem_cons_zero, List.getElem_cons_succ, List.setIfInBounds_toArray, List.set_cons_zero, List.set_cons_succ]
        refine wpAny_take (i := 14) (v := ?vly14) rfl (by kernel_rfl) (by kernel_rfl) (by kernel_rfl) (fun _ _ _ h => h) (Or.inl ⟨by rfl, ?hyly14⟩) ?rly14
        case hyly14 => (intro wz; go_simp; try with_reducible rfl)
        simp only [Act.put, List.getElem_toArray, List.getElem_cons_zero, List.getElem_cons_succ, List.setIfInBounds_toArray, List.set_cons_zero, List.set_cons_succ]
        refine wpAny_take (i := 15) (v := ?vly15) rfl (by kernel_rfl) (by kernel_rfl) (by kernel_rfl) (fun _ _ _ h => h) (Or.inl ⟨by rfl, ?hyly15⟩) ?rly15
        case hyly15 => (intro wz; go_simp; try with_reducible rfl)
        simp only [Act.put, List.getElem_toArray, List.getElem_cons_zero, List.getElem_cons_succ, List.setIfInBounds_toArray, List.set_cons_zero, List.set_cons_succ]
        refine wpAny_one (i := 16) (by kernel_rfl) rfl rfl (fun K hK => ?_)
        go_simp
        refine hK _ _ ?_
        clear hK K
        refine wpAny_take (i := 17) (v := ?vly17) rfl (by kernel_rfl) (by kernel_rfl) (by kernel_rfl) (fun _ _ _ h => h) (Or.inl ⟨by rfl, ?hyly17⟩) ?rly17
        case hyly17 => (intro wz; go_simp; try with_reducible rfl)
        simp only [Act.put, List.getElem_toArray, List.getElem_cons_zero, List.getElem_cons_succ, List.setIfInBounds_toArray, List.set_cons_zero, List.set_cons_succ]
        refine wpAny_take (i := 18) (v := ?vly18) rfl (by kernel_rfl) (by kernel_rfl) (by kernel_rfl) (fun _ _ _ h => h) (Or.inl ⟨by rfl, ?hyly18⟩) ?rly18
        case hyly18 => (intro wz; go_simp; try with_reducible rfl)
        simp only [Act.put, List.getElem_toArray, List.getElem_cons_zero, List.getElem_cons_succ, List.setIfInBounds_toArray, List.set_cons_zero, List.set_cons_succ]
        refine wpAny_one (i := 19) (by kernel_rfl) rfl rfl (fun K hK => ?_)
        go_simp
        refine hK _ _ ?_
        clear hK K
        refine wpAny_done (by kernel_rfl) ?_ _
        have hE := (HY.out.drew.setT 0 (.slice (some ⟨pb, 0, none⟩) nl pc)).setT 1 (.slice (some ⟨kb, 0, none⟩) nl kc)
        have HE : Hid (S4 w ((y.drew.setCell ⟨tb, 0, none⟩ (.slice (some ⟨pb, 0, none⟩) nl pc)).setCell ⟨tb, 1, none⟩ (.slice (some ⟨kb, 0, none⟩) nl kc)) B tb pb kb mb L M (tabCells (some ⟨pb, 0, none⟩) nl pc (some ⟨kb, 0, none⟩) nl kc (some mb) ra' ((A ++ mid r j ++ C).map Prod.fst).length rc' (u - 1)) (ints .i64 (ps.set k (ps.getD (ps.length - 1) 0)) ++ prest) (KC (ts.set k (ts.getD (ts.length - 1) 0)) ++ krest) (linkCells 0) t ra' rc' ((A ++ mid r j ++ C).map Prod.fst) ((A ++ mid r j ++ C).map Prod.snd) (ps.length - 1) (fun y => if y = j then none else f y)) := hE
        clear hE c0 c1 c2 c3 c4 f0 f1
        change Exit.then _ _ Exit.normal _ ((y.drew.setCell ⟨tb, 0, none⟩ (.slice (some ⟨pb, 0, none⟩) nl pc)).setCell ⟨tb, 1, none⟩ (.slice (some ⟨kb, 0, none⟩) nl kc))
        generalize (y.drew.setCell ⟨tb, 0, none⟩ (.slice (some ⟨pb, 0, none⟩) nl pc)).setCell ⟨tb, 1, none⟩ (.slice (some ⟨kb, 0, none⟩) nl kc) = z at *
        have hML : z.rangeAt M 0 (linkCells t) := fun q v hv => by rw [HE.out.m.cell, Nat.zero_add]; exact hv
        go_wp2_with (first | (refine wpList_load_mid rfl 83 _ rfl M 0 rfl (linkCells t) _ hML Try.underlying83 rfl (size83 t) ?_) | (refine wpList_store_mid rfl 83 _ _ rfl L 0 (linkCells t).toArray rfl rfl ?_ (size83a t) (all_oneCell_toArray (link_one t)) ?_))
        · exact HE.out.l.there 0 19 (by rw [link_len]; omega)
        · refine bodyPost_ret (v := .tuple #[.agg (linkCells t).toArray, .bool true]) (res52 _ _ L t true rfl rfl (link_over t HE.out.l)) rfl ?_
          refine ⟨A, r, C, ra', rc', HSP.out, hr1, hr2, by rw [← HTT.out], below_setCells HE.out.bel HE.out.b5, ?_⟩
          exact (take_done rfl HNP.out HNL.out (by omega) (by omega) HE.out HPR.out HKR.out HIX'.out).far HE.out.l (fun x hx => by cases hx; exact HE.out.kL)

    · have hq : ((k : Int) != (nl : Int)) = true := by simp; omega
      have hkn : k < nl := by have := HNP.out; omega
      clear hkl
      go_wp2_with (refine wpList_delete_run rfl _ _ 71 3 rfl _ _ rfl rfl _ _ HDEL.out ?_)
      clear c0 c1 c2 c3 c4
      obtain ⟨c0, c1, c2, c3, c4⟩ := TBL.cells HS5.out.tab
      obtain ⟨lv, hlv⟩ : ∃ lv, lv = ps.getD (ps.length - 1) 0 := ⟨_, rfl⟩
      obtain ⟨lt, hlt⟩ : ∃ lt, lt = ts.getD (ts.length - 1) 0 := ⟨_, rfl⟩
      have hPat : ∀ q, q < ps.length → x4.cell? ⟨pb, q, none⟩ = some (.int .i64 (ps.getD q 0)) := by
        intro q hq'
        rw [HS5.out.p.cell, List.getElem?_append_left (by rw [ints_len]; omega)]
        simp only [ints, List.getElem?_map, List.getD_eq_getElem?_getD]
        rw [List.getElem?_eq_getElem (by omega)]; rfl
      have cp : x4.cell? ⟨pb, nl, none⟩ = some (.int .i64 lv) := by rw [hlv, ← HNP.out]; exact hPat nl (by have := HNP.out; omega)
      have cpk : x4.cell? ⟨pb, k, none⟩ = some (.int .i64 j) := by rw [← HJ.out]; exact hPat k hk
      have fpk := HS5.out.p.frozen k
      have HRG : Hid (x4.drew.rangeAt kb (nl * 19) (linkCells lt)) := by
        refine range_of fun q hq' => ?_
        rw [HS5.out.k.drew.cell, List.getElem?_append_left (by rw [KC_len]; have := HNL.out; omega), KC_at ts nl q (by have := HNL.out; omega) hq', hlt, ← HNL.out]
      have i2 : (nl : Int) < (ps.length : Int) := by have := HNP.out; omega
      have i3 : (nl : Int) < (ts.length : Int) := by have := HNL.out; omega
      have i4 : (k : Int) < (ps.length : Int) := by omega
      have hS6 := (HS5.out.drew.setP k (.int .i64 lv)).setK (k * 19) (linkCells lt) (by rw [List.length_append, KC_len, link_len]; omega)
      rw [ints_set ps prest k lv hk, KC_over ts krest k lt hkt, hlv, hlt] at hS6
      rw [← hlv, ← hlt] at hS6
      have HTH : Hid ((x4.drew.setCell ⟨pb, k, none⟩ (.int .i64 lv)).there kb (k * 19) 19) := (HS5.out.drew.setP k (.int .i64 lv)).k.there (k * 19) 19 (by rw [List.length_append, KC_len]; omega)
      have HS6 : Hid (S4 w ((x4.drew.setCell ⟨pb, k, none⟩ (.int .i64 lv)).setCells kb (k * 19) (linkCells lt)) B tb pb kb mb L M (tabCells (some ⟨pb, 0, none⟩) ps.length pc (some ⟨kb, 0, none⟩) ts.length kc (some mb) ra' ((A ++ mid r j ++ C).map Prod.fst).length rc' (u - 1)) (ints .i64 (ps.set k lv) ++ prest) (KC (ts.set k lt) ++ krest) (linkCells 0) t ra' rc' ((A ++ mid r j ++ C).map Prod.fst) ((A ++ mid r j ++ C).map Prod.snd) (ps.length - 1) (fun y => if y = j then none else f y)) := hS6
      have HLV : Hid (lv = ps.getD (ps.length - 1) 0) := hlv
      have HLT : Hid (lt = ts.getD (ts.length - 1) 0) := hlt
      clear hS6 hlv hlt hPat
      refine wp_region_any (by kernel_rfl) ?_
      change wpAny _ _ _ _ _ _ _ (World.drew _)
      refine wpAny_take (i := 0) (v := ?vm0) rfl (by kernel_rfl) (by kernel_rfl) (by kernel_rfl) (fun _ _ _ h => h) (Or.inl ⟨by rfl, ?hym0⟩) ?rm0
      case hym0 => (intro wz; go_simp; try with_reducible rfl)
      simp only [Act.put, List.getElem_toArray, List.getElem_cons_zero, List.getElem_cons_succ, List.setIfInBounds_toArray, List.set_cons_zero, List.set_cons_succ]
      refine wpAny_take (i := 1) (v := ?vm1) rfl (by kernel_rfl) (by kernel_rfl) (by kernel_rfl) (fun _ _ _ h => h) (Or.inl ⟨by rfl, ?hym1⟩) ?rm1
      case hym1 => (intro wz; go_simp; try with_reducible rfl)
      simp only [Act.put, List.getElem_toArray, List.getElem_cons_zero, List.getElem_cons_succ, List.setIfInBounds_toArray, List.set_cons_zero, List.set_cons_succ]
      refine wpAny_take (i := 2) (v := ?vm2) rfl (by kernel_rfl) (by kernel_rfl) (by kernel_rfl) (fun _ _ _ h => h) (Or.inl ⟨by rfl, ?hym2⟩) ?rm2
      case hym2 => (intro wz; go_simp; try with_reducible rfl)
      simp only [Act.put, List.getElem_toArray, List.getElem_cons_zero, List.getElem_cons_succ, List.setIfInBounds_toArray, List.set_cons_zero, List.set_cons_succ]
      refine wpAny_take (i := 4) (v := ?vm4) rfl (by kernel_rfl) (by kernel_rfl) (by kernel_rfl) (fun _ _ _ h => h) (Or.inl ⟨by rfl, ?hym4⟩) ?rm4
      case hym4 => (intro wz; go_simp; try with_reducible rfl)
      simp only [Act.put, List.getElem_toArray, List.getElem_cons_zero, List.getElem_cons_succ, List.setIfInBounds_toArray, List.set_cons_zero, List.set_cons_succ]
      refine wpAny_take (i := 5) (v := ?vm5) rfl (by kernel_rfl) (by kernel_rfl) (by kernel_rfl) (fun _ _ _ h => h) (Or.inl ⟨by rfl, ?hym5⟩) ?rm5
      case hym5 => (intro wz; go_simp; try with_reducible rfl)
      simp only [Act.put, List.getElem_toArray, List.getElem_cons_zero, List.getElem_cons_succ, List.setIfInBounds_toArray, List.set_cons_zero, List.set_cons_succ]
      refine wpAny_take (i := 6) (v := ?vm6) rfl (by kernel_rfl) (by kernel_rfl) (by kernel_rfl) (fun _ _ _ h => h) (Or.inl ⟨by rfl, ?hym6⟩) ?rm6
      case hym6 => (intro wz; go_simp; try with_reducible rfl)
      simp only [Act.put, List.getElem_toArray, List.getElem_cons_zero, List.getElem_cons_succ, List.setIfInBounds_toArray, List.set_cons_zero, List.set_cons_succ]
      refine wpAny_take (i := 7) (v := ?vm7) rfl (by kernel_rfl) (by kernel_rfl) (by kernel_rfl) (fun _ _ _ h => h) (Or.inl ⟨by rfl, ?hym7⟩) ?rm7
      case hym7 => (intro wz; go_simp; try with_reducible rfl)
      simp only [Act.put, List.getElem_toArray, List.getElem_cons_zero, List.getElem_cons_succ, List.setIfInBounds_toArray, List.set_cons_zero, List.set_cons_succ]
      refine wpAny_take (i := 9) (v := ?vm9) rfl (by kernel_rfl) (by kernel_rfl) (by kernel_rfl) (fun _ _ _ h => h) (Or.inl ⟨by rfl, ?hym9⟩) ?rm9
      case hym9 => (intro wz; go_simp; try with_reducible rfl)
      simp only [Act.put, List.getElem_toArray, List.getElem_cons_zero, List.getElem_cons_succ, List.setIfInBounds_toArray, List.set_cons_zero, List.set_cons_succ]
      refine wpAny_take (i := 10) (v := ?vm10) rfl (by kernel_rfl) (by kernel_rfl) (by kernel_rfl) (fun _ _ _ h => h) (Or.inl ⟨by rfl, ?hym10⟩) ?rm10
      case hym10 => (intro wz; go_simp; try with_reducible rfl)
      simp only [Act.put, List.getElem_toArray, List.getElem_cons_zero, List.getElem_cons_succ, List.setIfInBounds_toArray, List.set_cons_zero, List.set_cons_succ]
      refine wpAny_take (i := 11) (v := ?vm11) rfl (by kernel_rfl) (by kernel_rfl) (by kernel_rfl) (fun _ _ _ h => h) (Or.inl ⟨by rfl, ?hym11⟩) ?rm11
      case hym11 => (intro wz; go_simp; try with_reducible rfl)
      simp only [Act.put, List.getElem_toArray, List.getElem_cons_zero, List.getElem_cons_succ, List.setIfInBounds_toArray, List.set_cons_zero, List.set_cons_succ]
      refine wpAny_take (i := 12) (v := ?vm12) rfl (by kernel_rfl) (by kernel_rfl) (by kernel_rfl) (fun _ _ _ h => h) (Or.inl ⟨by rfl, ?hym12⟩) ?rm12
      case hym12 => (intro wz; go_simp; try with_reducible rfl)
      simp only [Act.put, List.getElem_toArray, List.getElem_cons_zero, List.getElem_cons_succ, List.setIfInBounds_toArray, List.set_cons_zero, List.set_cons_succ]
      refine wpAny_take (i := 14) (v := ?vm14) rfl (by kernel_rfl) (by kernel_rfl) (by kernel_rfl) (fun _ _ _ h => h) (Or.inl ⟨by rfl, ?hym14⟩) ?rm14
      case hym14 => (intro wz; go_simp; try with_reducible rfl)
      simp only [Act.put, List.getElem_toArray, List.getElem_cons_zero, List.getElem_cons_succ, List.setIfInBounds_toArray, List.set_cons_zero, List.set_cons_succ]
      refine wpAny_take (i := 17) (v := ?vm17) rfl (by kernel_rfl) (by kernel_rfl) (by kernel_rfl) (fun _ _ _ h => h) (Or.inl ⟨by rfl, ?hym17⟩) ?rm17
      case hym17 => (intro wz; go_simp; try with_reducible rfl)
      simp only [Act.put, List.getElem_toArray, List.getElem_cons_zero, List.getElem_cons_succ, List.setIfInBounds_toArray, List.set_cons_zero, List.set_cons_succ]
      refine wpAny_take (i := 18) (v := ?vm18) rfl (by kernel_rfl) (by kernel_rfl) (by kernel_rfl) (fun _ _ _ h => h) (Or.inl ⟨by rfl, ?hym18⟩) ?rm18
      case hym18 => (intro wz; go_simp; try with_reducible rfl)
      simp only [Act.put, List.getElem_toArray, List.getElem_cons_zero, List.getElem_cons_succ, List.setIfInBounds_toArray, List.set_cons_zero, List.set_cons_succ]
      refine wpAny_take (i := 19) (v := ?vm19) rfl (by kernel_rfl) (by kernel_rfl) (by kernel_rfl) (fun _ _ _ h => h) (Or.inl ⟨by rfl, ?hym19⟩) ?rm19
      case hym19 => (intro wz; go_simp; try with_reducible rfl)
      simp only [Act.put, List.getElem_toArray, List.getElem_cons_zero, List.getElem_cons_succ, List.setIfInBounds_toArray, List.set_cons_zero, List.set_cons_succ]
      refine wpAny_take (i := 21) (v := ?vm21) rfl (by kernel_rfl) (by kernel_rfl) (by kernel_rfl) (fun _ _ _ h => h) (Or.inl ⟨by rfl, ?hym21⟩) ?rm21
      case hym21 => (intro wz; go_simp; try with_reducible rfl)
      simp only [Act.put, List.getElem_toArray, List.getElem_cons_zero, List.getElem_cons_succ, List.setIfInBounds_toArray, List.set_cons_zero, List.set_cons_succ]
      refine wpAny_of_T (S := fun w' => w' = x4.drew) (T := allUp [0, 1, 2, 3, 4, 5, 6, 7, 8, 9, 10, 11, 12, 13, 14, 15, 16, 17, 18, 19, 20, 21, 22, 23]) _ _ _ _ ?_
      refine wpAnyT_take (i := 3) (v := ?vn3) rfl (by kernel_rfl) (by kernel_rfl) (by kernel_rfl) (by kernel_rfl) (fun _ _ _ h => h) (Or.inl ⟨by rfl, ?hyn3⟩) rfl ?rn3
      case hyn3 => (intro wz hSw; subst hSw; go_simp; try with_reducible rfl)
      simp only [Act.put, List.getElem_toArray, List.getElem_cons_zero, List.getElem_cons_succ, List.setIfInBounds_toArray, List.set_cons_zero, List.set_cons_succ]
      refine wpAnyT_take (i := 8) (v := ?vn8) rfl (by kernel_rfl) (by kernel_rfl) (by kernel_rfl) (by kernel_rfl) (fun _ _ _ h => h) (Or.inl ⟨by rfl, ?hyn8⟩) rfl ?rn8
      case hyn8 => (intro wz hSw; subst hSw; go_simp; try with_reducible rfl)
      simp only [Act.put, List.getElem_toArray, List.getElem_cons_zero, List.getElem_cons_succ, List.setIfInBounds_toArray, List.set_cons_zero, List.set_cons_succ]
      refine wpAnyT_take (i := 13) (v := ?vn13) rfl (by kernel_rfl) (by kernel_rfl) (by kernel_rfl) (by kernel_rfl) (fun _ _ _ h => h) (Or.inl ⟨by rfl, ?hyn13⟩) rfl ?rn13
      case hyn13 => (intro wz hSw; subst hSw; go_simp; try with_reducible rfl)
      simp only [Act.put, List.getElem_toArray, List.getElem_cons_zero, List.getElem_cons_succ, List.setIfInBounds_toArray, List.set_cons_zero, List.set_cons_succ]
      refine wpAnyT_take (i := 15) (v := ?vn15) rfl (by kernel_rfl) (by kernel_rfl) (by kernel_rfl) (by kernel_rfl) (fun _ _ _ h => h) (Or.inl ⟨by rfl, ?hyn15⟩) rfl ?rn15
      case hyn15 => (intro wz hSw; subst hSw; go_simp; try with_reducible rfl)
      simp only [Act.put, List.getElem_toArray, List.getElem_cons_zero, List.getElem_cons_succ, List.setIfInBounds_toArray, List.set_cons_zero, List.set_cons_succ]
      refine wpAnyT_take (i := 16) (v := ?vn16) rfl (by kernel_rfl) (by kernel_rfl) (by kernel_rfl) (by kernel_rfl) (fun _ _ _ h => h) (Or.inl ⟨by rfl, ?hyn16⟩) rfl ?rn16
      case hyn16 => (intro wz hSw; subst hSw; go_simp; try with_reducible rfl)
      simp only [Act.put, List.getElem_toArray, List.getElem_cons_zero, List.getElem_cons_succ, List.setIfInBounds_toArray, List.set_cons_zero, List.set_cons_succ]
      refine wpAnyT_take (i := 20) (v := ?vn20) rfl (by kernel_rfl) (by kernel_rfl) (by kernel_rfl) (by kernel_rfl) (fun _ _ _ h => h) (Or.inl ⟨by rfl, ?hyn20⟩) rfl ?rn20
      case hyn20 => (intro wz hSw; subst hSw; go_simp; try with_reducible rfl)
      simp only [Act.put, List.getElem_toArray, List.getElem_cons_zero, List.getElem_cons_succ, List.setIfInBounds_toArray, List.set_cons_zero, List.set_cons_succ]
      refine wpAnyT_all (rs := [22]) (by kernel_rfl) (by simp) ?_
      refine AllT.cons rfl rfl (fun K hK => ?_) AllT.nil
      go_simp
      refine hK _ _ rfl ?_
      clear hK K
      refine wpAnyT_take (i := 23) (v := ?vn23) rfl (by kernel_rfl) (by kernel_rfl) (by kernel_rfl) (by kernel_rfl) (fun _ _ _ h => h) (Or.inl ⟨by rfl, ?hyn23⟩) rfl ?rn23
      case hyn23 => (intro wz hSw; subst hSw; refine exec_load_mid 83 (.tmp 120) ?_ kb (nl * 19) ?_ (linkCells lt) _ _ HRG.out Try.underlying83 rfl (size83 lt) <;> rfl)
      simp only [Act.put, List.getElem_toArray, List.getElem_cons_zero, List.getElem_cons_succ, List.setIfInBounds_toArray, List.set_cons_zero, List.set_cons_succ]
      refine wpAnyT_tail (allUp_mono _) _ _ _ _ (by unfold allUp; decide +kernel) ?_
      refine wpAny_take (i := 24) (v := ?vo24) rfl (by kernel_rfl) (by kernel_rfl) (by kernel_rfl) (fun _ _ _ h => h) (Or.inl ⟨by rfl, ?hyo24⟩) ?ro24
      case hyo24 => (intro wz; go_simp; try with_reducible rfl)
      simp only [Act.put, List.getElem_toArray, List.getElem_cons_zero, List.getElem_cons_succ, List.setIfInBounds_toArray, List.set_cons_zero, List.set_cons_succ]
      refine wpAny_one (i := 25) (by kernel_rfl) rfl rfl (fun K hK => ?_)
      go_simp
      refine hK _ _ ?_
      clear hK K
      refine wpAny_take (i := 26) (v := ?vo26) rfl (by kernel_rfl) (by kernel_rfl) (by kernel_rfl) (fun _ _ _ h => h) (Or.inl ⟨by rfl, ?hyo26⟩) ?ro26
      case hyo26 => (intro wz; go_simp; try with_reducible rfl)
      simp only [Act.put, List.getElem_toArray, List.getElem_cons_zero, List.getElem_cons_succ, List.setIfInBounds_toArray, List.set_cons_zero, List.set_cons_succ]
      refine wpAny_one (i := 27) (by kernel_rfl) rfl rfl (fun K hK => ?_)
      refine wp_store_mid 83 (.tmp 123) (.tmp 121) rfl kb (k * 19) (linkCells lt).toArray rfl rfl HTH.out (size83a lt) (all_oneCell_toArray (link_one lt)) ?_
      refine hK _ _ ?_
      clear hK K
      simp only [Act.put, List.getElem_toArray, List.getElem_cons_zero, List.getElem_cons_succ, List.setIfInBounds_toArray, List.set_cons_zero, List.set_cons_succ]
      refine wpAny_done (by kernel_rfl) ?_ _
      change Exit.then _ _ Exit.normal _ ((x4.drew.setCell ⟨pb, k, none⟩ (.int .i64 lv)).setCells kb (k * 19) (linkCells lt))
      clear HTH HRG c0 c1 c2 c3 c4 cp cpk fpk HS5
      generalize (x4.drew.setCell ⟨pb, k, none⟩ (.int .i64 lv)).setCells kb (k * 19) (linkCells lt) = x5 at *
      obtain ⟨c0, c1, c2, c3, c4⟩ := TBL.cells HS6.out.tab
      have cpk : x5.cell? ⟨pb, k, none⟩ = some (.int .i64 lv) := by
        rw [HS6.out.p.cell, List.getElem?_append_left (by rw [ints_len, List.length_set]; omega)]
        simp only [ints, List.getElem?_map]
        rw [List.getElem?_set_self (by omega)]; rfl
      have hfl : f lv = some (nl : Int) := by
        have := HIX.out.1 nl (by have := HNP.out; omega)
        rw [HNP.out, ← HLV.out, ← HNP.out] at this
        exact this
      have hlj : lv ≠ j := by
        rw [HLV.out, ← HJ.out]
        exact (HD.out k (ps.length - 1) (by have := HNP.out; omega) (by omega)).symm
      obtain ⟨y, hrun, hIM6, hturn⟩ := HS6.out.drew.idx.store (by omega) (HW.out lv (by rw [HLV.out]; exact getD_mem (by omega))) (wf_nat (k := k) (by omega))
      have e0 : (if lv = j then none else f lv) = some (nl : Int) := by rw [if_neg hlj, hfl]
      rw [e0] at hIM6
      have hS7 := HS6.out.drew.turn hIM6 hturn
      rw [HLV.out, HLT.out] at hS7
      rw [← HLV.out] at hS7
      have HY : Hid (S4 w y B tb pb kb mb L M (tabCells (some ⟨pb, 0, none⟩) ps.length pc (some ⟨kb, 0, none⟩) ts.length kc (some mb) ra' ((A ++ mid r j ++ C).map Prod.fst).length rc' (u - 1)) (ints .i64 (ps.set k (ps.getD (ps.length - 1) 0)) ++ prest) (KC (ts.set k (ts.getD (ts.length - 1) 0)) ++ krest) (linkCells 0) t ra' rc' ((A ++ mid r j ++ C).map Prod.fst) ((A ++ mid r j ++ C).map Prod.snd) (ps.length - 1) (fun y => if y = lv then some (k : Int) else if y = j then none else f y)) := by
        rw [← HLV.out]
        exact hS7
      have HIX' : Hid (IsIx (outOf ps k) (fun y => if y = lv then some (k : Int) else if y = j then none else f y)) := isIx_mid HD.out (by have := HNP.out; omega) HJ.out HLV.out.symm HIX.out
      clear hS7 hIM6 hturn e0 hfl hlj HS6 HDEL HS4
      go_wp2_with fail
      go_region
      all_goals go_wp2_with fail
      clear c0 c1 c2 c3 c4 cpk hrun
      obtain ⟨c0, c1, c2, c3, c4⟩ := TBL.cells HY.out.tab
      have f0 := HY.out.tab.frozen 0
      have f1 := HY.out.tab.frozen 1
      refine wp_region_any (by kernel_rfl) ?_
      change wpAny _ _ _ _ _ _ _ (World.drew _)
      refine wpAny_take (i := 0) (v := ?vra0) rfl (by kernel_rfl) (by kernel_rfl) (by kernel_rfl) (fun _ _ _ h => h) (Or.inl ⟨by rfl, ?hyra0⟩) ?rra0
      case hyra0 => (intro wz; go_simp; try with_reducible rfl)
      simp only [Act.put, List.getElem_toArray, List.getElem_cons_zero, List.getElem_cons_succ, List.setIfInBounds_toArray, List.set_cons_zero, List.set_cons_succ]
      refine wpAny_take (i := 1) (v := ?vra1) rfl (by kernel_rfl) (by kernel_rfl) (by kernel_rfl) (fun _ _ _ h => h) (Or.inl ⟨by rfl, ?hyra1⟩) ?rra1
      case hyra1 => (intro wz; go_simp; try with_reducible rfl)
      simp only [Act.put, List.getElem_toArray, List.getElem_cons_zero, List.getElem_cons_succ, List.setIfInBounds_toArray, List.set_cons_zero, List.set_cons_succ]
      refine wpAny_take (i := 2) (v := ?vra2) rfl (by kernel_rfl) (by kernel_rfl) (by kernel_rfl) (fun _ _ _ h => h) (Or.inl ⟨by rfl, ?hyra2⟩) ?rra2
      case hyra2 => (intro wz; go_simp; try with_reducible rfl)
      simp only [Act.put, List.getElem_toArray, List.getElem_cons_zero, List.getElem_cons_succ, List.setIfInBounds_toArray, List.set_cons_zero, List.set_cons_succ]
      refine wpAny_take (i := 3) (v := ?vra3) rfl (by kernel_rfl) (by kernel_rfl) (by kernel_rfl) (fun _ _ _ h => h) (Or.inl ⟨by rfl, ?hyra3⟩) ?rra3
      case hyra3 => (intro wz; go_simp; try with_reducible rfl)
      simp only [Act.put, List.getElem_toArray, List.getElem_cons_zero, List.getElem_cons_succ, List.setIfInBounds_toArray, List.set_cons_zero, List.set_cons_succ]
      refine wpAny_take (i := 4) (v := ?vra4) rfl (by kernel_rfl) (by kernel_rfl) (by kernel_rfl) (fun _ _ _ h => h) (Or.inl ⟨by rfl, ?hyra4⟩) ?rra4
      case hyra4 => (intro wz; go_simp; try with_reducible rfl)
      simp only [Act.put, List.getElem_toArray, List.getElem_cons_zero, List.getElem_cons_succ, List.setIfInBounds_toArray, List.set_cons_zero, List.set_cons_succ]
      refine wpAny_take (i := 6) (v := ?vra6) rfl (by kernel_rfl) (by kernel_rfl) (by kernel_rfl) (fun _ _ _ h => h) (Or.inl ⟨by rfl, ?hyra6⟩) ?rra6
      case hyra6 => (intro wz; go_simp; try with_reducible rfl)
      simp only [Act.put, List.getElem_toArray, List.getElem_cons_zero, List.getElem_cons_succ, List.setIfInBounds_toArray, List.set_cons_zero, List.set_cons_succ]
      refine wpAny_take (i := 8) (v := ?vra8) rfl (by kernel_rfl) (by kernel_rfl) (by kernel_rfl) (fun _ _ _ h => h) (Or.inl ⟨by rfl, ?hyra8⟩) ?rra8
      case hyra8 => (intro wz; go_simp; try with_reducible rfl)
      simp only [Act.put, List.getElem_toArray, List.getElem_cons_zero, List.getElem_cons_succ, List.setIfInBounds_toArray, List.set_cons_zero, List.set_cons_succ]
      refine wpAny_take (i := 9) (v := ?vra9) rfl (by kernel_rfl) (by kernel_rfl) (by kernel_rfl) (fun _ _ _ h => h) (Or.inl ⟨by rfl, ?hyra9⟩) ?rra9
      case hyra9 => (intro wz; go_simp; try with_reducible rfl)
      simp only [Act.put, List.getElem_toArray, List.getElem_cons_zero, List.getElem_cons_succ, List.setIfInBounds_toArray, List.set_cons_zero, List.set_cons_succ]
      refine wpAny_take (i := 10) (v := ?vra10) rfl (by kernel_rfl) (by kernel_rfl) (by kernel_rfl) (fun _ _ _ h => h) (Or.inl ⟨by rfl, ?hyra10⟩) ?rra10
      case hyra10 => (intro wz; go_simp; try with_reducible rfl)
      simp only [Act.put, List.getElem_toArray, List.getElem_cons_zero, List.getElem_cons_succ, List.setIfInBounds_toArray, List.set_cons_zero, List.set_cons_succ]
      refine wpAny_take (i := 12) (v := ?vra12) rfl (by kernel_rfl) (by kernel_rfl) (by kernel_rfl) (fun _ _ _ h => h) (Or.inl ⟨by rfl, ?hyra12⟩) ?rra12
      case hyra12 => (intro wz; go_simp; try with_reducible rfl)
      simp only [Act.put, List.getElem_toArray, List.getElem_cons_zero, List.getElem_cons_succ, List.setIfInBounds_toArray, List.set_cons_zero, List.set_cons_succ]
      refine wpAny_two (i := 5) (j := 11) (by kernel_rfl) rfl rfl rfl rfl (fun K hK => ?_) (fun K hK => ?_)
      · go_simp
        refine hK _ _ ?_
        clear hK K
        refine wpAny_take (i := 7) (v := ?vrx7) rfl (by kernel_rfl) (by kernel_rfl) (by kernel_rfl) (fun _ _ _ h => h) (Or.inl ⟨by rfl, ?hyrx7⟩) ?rrx7
        case hyrx7 => (intro wz; go_simp; try with_reducible rfl)
        simp only [Act.put, List.getElem_toArray, List.getElem_cons_zero, List.getElem_cons_succ, List.setIfInBounds_toArray, List.set_cons_zero, List.set_cons_succ]
        refine wpAny_one (i := 11) (by kernel_rfl) rfl rfl (fun K hK => ?_)
        go_simp
        refine hK _ _ ?_
        clear hK K
        refine wpAny_take (i := 13) (v := ?vrx13) rfl (by kernel_rfl) (by kernel_rfl) (by kernel_rfl) (fun _ _ _ h => h) (Or.inl ⟨by rfl, ?hyrx13⟩) ?rrx13
        case hyrx13 => (intro wz; go_simp; try with_reducible rfl)
        simp only [Act.put, List.getElem_toArray, List.getElem_cons_zero, List.getElem_cons_succ, List.setIfInBounds_toArray, List.set_cons_zero, List.set_cons_succ]
        refine wpAny_take (i := 14) (v := ?vrx14) rfl (by kernel_rfl) (by kernel_rfl) (by kernel_rfl) (fun _ _ _ h => h) (Or.inl ⟨by rfl, ?hyrx14⟩) ?rrx14
        case hyrx14 => (intro wz; go_simp; try with_reducible rfl)
        simp only [Act.put, List.getElem_toArray, List.getElem_cons_zero, List.getElem_cons_succ, List.setIfInBounds_toArray, List.set_cons_zero, List.set_cons_succ]
        refine wpAny_take (i := 15) (v := ?vrx15) rfl (by kernel_rfl) (by kernel_rfl) (by kernel_rfl) (fun _ _ _ h => h) (Or.inl ⟨by rfl, ?hyrx15⟩) ?rrx15
        case hyrx15 => (intro wz; go_simp; try with_reducible rfl)
        simp only [Act.put, List.getElem_toArray, List.getElem_cons_zero, List.getElem_cons_succ, List.setIfInBounds_toArray, List.set_cons_zero, List.set_cons_succ]
        refine wpAny_one (i := 16) (by kernel_rfl) rfl rfl (fun K hK => ?_)
        go_simp
        refine hK _ _ ?_
        clear hK K
        refine wpAny_take (i := 17) (v := ?vrx17) rfl (by kernel_rfl) (by kernel_rfl) (by kernel_rfl) (fun _ _ _ h => h) (Or.inl ⟨by rfl, ?hyrx17⟩) ?rrx17
        case hyrx17 => (intro wz; go_simp; try with_reducible rfl)
        simp only [Act.put, List.getElem_toArray, List.getElem_cons_zero, List.getElem_cons_succ, List.setIfInBounds_toArray, List.set_cons_zero, List.set_cons_succ]
        refine wpAny_take (i := 18) (v := ?vrx18) rfl (by kernel_rfl) (by kernel_rfl) (by kernel_rfl) (fun _ _ _ h => h) (Or.inl ⟨by rfl, ?hyrx18⟩) ?rrx18
        case hyrx18 => (intro wz; go_simp; try with_reducible rfl)
        simp only [Act.put, List.getElem_toArray, List.getElem_cons_zero, List.getElem_cons_succ, List.setIfInBounds_toArray, List.set_cons_zero, List.set_cons_succ]
        refine wpAny_one (i := 19) (by kernel_rfl) rfl rfl (fun K hK => ?_)
        go_simp
        refine hK _ _ ?_
        clear hK K
        refine wpAny_done (by kernel_rfl) ?_ _
        have hE := (HY.out.drew.setT 0 (.slice (some ⟨pb, 0, none⟩) nl pc)).setT 1 (.slice (some ⟨kb, 0, none⟩) nl kc)
        have HE : Hid (S4 w ((y.drew.setCell ⟨tb, 0, none⟩ (.slice (some ⟨pb, 0, none⟩) nl pc)).setCell ⟨tb, 1, none⟩ (.slice (some ⟨kb, 0, none⟩) nl kc)) B tb pb kb mb L M (tabCells (some ⟨pb, 0, none⟩) nl pc (some ⟨kb, 0, none⟩) nl kc (some mb) ra' ((A ++ mid r j ++ C).map Prod.fst).length rc' (u - 1)) (ints .i64 (ps.set k (ps.getD (ps.length - 1) 0)) ++ prest) (KC (ts.set k (ts.getD (ts.length - 1) 0)) ++ krest) (linkCells 0) t ra' rc' ((A ++ mid r j ++ C).map Prod.fst) ((A ++ mid r j ++ C).map Prod.snd) (ps.length - 1) (fun y => if y = lv then some (k : Int) else if y = j then none else f y)) := hE
        clear hE c0 c1 c2 c3 c4 f0 f1
        change Exit.then _ _ Exit.normal _ ((y.drew.setCell ⟨tb, 0, none⟩ (.slice (some ⟨pb, 0, none⟩) nl pc)).setCell ⟨tb, 1, none⟩ (.slice (some ⟨kb, 0, none⟩) nl kc))
        generalize (y.drew.setCell ⟨tb, 0, none⟩ (.slice (some ⟨pb, 0, none⟩) nl pc)).setCell ⟨tb, 1, none⟩ (.slice (some ⟨kb, 0, none⟩) nl kc) = z at *
        have hML : z.rangeAt M 0 (linkCells t) := fun q v hv => by rw [HE.out.m.cell, Nat.zero_add]; exact hv
        go_wp2_with (first | (refine wpList_load_mid rfl 83 _ rfl M 0 rfl (linkCells t) _ hML Try.underlying83 rfl (size83 t) ?_) | (refine wpList_store_mid rfl 83 _ _ rfl L 0 (linkCells t).toArray rfl rfl ?_ (size83a t) (all_oneCell_toArray (link_one t)) ?_))
        · exact HE.out.l.there 0 19 (by rw [link_len]; omega)
        · refine bodyPost_ret (v := .tuple #[.agg (linkCells t).toArray, .bool true]) (res52 _ _ L t true rfl rfl (link_over t HE.out.l)) rfl ?_
          refine ⟨A, r, C, ra', rc', HSP.out, hr1, hr2, by rw [← HTT.out], below_setCells HE.out.bel HE.out.b5, ?_⟩
          exact (take_done rfl HNP.out HNL.out (by omega) (by omega) HE.out HPR.out HKR.out HIX'.out).far HE.out.l (fun x hx => by cases hx; exact HE.out.kL)
      · go_simp
        refine hK _ _ ?_
        clear hK K
        refine wpAny_take (i := 13) (v := ?vry13) rfl (by kernel_rfl) (by kernel_rfl) (by kernel_rfl) (fun _ _ _ h => h) (Or.inl ⟨by rfl, ?hyry13⟩) ?rry13
        case hyry13 => (intro wz; go_simp; try with_reducible rfl)
        simp only [Act.put, List.getElem_toArray, List.getElem_cons_zero, List.getElem_cons_succ, List.setIfInBounds_toArray, List.set_cons_zero, List.set_cons_succ]
        refine wpAny_one (i := 5) (by kernel_rfl) rfl rfl (fun K hK => ?_)
        go_simp
        refine hK _ _ ?_
        clear hK K
        refine wpAny_take (i := 7) (v := ?vry7) rfl (by kernel_rfl) (by kernel_rfl) (by kernel_rfl) (fun _ _ _ h => h) (Or.inl ⟨by rfl, ?hyry7⟩) ?rry7
        case hyry7 => (intro wz; go_simp; try with_reducible rfl)
        simp only [Act.put, List.getElem_toArray, List.getElem_cons_zero, List.getElem_cons_succ, List.setIfInBounds_toArray, List.set_cons_zero, List.set_cons_succ]
        refine wpAny_take (i := 14) (v := ?vry14) rfl (by kernel_rfl) (by kernel_rfl) (by kernel_rfl) (fun _ _ _ h => h) (Or.inl ⟨by rfl, ?hyry14⟩) ?rry14
        case hyry14 => (intro wz; go_simp; try with_reducible rfl)
        simp only [Act.put, List.getElem_toArray, List.getElem_cons_zero, List.getElem_cons_succ, List.setIfInBounds_toArray, List.set_cons_zero, List.set_cons_succ]
        refine wpAny_take (i := 15) (v := ?vry15) rfl (by kernel_rfl) (by kernel_rfl) (by kernel_rfl) (fun _ _ _ h => h) (Or.inl ⟨by rfl, ?hyry15⟩) ?rry15
        case hyry15 => (intro wz; go_simp; try with_reducible rfl)
        simp only [Act.put, List.getElem_toArray, List.getElem_cons_zero, List.getElem_cons_succ, List.setIfInBounds_toArray, List.set_cons_zero, List.set_cons_succ]
        refine wpAny_one (i := 16) (by kernel_rfl) rfl rfl (fun K hK => ?_)
        go_simp
        refine hK _ _ ?_
        clear hK K
        refine wpAny_take (i := 17) (v := ?vry17) rfl (by kernel_rfl) (by kernel_rfl) (by kernel_rfl) (fun _ _ _ h => h) (Or.inl ⟨by rfl, ?hyry17⟩) ?rry17
        case hyry17 => (intro wz; go_simp; try with_reducible rfl)
        simp only [Act.put, List.getElem_toArray, List.getElem_cons_zero, List.getElem_cons_succ, List.setIfInBounds_toArray, List.set_cons_zero, List.set_cons_succ]
        refine wpAny_take (i := 18) (v := ?vry18) rfl (by kernel_rfl) (by kernel_rfl) (by kernel_rfl) (fun _ _ _ h => h) (Or.inl ⟨by rfl, ?hyry18⟩) ?rry18
        case hyry18 => (intro wz; go_simp; try with_reducible rfl)
        simp only [Act.put, List.getElem_toArray, List.getElem_cons_zero, List.getElem_cons_succ, List.setIfInBounds_toArray, List.set_cons_zero, List.set_cons_succ]
        refine wpAny_one (i := 19) (by kernel_rfl) rfl rfl (fun K hK => ?_)
        go_simp
        refine hK _ _ ?_
        clear hK K
        refine wpAny_done (by kernel_rfl) ?_ _
        have hE := (HY.out.drew.setT 0 (.slice (some ⟨pb, 0, none⟩) nl pc)).setT 1 (.slice (some ⟨kb, 0, none⟩) nl kc)
        have HE : Hid (S4 w ((y.drew.setCell ⟨tb, 0, none⟩ (.slice (some ⟨pb, 0, none⟩) nl pc)).setCell ⟨tb, 1, none⟩ (.slice (some ⟨kb, 0, none⟩) nl kc)) B tb pb kb mb L M (tabCells (some ⟨pb, 0, none⟩) nl pc (some ⟨kb, 0, none⟩) nl kc (some mb) ra' ((A ++ mid r j ++ C).map Prod.fst).length rc' (u - 1)) (ints .i64 (ps.set k (ps.getD (ps.length - 1) 0)) ++ prest) (KC (ts.set k (ts.getD (ts.length - 1) 0)) ++ krest) (linkCells 0) t ra' rc' ((A ++ mid r j ++ C).map Prod.fst) ((A ++ mid r j ++ C).map Prod.snd) (ps.length - 1) (fun y => if y = lv then some (k : Int) else if y = j then none else f y)) := hE
        clear hE c0 c1 c2 c3 c4 f0 f1
        change Exit.then _ _ Exit.normal _ ((y.drew.setCell ⟨tb, 0, none⟩ (.slice (some ⟨pb, 0, none⟩) nl pc)).setCell ⟨tb, 1, none⟩ (.slice (some ⟨kb, 0, none⟩) nl kc))
        generalize (y.drew.setCell ⟨tb, 0, none⟩ (.slice (some ⟨pb, 0, none⟩) nl pc)).setCell ⟨tb, 1, none⟩ (.slice (some ⟨kb, 0, none⟩) nl kc) = z at *
        have hML : z.rangeAt M 0 (linkCells t) := fun q v hv => by rw [HE.out.m.cell, Nat.zero_add]; exact hv
        go_wp2_with (first | (refine wpList_load_mid rfl 83 _ rfl M 0 rfl (linkCells t) _ hML Try.underlying83 rfl (size83 t) ?_) | (refine wpList_store_mid rfl 83 _ _ rfl L 0 (linkCells t).toArray rfl rfl ?_ (size83a t) (all_oneCell_toArray (link_one t)) ?_))
        · exact HE.out.l.there 0 19 (by rw [link_len]; omega)
        · refine bodyPost_ret (v := .tuple #[.agg (linkCells t).toArray, .bool true]) (res52 _ _ L t true rfl rfl (link_over t HE.out.l)) rfl ?_
          refine ⟨A, r, C, ra', rc', HSP.out, hr1, hr2, by rw [← HTT.out], below_setCells HE.out.bel HE.out.b5, ?_⟩
          exact (take_done rfl HNP.out HNL.out (by omega) (by omega) HE.out HPR.out HKR.out HIX'.out).far HE.out.l (fun x hx => by cases hx; exact HE.out.kL)
end Go.Proofs.Qxb6600404a
