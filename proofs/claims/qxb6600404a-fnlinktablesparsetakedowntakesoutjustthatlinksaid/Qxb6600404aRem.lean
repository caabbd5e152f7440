import Derived.Test.Qxb6600404aIns
namespace Go.Proofs.Qxb6600404a
open Go.RowKit
set_option linter.unusedVariables false
set_option linter.unusedSimpArgs false

/-- what is left of the run r when j is taken out of it -/
def mid (r : Int × Int) (j : Int) : List (Int × Int) := (if r.1 < j then [(r.1, j)] else []) ++ (if j + 1 < r.2 then [(j + 1, r.2)] else [])

def RemLeft (w w' : World) (e : Ending) (tb : Nat) (pa : Option Addr) (n pc : Nat) (ka : Option Addr) (m kc : Nat) (mp : Option Nat) (ra : Option Addr) (lo hi : List Int) (u j : Int) : Prop :=
  (e = .returned (.bool false) ∧ ¬ InRuns lo hi j ∧ Below w.heap.size w w') ∨
  ∃ rb A r C ra' rc', ra = some ⟨rb, 0, none⟩ ∧ lo.zip hi = A ++ r :: C ∧ r.1 ≤ j ∧ j < r.2 ∧ e = .returned (.bool true) ∧
    Blk w' tb 74 (tabCells pa n pc ka m kc mp ra' (A ++ mid r j ++ C).length rc' (u - 1)) ∧ OwnR w' ra' rc' ((A ++ mid r j ++ C).map Prod.fst) ((A ++ mid r j ++ C).map Prod.snd) ∧ FrL [tb, rb] w w'

theorem split_at (R : List (Int × Int)) (k : Nat) (hk : k < R.length) : R = R.take k ++ R.getD k (0, 0) :: R.drop (k + 1) := by
  rw [List.getD_eq_getElem?_getD, List.getElem?_eq_getElem hk, Option.getD_some]
  rw [← List.drop_eq_getElem_cons hk, List.take_append_drop]

theorem zip_back (R : List (Int × Int)) : (R.map Prod.fst).zip (R.map Prod.snd) = R := by
  induction R with
  | nil => rfl
  | cons p R ih => simp [ih]

theorem PC_set_lo (A C : List (Int × Int)) (l h a : Int) (k : Nat) (hA : A.length = k) : (PC (A ++ (l, h) :: C)).set (k * 2) (.int .i64 a) = PC (A ++ (a, h) :: C) := by
  rw [PC_append, PC_append, List.set_append_right _ _ (by rw [PC_len, hA]; omega), PC_len, hA, Nat.sub_self, PC_cons, PC_cons]; rfl
theorem PC_set_hi (A C : List (Int × Int)) (l h a : Int) (k : Nat) (hA : A.length = k) : (PC (A ++ (l, h) :: C)).set (k * 2 + 1) (.int .i64 a) = PC (A ++ (l, a) :: C) := by
  rw [PC_append, PC_append, List.set_append_right _ _ (by rw [PC_len, hA]; omega), PC_len, hA, show k * 2 + 1 - k * 2 = 1 by omega, PC_cons, PC_cons]; rfl
theorem tab_set4 (pa : Option Addr) (n pc : Nat) (ka : Option Addr) (m kc : Nat) (mp : Option Nat) (ra : Option Addr) (rn rc : Nat) (u v : Int) : (tabCells pa n pc ka m kc mp ra rn rc u).set 4 (.int .i64 v) = tabCells pa n pc ka m kc mp ra rn rc v := rfl
theorem tab_set3 (pa : Option Addr) (n pc : Nat) (ka : Option Addr) (m kc : Nat) (mp : Option Nat) (ra ra' : Option Addr) (rn rc rn' rc' : Nat) (u : Int) : (tabCells pa n pc ka m kc mp ra rn rc u).set 3 (.slice ra' rn' rc') = tabCells pa n pc ka m kc mp ra' rn' rc' u := rfl

theorem rem_done {w w1 x : World} {e : Ending} {tb : Nat} {pa : Option Addr} {n pc : Nat} {ka : Option Addr} {m kc : Nat} {mp : Option Nat} {rb : Nat} {lo hi : List Int} {u j l h : Int} {A C M : List (Int × Int)} (hB1 : Below w.heap.size w w1) (hsp : lo.zip hi = A ++ (l, h) :: C) (h1 : l ≤ j) (h2 : j < h) (hM : mid (l, h) j = M)
    {rb' rn' rc' : Nat} {rest : List Value} (he : e = .returned (.bool true)) (hrn : rn' = (A ++ M ++ C).length) (hT : Blk x tb 74 (tabCells pa n pc ka m kc mp (some ⟨rb', 0, none⟩) rn' rc' (u - 1))) (hR : Blk x rb' 68 (PC (A ++ M ++ C) ++ rest)) (hrest : rest.length + rn' * 2 = rc' * 2) (hF : FrL [tb, rb] w1 x) :
    RemLeft w x e tb pa n pc ka m kc mp (some ⟨rb, 0, none⟩) lo hi u j := by
  subst hrn
  subst hM
  refine .inr ⟨rb, A, (l, h), C, some ⟨rb', 0, none⟩, rc', rfl, hsp, h1, h2, he, hT, .inr ⟨rb', rest, rfl, by rw [zip_back]; exact hR, by simpa using hrest⟩, (FrL.ofBelow hB1).trans hF⟩

theorem insert_any (rb n p vb : Nat) (A C : List (Int × Int)) (v : Int × Int) (w : World) (hA : A.length = p) (hC : p + C.length = n) (hB : Blk w rb 68 (PC (A ++ C))) (hV : Blk w vb 68 (PC [v])) (hl : n ≤ 2000000) :
    Calls Try.prog 59 #[.slice (some ⟨rb, 0, none⟩) n n, .int .i64 (p : Int), .slice (some ⟨vb, 0, none⟩) 1 1] w fun e w' => InsLeft w w' e A v C := by
  by_cases hpn : p < n
  · exact insert_mid rb n p vb A C v w hA hC hpn hB hV hl
  · have : C = [] := by rw [← List.length_eq_zero_iff]; omega
    subst this
    have : p = n := by simpa using hC
    subst this
    exact insert_end rb p vb A v w hA (by simpa using hB) hV hl

set_option maxRecDepth 100000 in
set_option maxHeartbeats 2000000 in
theorem remove_any (tb : Nat) (pa : Option Addr) (n pc : Nat) (ka : Option Addr) (m kc : Nat) (mp : Option Nat) (ra : Option Addr) (lo hi : List Int) (u j : Int) (w : World) (hT : Blk w tb 74 (tabCells pa n pc ka m kc mp ra lo.length lo.length u)) (hR : OwnR w ra lo.length lo hi) (hc : Canon lo hi) (hl : lo.length ≤ 2000000) (hu0 : 0 ≤ u) (hu1 : u ≤ 2305843009213693950) :
    Calls Try.prog 56 #[.pointer (some ⟨tb, 3, none⟩), .int .i64 j] w fun e w' => RemLeft w w' e tb pa n pc ka m kc mp ra lo hi u j := by
  obtain ⟨c0, c1, c2, c3, c4⟩ := TBL.cells hT
  have K : Hid (Calls Try.prog 57 #[.pointer (some ⟨tb, 3, none⟩), .int .i64 j] w fun e w' => FoundRet w w' e lo hi lo.length j) := find_any tb ra lo.length lo hi j w c3 (hR.sr hc.1) hc hl
  have HT : Hid (Blk w tb 74 (tabCells pa n pc ka m kc mp ra lo.length lo.length u)) := hT
  have HR : Hid (OwnR w ra lo.length lo hi) := hR
  have HC : Hid (Canon lo hi) := hc
  clear hT hR hc c0 c1 c2 c3 c4
  go_enter Try.func56, Try.ntmps56
  go_wp2_with fail
  refine K.out.mono ?_
  rintro e w1 ⟨k, B, rfl, k1, k2, k3⟩
  have HX : Hid (B = true ↔ InRuns lo hi j) := k2.trans (found_in HC.out k1)
  have HB1 : Hid (Below w.heap.size w w1) := k3
  have HF : Hid (Found lo hi lo.length j k) := k1
  have HK : Hid (B = true ↔ k < lo.length ∧ lo.getD k 0 ≤ j) := k2
  clear k1 k2 k3 K
  cases B with
  | false =>
    go_wp2_with fail
    go_ret
    have hnot : ¬ InRuns lo hi j := fun h => by have := HX.out.2 h; simp at this
    exact .inl ⟨rfl, hnot, HB1.out⟩
  | true =>
    obtain ⟨hk, hlk⟩ := HK.out.1 rfl
    have hhk := HF.out.2.2 k (Nat.le_refl _) hk
    have hbl := HC.out.2.1 k hk
    obtain ⟨l, hll⟩ : ∃ l, l = lo.getD k 0 := ⟨_, rfl⟩
    obtain ⟨h, hhh⟩ : ∃ h, h = hi.getD k 0 := ⟨_, rfl⟩
    rw [← hll] at hlk hbl
    rw [← hhh] at hhk hbl
    have hlz : (lo.zip hi).length = lo.length := by rw [List.length_zip, ← HC.out.1]; simp
    have hsp := split_at (lo.zip hi) k (by omega)
    have hg := zip_getD lo hi k HC.out.1 hk
    rw [hg, ← hll, ← hhh] at hsp
    obtain ⟨A, hA⟩ : ∃ A, A = (lo.zip hi).take k := ⟨_, rfl⟩
    obtain ⟨C, hC⟩ : ∃ C, C = (lo.zip hi).drop (k + 1) := ⟨_, rfl⟩
    rw [← hA, ← hC] at hsp
    have hAl : A.length = k := by rw [hA, List.length_take]; omega
    have hCl : k + 1 + C.length = lo.length := by rw [hC, List.length_drop]; omega
    rcases HR.out with ⟨_, h', _⟩ | ⟨rb, rest, hra, hBk, hrest⟩
    · rw [h'] at hk; simp at hk
    have hr0 : rest = [] := by rw [← List.length_eq_zero_iff]; omega
    subst hr0
    subst hra
    rw [hsp, List.append_nil] at hBk
    have HSP : Hid (lo.zip hi = A ++ (l, h) :: C) := hsp
    have HAL : Hid (A.length = k) := hAl
    have HCL : Hid (k + 1 + C.length = lo.length) := hCl
    have hne : tb ≠ rb := HT.out.ne hBk (by decide)
    have hBk1 : Blk w1 rb 68 (PC (A ++ (l, h) :: C)) := hBk.below HB1.out hBk.lt
    have hT1 := HT.out.below HB1.out HT.out.lt
    have HBK : Hid (Blk w1 rb 68 (PC (A ++ (l, h) :: C))) := hBk1
    have HT1 : Hid (Blk w1 tb 74 (tabCells pa n pc ka m kc mp (some ⟨rb, 0, none⟩) lo.length lo.length u)) := hT1
    obtain ⟨t0, t1, t2, t3, t4⟩ := TBL.cells hT1
    have gk : (A ++ (l, h) :: C).getD k (0, 0) = (l, h) := by rw [List.getD_eq_getElem?_getD, List.getElem?_append_right (by omega), hAl]; simp
    have d0 : w1.cell? ⟨rb, k * 2, none⟩ = some (.int .i64 l) := by rw [hBk1.cell, PC_lo _ k (by simp; omega), gk]
    have d1 : w1.cell? ⟨rb, k * 2 + 1, none⟩ = some (.int .i64 h) := by rw [hBk1.cell, PC_hi _ k (by simp; omega), gk]
    have f3 := hT1.frozen 3
    have f4 := hT1.frozen 4
    have fr0 := hBk1.frozen (k * 2)
    have fr1 := hBk1.frozen (k * 2 + 1)
    have hlt1 : tb < w1.heap.size := hT1.lt
    have hlt2 : rb < w1.heap.size := hBk1.lt
    clear hll hhh hlz hsp hg hA hC hAl hBk hrest hBk1 hT1 gk HX HK HF
    have i1 : (k : Int) < (lo.length : Int) := by omega
    have hMa : l = j → h = j + 1 → mid (l, h) j = [] := fun e1 e2 => by unfold mid; rw [if_neg (by show ¬ l < j; omega), if_neg (by show ¬ j + 1 < h; omega)]; rfl
    have hMb : l = j → ¬ h = j + 1 → mid (l, h) j = [(l + 1, h)] := fun e1 e2 => by unfold mid; rw [if_neg (by show ¬ l < j; omega), if_pos (by show j + 1 < h; omega), e1]; rfl
    have hMc : ¬ l = j → h = j + 1 → mid (l, h) j = [(l, h - 1)] := fun e1 e2 => by unfold mid; rw [if_pos (by show l < j; omega), if_neg (by show ¬ j + 1 < h; omega), e2]; simp
    have hMd : ¬ l = j → ¬ h = j + 1 → mid (l, h) j = [(l, j), (j + 1, h)] := fun e1 e2 => by unfold mid; rw [if_pos (by show l < j; omega), if_pos (by show j + 1 < h; omega)]; rfl
    by_cases q1 : l = j
    · have q1' : (l == j) = true := by simp [q1]
      by_cases q2 : h = j + 1
      · have q2' : (h == j + 1) = true := by simp [q2]
        have HM : Hid (mid (l, h) j = []) := hMa q1 q2
        clear q1 q2 hMa hMb hMc hMd
        as_aux_lemma =>
          have hB2 : Blk (w1.alloc (.cells #[.int .i64 l, .int .i64 h] 68)) rb 68 (PC (A ++ (l, h) :: C) ++ []) := by rw [List.append_nil]; exact HBK.out.alloc _
          have KD : Hid (Calls Try.prog 58 #[.slice (some ⟨rb, 0, none⟩) lo.length lo.length, .int .i64 (k : Int), .int .i64 ((k : Int) + 1)] (w1.alloc (.cells #[.int .i64 l, .int .i64 h] 68)) fun e w' => DelLeft (w1.alloc (.cells #[.int .i64 l, .int .i64 h] 68)) w' e rb (k + C.length) lo.length A C []) := delete_any rb lo.length k (k + C.length) lo.length A C (l, h) [] _ HAL.out rfl (by omega) hB2 (Nat.le_refl _) hl
          clear hB2
          go_wp2_with fail
          refine KD.out.mono ?_
          rintro e x ⟨rfl, hx, hf⟩
          have hfr : FrL [tb, rb] w1 x := ((FrL.refl [tb, rb] w1).alloc _).trans (hf.mono (by simp))
          have hTx := hfr.trans (FrL.refl _ _)
          have hTx := hf.blk (HT1.out.alloc (.cells #[.int .i64 l, .int .i64 h] 68)) (by simp; exact hne)
          have HTX : Hid (Blk x tb 74 (tabCells pa n pc ka m kc mp (some ⟨rb, 0, none⟩) lo.length lo.length u)) := hTx
          have HX : Hid (Blk x rb 68 (PC (A ++ C) ++ ([.int .i64 0, .int .i64 0] ++ []))) := hx
          have HFR : Hid (FrL [tb, rb] w1 x) := hfr
          clear t0 t1 t2 t3 t4 f3 f4 d0 d1 fr0 fr1 hx hf hfr
          obtain ⟨t0, t1, t2, t3, t4⟩ := TBL.cells hTx
          have f3 := hTx.frozen 3
          have f4 := hTx.frozen 4
          clear hTx
          go_wp2_with fail
          go_ret
          refine rem_done HB1.out HSP.out hlk hhk HM.out (rb' := rb) (rn' := k + C.length) (rc' := lo.length) (rest := [.int .i64 0, .int .i64 0]) rfl (by simp [HAL.out]) ?_ ?_ (by simp; omega) ?_
          · have := (HTX.out.set 3 (.slice (some ⟨rb, 0, none⟩) (k + C.length) lo.length)).set 4 (.int .i64 (u - 1))
            rw [tab_set3, tab_set4] at this
            exact this
          · have := (HX.out.setOther (a := ⟨tb, 3, none⟩) (Ne.symm hne) (.slice (some ⟨rb, 0, none⟩) (k + C.length) lo.length)).setOther (a := ⟨tb, 4, none⟩) (Ne.symm hne) (.int .i64 (u - 1))
            simpa using this
          · exact (HFR.out.setCell (by simp) _ _).setCell (by simp) _ _
      · have q2' : (h == j + 1) = false := by simp [q2]
        have HM : Hid (mid (l, h) j = [(l + 1, h)]) := hMb q1 q2
        clear q1 q2 hMa hMb hMc hMd
        as_aux_lemma =>
          go_wp2_with fail
          go_ret
          refine rem_done HB1.out HSP.out hlk hhk HM.out (rb' := rb) (rn' := lo.length) (rc' := lo.length) (rest := []) rfl (by simp [HAL.out]; omega) ?_ ?_ (by simp) ?_
          · have := ((HT1.out.setOther (a := ⟨rb, k * 2, none⟩) hne (.int .i64 (l + 1))).set 4 (.int .i64 (u - 1))).alloc (.cells #[.int .i64 l, .int .i64 h] 68)
            rw [tab_set4] at this
            exact this
          · have := ((HBK.out.set (k * 2) (.int .i64 (l + 1))).setOther (a := ⟨tb, 4, none⟩) (Ne.symm hne) (.int .i64 (u - 1))).alloc (.cells #[.int .i64 l, .int .i64 h] 68)
            rw [PC_set_lo A C l h (l + 1) k HAL.out] at this
            simpa using this
          · exact (((FrL.refl [tb, rb] w1).setCell (b := rb) (by simp) _ _).setCell (b := tb) (by simp) _ _).alloc _
    · have q1' : (l == j) = false := by simp [q1]
      by_cases q2 : h = j + 1
      · have q2' : (h == j + 1) = true := by simp [q2]
        have HM : Hid (mid (l, h) j = [(l, h - 1)]) := hMc q1 q2
        clear q1 q2 hMa hMb hMc hMd
        as_aux_lemma =>
          go_wp2_with fail
          go_ret
          refine rem_done HB1.out HSP.out hlk hhk HM.out (rb' := rb) (rn' := lo.length) (rc' := lo.length) (rest := []) rfl (by simp [HAL.out]; omega) ?_ ?_ (by simp) ?_
          · have := ((HT1.out.setOther (a := ⟨rb, k * 2 + 1, none⟩) hne (.int .i64 (h - 1))).set 4 (.int .i64 (u - 1))).alloc (.cells #[.int .i64 l, .int .i64 h] 68)
            rw [tab_set4] at this
            exact this
          · have := ((HBK.out.set (k * 2 + 1) (.int .i64 (h - 1))).setOther (a := ⟨tb, 4, none⟩) (Ne.symm hne) (.int .i64 (u - 1))).alloc (.cells #[.int .i64 l, .int .i64 h] 68)
            rw [PC_set_hi A C l h (h - 1) k HAL.out] at this
            simpa using this
          · exact (((FrL.refl [tb, rb] w1).setCell (b := rb) (by simp) _ _).setCell (b := tb) (by simp) _ _).alloc _
      · have q2' : (h == j + 1) = false := by simp [q2]
        have HM : Hid (mid (l, h) j = [(l, j), (j + 1, h)]) := hMd q1 q2
        clear q1 q2 hMa hMb hMc hMd
        as_aux_lemma =>
          have HX : Hid (Blk ((w1.setCell ⟨rb, k * 2 + 1, none⟩ (.int .i64 j)).alloc (.cells #[.int .i64 l, .int .i64 h] 68)) rb 68 (PC (A ++ (l, j) :: C))) := by
            have := (HBK.out.set (k * 2 + 1) (.int .i64 j)).alloc (.cells #[.int .i64 l, .int .i64 h] 68)
            rw [PC_set_hi A C l h j k HAL.out] at this
            exact this
          have HTX : Hid (Blk ((w1.setCell ⟨rb, k * 2 + 1, none⟩ (.int .i64 j)).alloc (.cells #[.int .i64 l, .int .i64 h] 68)) tb 74 (tabCells pa n pc ka m kc mp (some ⟨rb, 0, none⟩) lo.length lo.length u)) := (HT1.out.setOther (a := ⟨rb, k * 2 + 1, none⟩) hne _).alloc _
          have HFR : Hid (FrL [tb, rb] w1 ((w1.setCell ⟨rb, k * 2 + 1, none⟩ (.int .i64 j)).alloc (.cells #[.int .i64 l, .int .i64 h] 68))) := ((FrL.refl [tb, rb] w1).setCell (b := rb) (by simp) _ _).alloc _
          have HL : Hid (Blk ((w1.setCell ⟨rb, k * 2 + 1, none⟩ (.int .i64 j)).alloc (.cells #[.int .i64 l, .int .i64 h] 68)) w1.heap.size 68 (PC [(l, h)])) := by
            have := Blk.new (w1.setCell ⟨rb, k * 2 + 1, none⟩ (.int .i64 j)) 68 [.int .i64 l, .int .i64 h]
            have h2 : Blk ((w1.setCell ⟨rb, k * 2 + 1, none⟩ (.int .i64 j)).alloc (.cells #[.int .i64 l, .int .i64 h] 68)) w1.heap.size 68 [.int .i64 l, .int .i64 h] := by simpa using this
            exact h2
          go_wp2_with fail
          generalize (w1.setCell ⟨rb, k * 2 + 1, none⟩ (.int .i64 j)).alloc (.cells #[.int .i64 l, .int .i64 h] 68) = x at *
          clear t0 t1 t2 t3 t4 f3 f4 d0 d1 fr0 fr1
          have hwk : IntKind.i64.wrap ((k : Int) + 1) = (k : Int) + 1 := by rw [IntKind.wrap_i64]; omega
          have hwj : IntKind.i64.wrap (j + 1) = j + 1 := by rw [IntKind.wrap_i64]; omega
          refine wp_region_any (by kernel_rfl) ?_
          change wpAny _ _ _ _ _ _ _ (World.drew _)
          generalize w1.heap.size = rl at *
          refine wpAny_take (i := 0) (v := ?vd0) rfl (by kernel_rfl) (by kernel_rfl) (by kernel_rfl) (fun _ _ _ h => h) (Or.inl ⟨by rfl, ?hyd0⟩) ?rd0
          case hyd0 => (intro wz; go_simp; try with_reducible rfl)
          simp only [Act.put, List.getElem_toArray, List.getElem_cons_zero, List.getElem_cons_succ, List.setIfInBounds_toArray, List.set_cons_zero, List.set_cons_succ]
          refine wpAny_take (i := 1) (v := ?vd1) rfl (by kernel_rfl) (by kernel_rfl) (by kernel_rfl) (fun _ _ _ h => h) (Or.inl ⟨by rfl, ?hyd1⟩) ?rd1
          case hyd1 => (intro wz; go_simp; try with_reducible rfl)
          simp only [Act.put, List.getElem_toArray, List.getElem_cons_zero, List.getElem_cons_succ, List.setIfInBounds_toArray, List.set_cons_zero, List.set_cons_succ]
          refine wpAny_take (i := 2) (v := ?vd2) rfl (by kernel_rfl) (by kernel_rfl) (by kernel_rfl) (fun _ _ _ h => h) (Or.inl ⟨by rfl, ?hyd2⟩) ?rd2
          case hyd2 => (intro wz; go_simp; try with_reducible rfl)
          simp only [Act.put, List.getElem_toArray, List.getElem_cons_zero, List.getElem_cons_succ, List.setIfInBounds_toArray, List.set_cons_zero, List.set_cons_succ]
          refine wpAny_take (i := 3) (v := ?vd3) rfl (by kernel_rfl) (by kernel_rfl) (by kernel_rfl) (fun _ _ _ h => h) (Or.inl ⟨by rfl, ?hyd3⟩) ?rd3
          case hyd3 => (intro wz; go_simp; try with_reducible rfl)
          simp only [Act.put, List.getElem_toArray, List.getElem_cons_zero, List.getElem_cons_succ, List.setIfInBounds_toArray, List.set_cons_zero, List.set_cons_succ]
          refine wpAny_take (i := 5) (v := ?vd5) rfl (by kernel_rfl) (by kernel_rfl) (by kernel_rfl) (fun _ _ _ h => h) (Or.inl ⟨by rfl, ?hyd5⟩) ?rd5
          case hyd5 => (intro wz; go_simp; try with_reducible rfl)
          simp only [Act.put, List.getElem_toArray, List.getElem_cons_zero, List.getElem_cons_succ, List.setIfInBounds_toArray, List.set_cons_zero, List.set_cons_succ]
          refine wpAny_take (i := 6) (v := ?vd6) rfl (by kernel_rfl) (by kernel_rfl) (by kernel_rfl) (fun _ _ _ h => h) (Or.inl ⟨by rfl, ?hyd6⟩) ?rd6
          case hyd6 => (intro wz; go_simp; try with_reducible rfl)
          simp only [Act.put, List.getElem_toArray, List.getElem_cons_zero, List.getElem_cons_succ, List.setIfInBounds_toArray, List.set_cons_zero, List.set_cons_succ]
          refine wpAny_take (i := 7) (v := ?vd7) rfl (by kernel_rfl) (by kernel_rfl) (by kernel_rfl) (fun _ _ _ h => h) (Or.inl ⟨by rfl, ?hyd7⟩) ?rd7
          case hyd7 => (intro wz; go_simp; try with_reducible rfl)
          simp only [Act.put, List.getElem_toArray, List.getElem_cons_zero, List.getElem_cons_succ, List.setIfInBounds_toArray, List.set_cons_zero, List.set_cons_succ]
          refine wpAny_take (i := 8) (v := ?vd8) rfl (by kernel_rfl) (by kernel_rfl) (by kernel_rfl) (fun _ _ _ h => h) (Or.inl ⟨by rfl, ?hyd8⟩) ?rd8
          case hyd8 => (intro wz; go_simp; try with_reducible rfl)
          simp only [Act.put, List.getElem_toArray, List.getElem_cons_zero, List.getElem_cons_succ, List.setIfInBounds_toArray, List.set_cons_zero, List.set_cons_succ]
          refine wpAny_take (i := 9) (v := ?vd9) rfl (by kernel_rfl) (by kernel_rfl) (by kernel_rfl) (fun _ _ _ h => h) (Or.inl ⟨by rfl, ?hyd9⟩) ?rd9
          case hyd9 => (intro wz; go_simp; try with_reducible rfl)
          simp only [Act.put, List.getElem_toArray, List.getElem_cons_zero, List.getElem_cons_succ, List.setIfInBounds_toArray, List.set_cons_zero, List.set_cons_succ]
          have hS : ∀ y, FrL [] x y → y.cell? ⟨tb, 3, none⟩ = some (.slice (some ⟨rb, 0, none⟩) lo.length lo.length) ∧ y.cell? ⟨rl, 1, none⟩ = some (.int .i64 h) := fun y hy => ⟨(TBL.cells (hy.blk HTX.out (by simp))).2.2.2.1, by rw [(hy.blk HL.out (by simp)).cell]; rfl⟩
          refine wpAny_of_T (S := fun w' => w'.cell? ⟨tb, 3, none⟩ = some (.slice (some ⟨rb, 0, none⟩) lo.length lo.length) ∧ w'.cell? ⟨rl, 1, none⟩ = some (.int .i64 h)) (T := allUp [0, 1, 2, 3, 4, 5, 6, 7, 8, 9, 10, 11, 12, 13]) _ _ _ _ ?_
          refine wpAnyT_take (i := 4) (v := ?ve4) rfl (by kernel_rfl) (by kernel_rfl) (by kernel_rfl) (by kernel_rfl) (fun _ _ _ h => h) (Or.inl ⟨by rfl, ?hye4⟩) (hS _ (FrL.refl [] x).drew) ?re4
          case hye4 => (intro wz hSw; obtain ⟨s0, s1⟩ := hSw; go_simp; try with_reducible rfl)
          simp only [Act.put, List.getElem_toArray, List.getElem_cons_zero, List.getElem_cons_succ, List.setIfInBounds_toArray, List.set_cons_zero, List.set_cons_succ]
          refine wpAnyT_take (i := 10) (v := ?ve10) rfl (by kernel_rfl) (by kernel_rfl) (by kernel_rfl) (by kernel_rfl) (fun _ _ _ h => h) (Or.inl ⟨by rfl, ?hye10⟩) (hS _ (FrL.refl [] x).drew) ?re10
          case hye10 => (intro wz hSw; obtain ⟨s0, s1⟩ := hSw; go_simp; try with_reducible rfl)
          simp only [Act.put, List.getElem_toArray, List.getElem_cons_zero, List.getElem_cons_succ, List.setIfInBounds_toArray, List.set_cons_zero, List.set_cons_succ]
          refine wpAnyT_take (i := 11) (v := ?ve11) rfl (by kernel_rfl) (by kernel_rfl) (by kernel_rfl) (by kernel_rfl) (fun _ _ _ h => h) (Or.inl ⟨by rfl, ?hye11⟩) (hS _ (FrL.refl [] x).drew) ?re11
          case hye11 => (intro wz hSw; obtain ⟨s0, s1⟩ := hSw; go_simp; try with_reducible rfl)
          simp only [Act.put, List.getElem_toArray, List.getElem_cons_zero, List.getElem_cons_succ, List.setIfInBounds_toArray, List.set_cons_zero, List.set_cons_succ]
          refine wpAnyT_all (rs := [12]) (by kernel_rfl) (by simp) ?_
          refine AllT.cons rfl rfl (fun K hK => ?_) AllT.nil
          go_simp
          have hfx : FrL [] x ((x.alloc (.cells #[.int .i64 (j + 1), .int .i64 h] 68)).drew) := ((FrL.refl [] x).alloc _).drew
          have hvb : Blk ((x.alloc (.cells #[.int .i64 (j + 1), .int .i64 h] 68)).drew) x.heap.size 68 (PC [(j + 1, h)]) := (Blk.new x 68 [.int .i64 (j + 1), .int .i64 h]).drew
          refine hK _ _ (hS _ hfx) ?_
          clear hK K
          generalize (x.alloc (.cells #[.int .i64 (j + 1), .int .i64 h] 68)).drew = y at *
          have hxy : FrL [tb, rb] w1 y := HFR.out.trans (hfx.mono (by simp))
          have hRy : Blk y rb 68 (PC ((A ++ [(l, j)]) ++ C)) := by
            have := hfx.blk HX.out (by simp)
            simpa using this
          have hTy := hfx.blk HTX.out (by simp)
          have KI := insert_any rb lo.length (k + 1) x.heap.size (A ++ [(l, j)]) C (j + 1, h) y (by simp [HAL.out]) (by omega) hRy hvb hl
          have ek : ((k + 1 : Nat) : Int) = (k : Int) + 1 := by omega
          rw [ek] at KI
          have hll : (A ++ [(l, j)]).length + 1 + C.length = lo.length + 1 := by simp [HAL.out]; omega
          have HKI : Hid (Calls Try.prog 59 #[.slice (some ⟨rb, 0, none⟩) lo.length lo.length, .int .i64 ((k : Int) + 1), .slice (some ⟨x.heap.size, 0, none⟩) 1 1] y fun e w' => ∃ nb c rest, e = .returned (.slice (some ⟨nb, 0, none⟩) (lo.length + 1) c) ∧ Blk w' nb 68 (PC ((A ++ [(l, j)]) ++ (j + 1, h) :: C) ++ rest) ∧ rest.length + (lo.length + 1) * 2 = c * 2 ∧ FrL [] y w') := KI.mono (fun e w' ⟨nb, c, rest, he, hz, hr, _, hf⟩ => ⟨nb, c, rest, by rw [he, hll], hz, by rw [← hll]; exact hr, hf⟩)
          have HXY : Hid (FrL [tb, rb] w1 y) := hxy
          have HTY : Hid (Blk y tb 74 (tabCells pa n pc ka m kc mp (some ⟨rb, 0, none⟩) lo.length lo.length u)) := hTy
          have HFX : Hid (FrL [] x y) := hfx
          clear KI hRy hvb hTy hxy hfx hll
          refine wpAnyT_all (rs := [13]) (by kernel_rfl) (by simp) ?_
          refine AllT.cons rfl rfl (fun K hK => ?_) AllT.nil
          go_wp2_with fail
          refine HKI.out.mono ?_
          rintro e z ⟨nb, c, rest, rfl, hz, hrest, hf⟩
          go_wp2_with fail
          refine hK _ _ (hS _ (HFX.out.trans hf)) ?_
          clear hK K
          have hTz := hf.blk HTY.out (by simp)
          have HTZ : Hid (Blk z tb 74 (tabCells pa n pc ka m kc mp (some ⟨rb, 0, none⟩) lo.length lo.length u)) := hTz
          have HZ : Hid (Blk z nb 68 (PC ((A ++ [(l, j)]) ++ (j + 1, h) :: C) ++ rest)) := hz
          have HFZ : Hid (FrL [tb, rb] w1 z) := HXY.out.trans (hf.mono (by simp))
          have hnt : nb ≠ tb := hz.ne hTz (by decide)
          obtain ⟨t0, t1, t2, t3, t4⟩ := TBL.cells hTz
          have f3 := hTz.frozen 3
          have f4 := hTz.frozen 4
          clear hTz hz hf hS
          refine wpAnyT_tail (allUp_mono _) _ _ _ _ (by unfold allUp; decide +kernel) ?_
          refine wpAny_take (i := 14) (v := ?vf14) rfl (by kernel_rfl) (by kernel_rfl) (by kernel_rfl) (fun _ _ _ h => h) (Or.inl ⟨by rfl, ?hyf14⟩) ?rf14
          case hyf14 => (intro wz; go_simp; try with_reducible rfl)
          simp only [Act.put, List.getElem_toArray, List.getElem_cons_zero, List.getElem_cons_succ, List.setIfInBounds_toArray, List.set_cons_zero, List.set_cons_succ]
          refine wpAny_take (i := 15) (v := ?vf15) rfl (by kernel_rfl) (by kernel_rfl) (by kernel_rfl) (fun _ _ _ h => h) (Or.inl ⟨by rfl, ?hyf15⟩) ?rf15
          case hyf15 => (intro wz; go_simp; try with_reducible rfl)
          simp only [Act.put, List.getElem_toArray, List.getElem_cons_zero, List.getElem_cons_succ, List.setIfInBounds_toArray, List.set_cons_zero, List.set_cons_succ]
          refine wpAny_one (i := 16) (by kernel_rfl) rfl rfl (fun K hK => ?_)
          go_simp
          refine hK _ _ ?_
          clear hK K
          refine wpAny_done (by kernel_rfl) ?_ _
          go_wp2_with fail
          go_ret
          refine rem_done HB1.out HSP.out hlk hhk HM.out (rb' := nb) (rn' := lo.length + 1) (rc' := c) (rest := rest) rfl (by simp [HAL.out]; omega) ?_ ?_ hrest ?_
          · have := (HTZ.out.set 3 (.slice (some ⟨nb, 0, none⟩) (lo.length + 1) c)).set 4 (.int .i64 (u - 1))
            rw [tab_set3, tab_set4] at this
            exact this
          · have := (HZ.out.setOther (a := ⟨tb, 3, none⟩) hnt (.slice (some ⟨nb, 0, none⟩) (lo.length + 1) c)).setOther (a := ⟨tb, 4, none⟩) hnt (.int .i64 (u - 1))
            simpa using this
          · exact (HFZ.out.setCell (by simp) _ _).setCell (by simp) _ _
end Go.Proofs.Qxb6600404a
