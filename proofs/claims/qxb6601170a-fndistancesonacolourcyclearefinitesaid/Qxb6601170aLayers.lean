import Derived.Test.Qxb6601170aClone
namespace Go.Proofs.Qxb6601170a
open Go.RowKit
set_option linter.unusedVariables false
set_option linter.unusedSimpArgs false

theorem Blk.ne {w : World} {b b' : Nat} {e e' : TypeId} {cs cs' : List Value} (h : Blk w b e cs) (h' : Blk w b' e' cs') (hne : e ≠ e') : b ≠ b' := by
  intro he
  subst he
  unfold Blk at h h'
  rw [h] at h'
  cases h'
  exact hne rfl

/-- a growing row of numbers -/
def OwnP (w : World) (a : Option Addr) (c : Nat) (zs : List Int) : Prop :=
  (a = none ∧ c = 0 ∧ zs = []) ∨ ∃ b rest, a = some ⟨b, 0, none⟩ ∧ Blk w b 3 (ints .i64 zs ++ rest) ∧ zs.length + rest.length = c
theorem OwnP.si {w : World} {a : Option Addr} {c : Nat} {zs : List Int} (h : OwnP w a c zs) : SI .i64 w a zs := by
  rcases h with ⟨_, _, rfl⟩ | ⟨b, rest, rfl, hB, _⟩
  · exact .inl rfl
  · exact SI.ofBlk hB
theorem OwnP.keep {w w' : World} {a : Option Addr} {c : Nat} {zs : List Int} (h : OwnP w a c zs) (hb : ∀ b cs, Blk w b 3 cs → Blk w' b 3 cs) : OwnP w' a c zs := by
  rcases h with h | ⟨b, rest, h1, hB, h2⟩
  · exact .inl h
  · exact .inr ⟨b, rest, h1, hb _ _ hB, h2⟩
theorem OwnP.below {w w' : World} {a : Option Addr} {c : Nat} {zs : List Int} (h : OwnP w a c zs) (hb : Below w.heap.size w w') : OwnP w' a c zs := h.keep fun b cs hB => hB.below hb hB.lt

theorem app_own (w : World) (a : Option Addr) (c : Nat) (zs : List Int) (x : Int) (Bk : Nat) (h : OwnP w a c zs) (hB : Blk w Bk 3 [.int .i64 x]) (hl : zs.length ≤ 2000000) :
    ∃ a' c' w', (∀ ty, (Builtin.append_ #[24, 24] ty #[.slice a zs.length c, .slice (some ⟨Bk, 0, none⟩) 1 1]).run Try.prog w = .ok (.slice a' (zs.length + 1) c') w') ∧ OwnP w' a' c' (zs ++ [x]) ∧
      (∀ B, B ≤ w.heap.size → From B a → From B a' ∧ Below B w w') ∧ ∀ b e cs, e ≠ 3 → Blk w b e cs → Blk w' b e cs := by
  obtain ⟨i, hi, hzz⟩ := Option.map_eq_some_iff.1 Try.info3
  simp only [Prod.mk.injEq] at hzz
  obtain ⟨hz, hs, hb⟩ := hzz
  have hsrc : Src Try.prog i.size 24 (.slice (some ⟨Bk, 0, none⟩) 1 1) 1 [.int .i64 x] w := by
    rw [hs]
    refine Src.ofSlice w Try.underlying24 _ _ _ _ rfl (fun q u hu => ?_) (fun u hu => by simp at hu; subst hu; rfl)
    rw [Addr.add_mid, hB.cell, Nat.zero_add]; exact hu
  by_cases hc : zs.length < c
  · rcases h with ⟨_, rfl, rfl⟩ | ⟨b, rest, rfl, hP, hlen⟩
    · simp at hc
    refine ⟨some ⟨b, 0, none⟩, c, w.setCell ⟨b, zs.length, none⟩ (.int .i64 x), fun ty => app_in24 w b zs.length c Bk x _ hP hB (by omega) (by simp [ints_len]; omega) ty, ?_, ?_, ?_⟩
    · refine .inr ⟨b, rest.drop 1, rfl, ?_, by simp; omega⟩
      have := hP.set zs.length (.int .i64 x)
      rw [List.set_append_right _ _ (by simp [ints_len])] at this
      cases rest with
      | nil => simp at hlen; omega
      | cons r rest =>
        simp only [ints_len, Nat.sub_self, List.set_cons_zero] at this
        simpa [ints] using this
    · intro B hBs hf
      have := hf ⟨b, 0, none⟩ rfl
      exact ⟨hf, (Below.refl B w).setCell (p := ⟨b, zs.length, none⟩) this _⟩
    · intro b' e cs he hb'
      exact hb'.setOther (hb'.ne hP he) _
  · have hold : (Builtin.firstCells i.size zs.length (.slice a zs.length c)).run Try.prog w.drew = .ok (ints .i64 zs).toArray w.drew := by
      rw [hs]
      rcases h with ⟨rfl, rfl, rfl⟩ | ⟨b, rest, rfl, hP, hlen⟩
      · exact run_firstCells_none _ _ _ _ _
      · refine run_firstCells_some w.drew 1 _ _ _ c (ints .i64 zs) (by simp [ints_len]) (fun j u hu => ?_)
        have hP' : Blk w.drew b 3 (ints .i64 zs ++ rest) := hP.drew
        rw [Addr.add_mid, hP'.cell, Nat.zero_add, List.getElem?_append_left (List.getElem?_eq_some_iff.1 hu).1]; exact hu
    have hcl : zs.length ≤ c := by
      rcases h with ⟨_, rfl, rfl⟩ | ⟨b, rest, rfl, hP, hlen⟩
      · simp
      · omega
    have hg := grownCap_ge w (zs.length + 1) c 3
    refine ⟨_, _, _, fun ty => run_append_grow_src (P := Try.prog) w 24 24 ty 3 i _ Try.underlying24 hi hz _ zs.length c _ hold _ 1 _ hsrc (by omega) (by omega) (by rw [hb]; exact growslice_fits (by omega) (by omega)), ?_, ?_, ?_⟩
    · generalize grownCap w (zs.length + 1) c 3 = c' at *
      refine .inr ⟨w.heap.size, zr (.int .i64 0) (c' - (zs.length + 1)), rfl, ?_, by simp [zr_len]; omega⟩
      have := Blk.new w.drew 3 (ints .i64 (zs ++ [x]) ++ zr (.int .i64 0) (c' - (zs.length + 1)))
      have e : (ints .i64 (zs ++ [x]) ++ zr (.int .i64 0) (c' - (zs.length + 1))).toArray = (ints .i64 zs ++ [Value.int .i64 x]).toArray ++ Builtin.zeroCells (Value.int .i64 0).cells (c' - (zs.length + 1)) := by
        apply Array.ext'
        simp only [ints, zr, List.map_append, List.map_cons, List.map_nil, List.append_assoc, Array.toList_append]
        congr 2
        simp [Builtin.zeroCells, Value.cells]
        apply List.ext_getElem
        · simp
        · intro i h1 h2; simp [Nat.mod_one]
      rw [e] at this
      exact this
    · intro B hBs hf
      exact ⟨fun y hy => by cases hy; exact hBs, (below_drewN (Below.refl B w) 1).alloc hBs _⟩
    · intro b' e cs he hb'
      exact hb'.drew.alloc _

/-- the layers of the steps before k that push the colour -/
def lay (vec : List Int) (ru mu col : Int) (k : Nat) : List Int := ((List.range k).filter (fun j : Nat => decide (stepCol vec.length ru mu ((j : Int) + 1) = col))).map (fun j => vec.getD j 0)
theorem lay_zero (vec : List Int) (ru mu col : Int) : lay vec ru mu col 0 = [] := rfl
theorem lay_yes {vec : List Int} {ru mu col : Int} {k : Nat} (h : stepCol vec.length ru mu ((k : Int) + 1) = col) : lay vec ru mu col (k + 1) = lay vec ru mu col k ++ [vec.getD k 0] := by
  unfold lay; rw [List.range_succ, List.filter_append, List.map_append]; simp [h]
theorem lay_no {vec : List Int} {ru mu col : Int} {k : Nat} (h : ¬ stepCol vec.length ru mu ((k : Int) + 1) = col) : lay vec ru mu col (k + 1) = lay vec ru mu col k := by
  unfold lay; rw [List.range_succ, List.filter_append, List.map_append]; simp [h]
theorem lay_len (vec : List Int) (ru mu col : Int) (k : Nat) : (lay vec ru mu col k).length ≤ k := by
  unfold lay; rw [List.length_map]; exact Nat.le_trans (List.length_filter_le _ _) (by simp)
theorem mem_lay {vec : List Int} {ru mu col : Int} {k : Nat} {l : Int} : l ∈ lay vec ru mu col k ↔ ∃ j, j < k ∧ stepCol vec.length ru mu ((j : Int) + 1) = col ∧ vec.getD j 0 = l := by
  unfold lay; simp [List.mem_map, List.mem_filter, and_assoc]

set_option maxHeartbeats 1000000 in
theorem layers_any (la : Int) (a : Option Addr) (c : Nat) (ru : Int) (vec : List Int) (mu col : Int) (w : World) (h : SI .i64 w a vec) (hn : vec.length ≤ 1000000) :
    Calls Try.prog 43 #[.agg (schedCells la a vec.length c ru).toArray, .int .i64 mu, .int .i64 col] w fun e w' => Own w w' e (lay vec ru mu col vec.length) := by
  have H : Hid (SI .i64 w a vec) := h
  have HP : Hid (∀ w, Calls Try.prog 42 #[.agg #[.int .i64 la, .slice a vec.length c, .int .i64 ru]] w fun e w' => e = .returned (.int .i64 vec.length) ∧ Below w.heap.size w w') := fun w => period_any la a vec.length c ru w (by omega)
  have HS : Hid (∀ (w : World) (k : Nat), SI .i64 w a vec → k < vec.length → Calls Try.prog 45 #[.agg #[.int .i64 la, .slice a vec.length c, .int .i64 ru], .int .i64 ((k : Int) + 1), .int .i64 mu] w fun e w' => e = .returned (.tuple #[.int .i64 (stepCol vec.length ru mu ((k : Int) + 1)), .int .i64 (vec.getD k 0)]) ∧ Below w.heap.size w w') := fun w k hs hk => step_any la a c ru vec mu k w hs (by omega) hk
  have HY : Hid (∀ k : Nat, stepCol vec.length ru mu ((k : Int) + 1) = col → lay vec ru mu col (k + 1) = lay vec ru mu col k ++ [vec.getD k 0]) := fun k hk => lay_yes hk
  have HNO : Hid (∀ k : Nat, ¬ stepCol vec.length ru mu ((k : Int) + 1) = col → lay vec ru mu col (k + 1) = lay vec ru mu col k) := fun k hk => lay_no hk
  have HLE : Hid (∀ k, (lay vec ru mu col k).length ≤ k) := fun k => lay_len _ _ _ _ _
  have H0 : Hid (lay vec ru mu col 0 = []) := rfl
  clear h
  unfold schedCells
  generalize lay vec ru mu col = L at *
  generalize hln : vec.length = n at *
  have HN : Hid (vec.length = n) := hln
  clear hln
  go_enter Try.func43, Try.ntmps43
  go_wp2
  go_loopw [7, 8] (fun s i w' => ∃ (k : Nat) (b : Option Addr) (d : Nat), k ≤ n ∧ i = .int .i64 ((k : Int) + 1) ∧ s = .slice b (L k).length d ∧ OwnP w' b d (L k) ∧ From w.heap.size b ∧ Blk w' w.heap.size 45 [.int .i64 la, .slice a n c, .int .i64 ru] ∧ Below w.heap.size w w') (fun _ i _ => (n : Int).toNat + 1 - (intOf i).toNat)
  case atStart => exact ⟨0, none, 0, by omega, rfl, by rw [H0.out]; rfl, .inl ⟨rfl, rfl, H0.out⟩, (fun x hx => by cases hx), Blk.new w 45 _, (Below.refl _ _).alloc (Nat.le_refl _) _⟩
  case round =>
    obtain ⟨k, b, d, hk, rfl, rfl, hP, hf, hB, hbel⟩ := hrel
    have P0 : Hid (OwnP wr b d (L k)) := hP
    have F0 : Hid (From w.heap.size b) := hf
    have B0 : Hid (Blk wr w.heap.size 45 [.int .i64 la, .slice a n c, .int .i64 ru]) := hB
    have W0 : Hid (Below w.heap.size w wr) := hbel
    have c0 : wr.cell? ⟨w.heap.size, 0, none⟩ = some (.int .i64 la) := by rw [hB.cell]; rfl
    have c1 : wr.cell? ⟨w.heap.size, 1, none⟩ = some (.slice a n c) := by rw [hB.cell]; rfl
    have c2 : wr.cell? ⟨w.heap.size, 2, none⟩ = some (.int .i64 ru) := by rw [hB.cell]; rfl
    clear hP hf hB hbel
    go_wp2_with fail
    refine (HP.out wr).mono ?_
    rintro e w1 ⟨rfl, hb1⟩
    have P1 : Hid (OwnP w1 b d (L k)) := P0.out.below hb1
    have hB1 : Blk w1 w.heap.size 45 [.int .i64 la, .slice a n c, .int .i64 ru] := B0.out.below hb1 B0.out.lt
    have B1 : Hid (Blk w1 w.heap.size 45 [.int .i64 la, .slice a n c, .int .i64 ru]) := hB1
    have W1 : Hid (Below w.heap.size w w1) := W0.out.trans (hb1.mono W0.out.size)
    have d0 : w1.cell? ⟨w.heap.size, 0, none⟩ = some (.int .i64 la) := by rw [hB1.cell]; rfl
    have d1 : w1.cell? ⟨w.heap.size, 1, none⟩ = some (.slice a n c) := by rw [hB1.cell]; rfl
    have d2 : w1.cell? ⟨w.heap.size, 2, none⟩ = some (.int .i64 ru) := by rw [hB1.cell]; rfl
    clear hB1 hb1 c0 c1 c2 P0 B0 W0
    have hLk := HLE.out k
    by_cases hlt : k < n
    · go_wp2_with fail
      refine (HS.out w1 k (H.out.below W1.out) hlt).mono ?_
      rintro e w2 ⟨rfl, hb2⟩
      have P2 : Hid (OwnP w2 b d (L k)) := P1.out.below hb2
      have B2 : Hid (Blk w2 w.heap.size 45 [.int .i64 la, .slice a n c, .int .i64 ru]) := B1.out.below hb2 B1.out.lt
      have W2 : Hid (Below w.heap.size w w2) := W1.out.trans (hb2.mono W1.out.size)
      clear hb2 P1 B1 W1 d0 d1 d2
      by_cases hq : stepCol n ru mu ((k : Int) + 1) = col
      · have hs := HY.out k hq
        obtain ⟨x, hx⟩ : ∃ x, x = vec.getD k 0 := ⟨_, rfl⟩
        rw [← hx] at hs ⊢
        have HSS : Hid (L (k + 1) = L k ++ [x]) := hs
        have hlen : (L (k + 1)).length = (L k).length + 1 := by rw [hs]; simp
        have HLEN : Hid ((L (k + 1)).length = (L k).length + 1) := hlen
        have hap := app_own (w2.alloc (.cells #[.int .i64 x] 3)) b d (L k) x w2.heap.size (P2.out.below ((Below.refl _ _).alloc (Nat.le_refl _) _)) (Blk.new w2 3 [.int .i64 x]) (by omega)
        obtain ⟨b', d', w3, hrun, hP3, hB3, hk3⟩ := hap
        have HRUN : Hid (∀ ty, (Builtin.append_ #[24, 24] ty #[.slice b (L k).length d, .slice (some ⟨w2.heap.size, 0, none⟩) 1 1]).run Try.prog (w2.alloc (.cells #[.int .i64 x] 3)) = .ok (.slice b' ((L k).length + 1) d') w3) := hrun
        have P3 : Hid (OwnP w3 b' d' (L k ++ [x])) := hP3
        have hbb := hB3 w.heap.size (by have := W2.out.size; simp; omega) F0.out
        have F3 : Hid (From w.heap.size b') := hbb.1
        have W3 : Hid (Below w.heap.size w w3) := (W2.out.alloc W2.out.size _).trans hbb.2
        have B3 : Hid (Blk w3 w.heap.size 45 [.int .i64 la, .slice a n c, .int .i64 ru]) := hk3 _ _ _ (by decide) (B2.out.alloc _)
        clear hx hs hrun hP3 hB3 hk3 hbb hlen
        generalize stepCol n ru mu ((k : Int) + 1) = col' at *
        have hcc : (col' == col) = true := by simpa using hq
        clear hq
        go_wp2_with (refine wpList_append_run rfl _ _ 24 rfl _ _ rfl rfl _ _ HRUN.out ?_)
        go_roundw
        case rel => exact ⟨k + 1, b', d', by omega, by go_num, by rw [HLEN.out], by rw [HSS.out]; exact P3.out, F3.out, B3.out, W3.out⟩
        case measure => simp [intOf]; omega
      · have hs := HNO.out k hq
        have HSS : Hid (L (k + 1) = L k) := hs
        clear hs
        generalize stepCol n ru mu ((k : Int) + 1) = col' at *
        have hcc : (col' == col) = false := by simpa using hq
        clear hq
        go_wp2_with fail
        go_roundw
        case rel => exact ⟨k + 1, b, d, by omega, by go_num, by rw [HSS.out], by rw [HSS.out]; exact P2.out, F0.out, B2.out, W2.out⟩
        case measure => simp [intOf]; omega
    · have hkn : k = n := by omega
      subst hkn
      go_wp2_with fail
      go_ret
      exact ⟨b, d, rfl, P1.out.si, F0.out, W1.out⟩
end Go.Proofs.Qxb6601170a
