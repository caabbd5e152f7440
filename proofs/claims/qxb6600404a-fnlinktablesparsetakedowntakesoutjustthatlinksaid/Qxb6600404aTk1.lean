import Derived.Test.Qxb6600404aSpB
namespace Go.Proofs.Qxb6600404a
open Go.RowKit
set_option linter.unusedVariables false
set_option linter.unusedSimpArgs false

theorem cloneB_any (a : Option Addr) (c : Nat) (zs : List Int) (w : World) (ha : SI .i64 w a zs) (hn : a = none → zs = []) (hl : zs.length ≤ 2000000) :
    Calls Try.prog 21 #[.slice a zs.length c] w fun e w' => ∃ pa, e = .returned (.slice pa zs.length zs.length) ∧ OwnP w' pa zs.length zs ∧ Below w.heap.size w w' ∧ From w.heap.size pa := by
  cases a with
  | none =>
    have := hn rfl
    subst this
    refine (clone_nil 0 c w).mono ?_
    rintro e w' ⟨rfl, rfl⟩
    exact ⟨none, rfl, .inl ⟨rfl, rfl, rfl⟩, Below.refl _ _, fun x hx => by cases hx⟩
  | some x =>
    refine (clone_some x c zs w ha hl).mono ?_
    rintro e w' ⟨rfl, hB, hb, _⟩
    exact ⟨_, rfl, .inr ⟨_, [], rfl, by simpa using hB, by simp⟩, hb, fun x hx => by cases hx; exact Nat.le_refl _⟩

theorem res52 (tmps : Array Value) (w : World) (b : Nat) (t : Int) (ok : Bool) (h4 : tmps.getD 4 undef = .pointer (some ⟨b, 0, none⟩)) (h5 : tmps.getD 5 undef = .bool ok) (hr : Blk w b 83 (linkCells t)) :
    (results Try.f52 tmps).run Try.prog w = .ok (.tuple #[.agg (linkCells t).toArray, .bool ok]) w := by
  have hrg : w.rangeAt b 0 (linkCells t) := fun j v hv => by rw [hr.cell, Nat.zero_add]; exact hv
  have hl := run_loadVar_mid (P := Try.prog) w b 0 83 (linkCells t) _ hrg Try.underlying83 rfl (size83 t)
  have hre : Try.f52.results = #[.cell 4 83, .tmp 5] := rfl
  have h4' : tmps[4]?.getD undef = .pointer (some ⟨b, 0, none⟩) := by simpa using h4
  have h5' : tmps[5]?.getD undef = .bool ok := by simpa using h5
  simp [results, hre, h4', h5', asAddr, hl, Result.andThen]

theorem inRuns_split {lo hi : List Int} (hl : lo.length = hi.length) {A C : List (Int × Int)} {r : Int × Int} (h : lo.zip hi = A ++ r :: C) {j : Int} (h1 : r.1 ≤ j) (h2 : j < r.2) : InRuns lo hi j := by
  have hz : (lo.zip hi).length = lo.length := by rw [List.length_zip, ← hl]; simp
  have hk : A.length < lo.length := by rw [← hz, h]; simp
  have hg := zip_getD lo hi A.length hl hk
  have hr : (lo.zip hi).getD A.length (0, 0) = r := by rw [h, List.getD_eq_getElem?_getD, List.getElem?_append_right (Nat.le_refl _)]; simp
  rw [hr] at hg
  refine ⟨A.length, hk, ?_, ?_⟩
  · rw [hg] at h1; exact h1
  · rw [hg] at h2; exact h2

theorem link_over {w : World} {b : Nat} {s : Int} (t : Int) (h : Blk w b 83 (linkCells s)) : Blk (w.setCells b 0 (linkCells t)) b 83 (linkCells t) := by
  have := Blk.setCells (linkCells t) _ 0 w h (by simp [link_len])
  rw [List.take_zero, List.nil_append, List.drop_of_length_le (by simp [link_len]), List.append_nil] at this
  exact this

set_option maxRecDepth 100000 in
set_option maxHeartbeats 2000000 in
theorem take_no (tb : Nat) (pa : Option Addr) (pc : Nat) (ka : Option Addr) (kc mb : Nat) (ra : Option Addr) (ps ts lo hi : List Int) (u j : Int) (w : World) (h : TBL w tb pa pc ka kc mb ra lo.length ps ts lo hi u) (hc : Canon lo hi) (hl : lo.length ≤ 2000000) (hu0 : 0 ≤ u) (hu1 : u ≤ 2305843009213693950) (hup : ¬ InRuns lo hi j) :
    Calls Try.prog 52 #[.pointer (some ⟨tb, 0, none⟩), .int .i64 j] w fun e w' => e = .returned (.tuple #[.agg (linkCells 0).toArray, .bool false]) ∧ Below w.heap.size w w' := by
  have h1 := h.below ((Below.refl w.heap.size w).alloc (Nat.le_refl _) (.cells (linkCells 0).toArray 83))
  obtain ⟨c0, c1, c2, c3, c4⟩ := TBL.cells h1.tab
  have K : Hid (Calls Try.prog 60 #[.pointer (some ⟨tb, 0, none⟩)] (w.alloc (.cells (linkCells 0).toArray 83)) fun e w' => e = .returned (.bool true) ∧ w' = (w.alloc (.cells (linkCells 0).toArray 83))) := sparse_any tb mb _ c2
  have K2 : Hid (Calls Try.prog 56 #[.pointer (some ⟨tb, 3, none⟩), .int .i64 j] (w.alloc (.cells (linkCells 0).toArray 83)) fun e w' => RemLeft (w.alloc (.cells (linkCells 0).toArray 83)) w' e tb pa ps.length pc ka ts.length kc (some mb) ra lo hi u j) := remove_any tb pa _ pc ka _ kc (some mb) ra lo hi u j _ h1.tab h1.runs hc hl hu0 hu1
  have HU : Hid (¬ InRuns lo hi j) := hup
  clear h h1 hup
  go_enter Try.func52, Try.ntmps52
  go_wp2_with fail
  refine K.out.mono ?_
  rintro e w1 ⟨rfl, rfl⟩
  go_wp2_with fail
  refine K2.out.mono ?_
  rintro e w2 (⟨rfl, _, hb⟩ | ⟨rb, A, r, C, ra', rc', _, hsp, hr1, hr2, _⟩)
  · have hL : Blk w2 w.heap.size 83 (linkCells 0) := (Blk.new w 83 (linkCells 0)).below hb (by simp)
    have HL : Hid (Blk w2 w.heap.size 83 (linkCells 0)) := hL
    have HB : Hid (Below w.heap.size w w2) := ((Below.refl _ _).alloc (Nat.le_refl _) _).trans (hb.mono (by simp))
    clear hL hb
    go_wp2_with (refine wpList_store_mid rfl 83 _ _ rfl w.heap.size 0 (linkCells 0).toArray rfl rfl ?_ (size83a 0) (all_oneCell_toArray (link_one 0)) ?_)
    · exact HL.out.there 0 19 (by rw [link_len]; omega)
    · refine bodyPost_ret (v := .tuple #[.agg (linkCells 0).toArray, .bool false]) (res52 _ _ w.heap.size 0 false rfl rfl (link_over 0 HL.out)) rfl ?_
      exact ⟨rfl, below_setCells HB.out (Nat.le_refl _)⟩
  · exact absurd (inRuns_split hc.1 hsp hr1 hr2) HU.out

/-- the table when j's link is down, and what was kept is as before -/
def TookNew (w w' : World) (e : Ending) (B tb : Nat) (pa : Option Addr) (pc : Nat) (ka : Option Addr) (kc mb : Nat) (ps ts lo hi : List Int) (u j : Int) : Prop :=
  ∃ A r C ra' rc', lo.zip hi = A ++ r :: C ∧ r.1 ≤ j ∧ j < r.2 ∧ e = .returned (.tuple #[.agg (linkCells 0).toArray, .bool true]) ∧ Below B w w' ∧
    TBL w' tb pa pc ka kc mb ra' rc' ps ts ((A ++ mid r j ++ C).map Prod.fst) ((A ++ mid r j ++ C).map Prod.snd) (u - 1)

theorem TBL.rem {w w' : World} {tb : Nat} {pa : Option Addr} {pc : Nat} {ka : Option Addr} {kc mb : Nat} {ra : Option Addr} {ps ts lo hi : List Int} {u u' : Int} {rc rb : Nat} (h : TBL w tb pa pc ka kc mb ra rc ps ts lo hi u) (hra : ra = some ⟨rb, 0, none⟩) (hne : lo ≠ []) {ra' : Option Addr} {rc' : Nat} {lo' hi' : List Int} (hT : Blk w' tb 74 (tabCells pa ps.length pc ka ts.length kc (some mb) ra' lo'.length rc' u')) (hR : OwnR w' ra' rc' lo' hi') (hF : FrL [tb, rb] w w') : TBL w' tb pa pc ka kc mb ra' rc' ps ts lo' hi' u' := by
  have hrb : ∃ cs, Blk w rb 68 cs := by
    rcases h.runs with ⟨h', _⟩ | ⟨rb', rest, h', hB, _⟩
    · rw [hra] at h'; cases h'
    · rw [hra] at h'; cases h'; exact ⟨_, hB⟩
  obtain ⟨cs, hrb⟩ := hrb
  have hk : ∀ {b : Nat} {e : TypeId} {cs' : List Value}, Blk w b e cs' → e ≠ 74 → e ≠ 68 → Blk w' b e cs' := fun hb h1 h2 => hF.blk hb (by
    simp only [List.mem_cons, List.not_mem_nil, or_false, not_or]
    exact ⟨hb.ne h.tab h1, hb.ne hrb h2⟩)
  refine ⟨hT, h.peers.keep fun b cs hb => hk hb (by decide) (by decide), h.kept.keep fun b cs hb => hk hb (by decide) (by decide), hR, ?_⟩
  obtain ⟨f, hIM, hIx⟩ := h.idx
  refine ⟨f, hF.im hIM ?_, hIx⟩
  simp only [List.mem_cons, List.not_mem_nil, or_false, not_or]
  exact ⟨hIM.ne_blk h.tab, hIM.ne_blk hrb⟩

theorem Blk.far {w : World} {b L o : Nat} {e : TypeId} {cs vs : List Value} (h : Blk w b e cs) (hne : b ≠ L) : Blk (w.setCells L o vs) b e cs := by
  unfold Blk; rw [setCells_other hne]; exact h
theorem TBL.far {w : World} {tb : Nat} {pa : Option Addr} {pc : Nat} {ka : Option Addr} {kc mb : Nat} {ra : Option Addr} {rc : Nat} {ps ts lo hi : List Int} {u : Int} (h : TBL w tb pa pc ka kc mb ra rc ps ts lo hi u) {L o : Nat} {cs vs : List Value} (hL : Blk w L 83 cs) (hk : ∀ x, ka = some x → x.block ≠ L) : TBL (w.setCells L o vs) tb pa pc ka kc mb ra rc ps ts lo hi u := by
  have hf : ∀ {b : Nat} {e : TypeId} {cs' : List Value}, Blk w b e cs' → e ≠ 83 → Blk (w.setCells L o vs) b e cs' := fun hb hne => hb.far (hb.ne hL hne)
  refine ⟨hf h.tab (by decide), h.peers.keep fun b cs hb => hf hb (by decide), ?_, h.runs.keep fun b cs hb => hf hb (by decide), ?_⟩
  · rcases h.kept with h' | ⟨kb, rest, rfl, hB, hr⟩
    · exact .inl h'
    · exact .inr ⟨kb, rest, rfl, hB.far (hk _ rfl), hr⟩
  · obtain ⟨f, hIM, hIx⟩ := h.idx
    exact ⟨f, hIM.keep (setCells_other (hIM.ne_blk hL)), hIx⟩
theorem OwnK.lt {w : World} {ka : Option Addr} {kc : Nat} {ts : List Int} (h : OwnK w ka kc ts) : ∀ x, ka = some x → x.block < w.heap.size := by
  intro x hx
  rcases h with ⟨h', _⟩ | ⟨kb, rest, h', hB, _⟩
  · rw [hx] at h'; cases h'
  · rw [hx] at h'; cases h'; exact hB.lt

set_option maxRecDepth 100000 in
set_option maxHeartbeats 2000000 in
theorem take_new (B tb : Nat) (pa : Option Addr) (pc : Nat) (ka : Option Addr) (kc mb : Nat) (ra : Option Addr) (ps ts lo hi : List Int) (u j : Int) (w : World) (h : TBL w tb pa pc ka kc mb ra lo.length ps ts lo hi u) (hc : Canon lo hi) (hl : lo.length ≤ 2000000) (hu0 : 0 ≤ u) (hu1 : u ≤ 2305843009213693950) (hup : InRuns lo hi j) (hj : j ∉ ps) (hw : (Lit.int .i64 j).wf = true)
    (hB1 : B ≤ tb) (hB2 : From B ra) (hB3 : B ≤ w.heap.size) :
    Calls Try.prog 52 #[.pointer (some ⟨tb, 0, none⟩), .int .i64 j] w fun e w' => TookNew w w' e B tb pa pc ka kc mb ps ts lo hi u j := by
  have h1 := h.below ((Below.refl w.heap.size w).alloc (Nat.le_refl _) (.cells (linkCells 0).toArray 83))
  obtain ⟨c0, c1, c2, c3, c4⟩ := TBL.cells h1.tab
  have K : Hid (Calls Try.prog 60 #[.pointer (some ⟨tb, 0, none⟩)] (w.alloc (.cells (linkCells 0).toArray 83)) fun e w' => e = .returned (.bool true) ∧ w' = (w.alloc (.cells (linkCells 0).toArray 83))) := sparse_any tb mb _ c2
  have K2 : Hid (Calls Try.prog 56 #[.pointer (some ⟨tb, 3, none⟩), .int .i64 j] (w.alloc (.cells (linkCells 0).toArray 83)) fun e w' => RemLeft (w.alloc (.cells (linkCells 0).toArray 83)) w' e tb pa ps.length pc ka ts.length kc (some mb) ra lo hi u j) := remove_any tb pa _ pc ka _ kc (some mb) ra lo hi u j _ h1.tab h1.runs hc hl hu0 hu1
  have HU : Hid (InRuns lo hi j) := hup
  have H1 : Hid (TBL (w.alloc (.cells (linkCells 0).toArray 83)) tb pa pc ka kc mb ra lo.length ps ts lo hi u) := h1
  have HJ : Hid (j ∉ ps) := hj
  have HBR : Hid (From B ra) := hB2
  have HKL : Hid (∀ x, ka = some x → x.block < w.heap.size) := h.kept.lt
  clear h h1 hup hj hB2
  go_enter Try.func52, Try.ntmps52
  go_wp2_with fail
  refine K.out.mono ?_
  rintro e w1 ⟨rfl, rfl⟩
  go_wp2_with fail
  refine K2.out.mono ?_
  rintro e w2 (⟨rfl, hno, hb⟩ | ⟨rb, A, r, C, ra', rc', hra, hsp, hr1, hr2, rfl, hT, hR, hF⟩)
  · exact absurd HU.out hno
  · have hne : lo ≠ [] := by
      intro h'
      rw [h'] at hsp
      simp at hsp
    have hT2 := H1.out.rem hra hne (lo' := (A ++ mid r j ++ C).map Prod.fst) (by rw [List.length_map]; exact hT) hR hF
    have hL : Blk w2 w.heap.size 83 (linkCells 0) := hF.blk (Blk.new w 83 (linkCells 0)) (by
      simp only [List.mem_cons, List.not_mem_nil, or_false, not_or]
      refine ⟨Blk.ne (Blk.new w 83 (linkCells 0)) H1.out.tab (by decide), ?_⟩
      rcases H1.out.runs with ⟨h', _⟩ | ⟨rb', rest, h', hB, _⟩
      · rw [hra] at h'; cases h'
      · rw [hra] at h'; cases h'; exact Blk.ne (Blk.new w 83 (linkCells 0)) hB (by decide))
    have hBel : Below B w w2 := ((Below.refl B w).alloc (by omega) _).trans (hF.below (fun b hb => by
      simp only [List.mem_cons, List.not_mem_nil, or_false] at hb
      rcases hb with rfl | rfl
      · exact hB1
      · exact HBR.out _ hra) (by simp; omega))
    have HL : Hid (Blk w2 w.heap.size 83 (linkCells 0)) := hL
    have HBel : Hid (Below B w w2) := hBel
    have HT2 : Hid (TBL w2 tb pa pc ka kc mb ra' rc' ps ts ((A ++ mid r j ++ C).map Prod.fst) ((A ++ mid r j ++ C).map Prod.snd) (u - 1)) := hT2
    have HSP : Hid (lo.zip hi = A ++ r :: C) := hsp
    clear c0 c1 c2 c3 c4
    obtain ⟨c0, c1, c2, c3, c4⟩ := TBL.cells hT2.tab
    obtain ⟨f, hIM, hIx⟩ := hT2.idx
    have hlook := hIM.look hw
    rw [hIx.2 j HJ.out] at hlook
    have hlook' : (Instr.lookup 71 (.map (some mb)) (.int .i64 j) true).run Try.prog w2 = .ok (.tuple #[.int .i64 0, .bool false]) w2 := hlook
    clear hlook hIM hIx hT2 hL hBel hsp hT hR hF hra hne
    go_wp2_with (refine wpList_store_mid rfl 83 _ _ rfl w.heap.size 0 (linkCells 0).toArray rfl rfl ?_ (size83a 0) (all_oneCell_toArray (link_one 0)) ?_)
    · exact HL.out.there 0 19 (by rw [link_len]; omega)
    · refine bodyPost_ret (v := .tuple #[.agg (linkCells 0).toArray, .bool true]) (res52 _ _ w.heap.size 0 true rfl rfl (link_over 0 HL.out)) rfl ?_
      refine ⟨A, r, C, ra', rc', HSP.out, hr1, hr2, rfl, below_setCells HBel.out hB3, ?_⟩
      exact HT2.out.far HL.out (fun x hx => Nat.ne_of_lt (HKL.out x hx))
end Go.Proofs.Qxb6600404a
