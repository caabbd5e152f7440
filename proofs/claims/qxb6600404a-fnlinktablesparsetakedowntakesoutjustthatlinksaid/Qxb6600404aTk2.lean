import Derived.Test.Qxb6600404aTk1
namespace Go.Proofs.Qxb6600404a
open Go.RowKit
set_option linter.unusedVariables false
set_option linter.unusedSimpArgs false

theorem wpList_delete_run {P : Program} {w : World} {ops : Array Oper} {rest : List Oper} {o : Oper} {a : Act} {Q : Exit → Act → World → Prop} (hgd : o.guard = none) (s x : Operand) (t t2 : TypeId)
    (hop : o.op = Op.call { callee := Callee.builtin Builtin.delete, args := #[s, x], argTypes := #[t, t2] }) (sv xv : Value) (hs : a.eval s = sv) (hx : a.eval x = xv) (v : Value) (w' : World)
    (hrun : ∀ ty, (Builtin.delete_ #[t, t2] ty #[sv, xv]).run P w = .ok v w') (hK : wpList P ops Q rest (a.put o.dst v) w') : wpList P ops Q (o :: rest) a w := by
  refine wpList_plain hgd fun K hK' => ?_
  unfold Oper.wp
  simp [execOp, hop, resolve, invoke, builtin, hs, hx, hrun, Result.andThen]
  exact hK' _ _ hK

structure S4 (w0 x : World) (B tb pb kb mb L M : Nat) (T P Q lc : List Value) (t : Int) (ra : Option Addr) (rc : Nat) (lo hi : List Int) (n : Nat) (f : Int → Option Int) : Prop where
  tab : Blk x tb 74 T
  p : Blk x pb 3 P
  k : Blk x kb 83 Q
  l : Blk x L 83 lc
  m : Blk x M 83 (linkCells t)
  runs : OwnR x ra rc lo hi
  idx : IM x mb n f
  bel : Below B w0 x
  kL : kb ≠ L
  kM : kb ≠ M
  lM : L ≠ M
  b1 : B ≤ tb
  b2 : B ≤ pb
  b3 : B ≤ kb
  b4 : B ≤ mb
  b5 : B ≤ L
section
variable {w0 x : World} {B tb pb kb mb L M : Nat} {T P Q lc : List Value} {t : Int} {ra : Option Addr} {rc : Nat} {lo hi : List Int} {n : Nat} {f : Int → Option Int}
theorem S4.drewN (h : S4 w0 x B tb pb kb mb L M T P Q lc t ra rc lo hi n f) (q : Nat) : S4 w0 (x.drewN q) B tb pb kb mb L M T P Q lc t ra rc lo hi n f :=
  ⟨h.tab, h.p, h.k, h.l, h.m, h.runs.keep fun b cs hb => hb, h.idx.drewN q, below_drewN h.bel q, h.kL, h.kM, h.lM, h.b1, h.b2, h.b3, h.b4, h.b5⟩
theorem S4.drew (h : S4 w0 x B tb pb kb mb L M T P Q lc t ra rc lo hi n f) : S4 w0 x.drew B tb pb kb mb L M T P Q lc t ra rc lo hi n f :=
  ⟨h.tab, h.p, h.k, h.l, h.m, h.runs.keep fun b cs hb => hb, h.idx.drew, h.bel.drew, h.kL, h.kM, h.lM, h.b1, h.b2, h.b3, h.b4, h.b5⟩
theorem S4.setT (h : S4 w0 x B tb pb kb mb L M T P Q lc t ra rc lo hi n f) (i : Nat) (v : Value) : S4 w0 (x.setCell ⟨tb, i, none⟩ v) B tb pb kb mb L M (T.set i v) P Q lc t ra rc lo hi n f :=
  ⟨h.tab.set i v, h.p.setOther (h.p.ne h.tab (by decide)) v, h.k.setOther (h.k.ne h.tab (by decide)) v, h.l.setOther (h.l.ne h.tab (by decide)) v, h.m.setOther (h.m.ne h.tab (by decide)) v, h.runs.keep fun b cs hb => hb.setOther (hb.ne h.tab (by decide)) v, h.idx.setCell (h.idx.ne_blk h.tab) v, h.bel.setCell h.b1 v, h.kL, h.kM, h.lM, h.b1, h.b2, h.b3, h.b4, h.b5⟩
theorem S4.setP (h : S4 w0 x B tb pb kb mb L M T P Q lc t ra rc lo hi n f) (i : Nat) (v : Value) : S4 w0 (x.setCell ⟨pb, i, none⟩ v) B tb pb kb mb L M T (P.set i v) Q lc t ra rc lo hi n f :=
  ⟨h.tab.setOther (h.tab.ne h.p (by decide)) v, h.p.set i v, h.k.setOther (h.k.ne h.p (by decide)) v, h.l.setOther (h.l.ne h.p (by decide)) v, h.m.setOther (h.m.ne h.p (by decide)) v, h.runs.keep fun b cs hb => hb.setOther (hb.ne h.p (by decide)) v, h.idx.setCell (h.idx.ne_blk h.p) v, h.bel.setCell h.b2 v, h.kL, h.kM, h.lM, h.b1, h.b2, h.b3, h.b4, h.b5⟩
theorem S4.setK (h : S4 w0 x B tb pb kb mb L M T P Q lc t ra rc lo hi n f) (o : Nat) (vs : List Value) (hl : o + vs.length ≤ Q.length) : S4 w0 (x.setCells kb o vs) B tb pb kb mb L M T P (Q.take o ++ vs ++ Q.drop (o + vs.length)) lc t ra rc lo hi n f :=
  ⟨h.tab.far (h.tab.ne h.k (by decide)), h.p.far (h.p.ne h.k (by decide)), Blk.setCells vs Q o x h.k hl, h.l.far h.kL.symm, h.m.far h.kM.symm, h.runs.keep fun b cs hb => hb.far (hb.ne h.k (by decide)), h.idx.keep (setCells_other (h.idx.ne_blk h.k)), below_setCells h.bel h.b3, h.kL, h.kM, h.lM, h.b1, h.b2, h.b3, h.b4, h.b5⟩
theorem S4.turn (h : S4 w0 x B tb pb kb mb L M T P Q lc t ra rc lo hi n f) {y : World} {n' : Nat} {f' : Int → Option Int} (hi' : IM y mb n' f') (ht : x.mapTurned y mb) : S4 w0 y B tb pb kb mb L M T P Q lc t ra rc lo hi n' f' :=
  ⟨h.tab.turned ht, h.p.turned ht, h.k.turned ht, h.l.turned ht, h.m.turned ht, h.runs.keep fun b cs hb => hb.turned ht, hi', turned_below h.bel ht h.b4, h.kL, h.kM, h.lM, h.b1, h.b2, h.b3, h.b4, h.b5⟩
end

/-- the last is moved into place k -/
def outOf (zs : List Int) (k : Nat) : List Int := (zs.set k (zs.getD (zs.length - 1) 0)).take (zs.length - 1)

theorem outOf_len (zs : List Int) (k : Nat) : (outOf zs k).length = zs.length - 1 := by simp [outOf]
theorem getD_set (zs : List Int) (k i : Nat) (v : Int) (hk : k < zs.length) : (zs.set k v).getD i 0 = if i = k then v else zs.getD i 0 := by
  simp only [List.getD_eq_getElem?_getD, List.getElem?_set]
  by_cases h : k = i
  · subst h; simp [hk]
  · rw [if_neg h, if_neg (fun e => h e.symm)]
theorem outOf_getD (zs : List Int) (k i : Nat) (hk : k < zs.length) (hi : i < zs.length - 1) : (outOf zs k).getD i 0 = if i = k then zs.getD (zs.length - 1) 0 else zs.getD i 0 := by
  rw [outOf, take_getD _ _ _ hi, getD_set zs k i _ hk]

theorem mem_outOf {zs : List Int} (hd : Distinct zs) {k : Nat} (hk : k < zs.length) (x : Int) : x ∈ outOf zs k ↔ x ∈ zs ∧ x ≠ zs.getD k 0 := by
  constructor
  · intro h
    obtain ⟨i, hi, rfl⟩ := mem_getD h
    rw [outOf_len] at hi
    rw [outOf_getD zs k i hk hi]
    by_cases e : i = k
    · rw [if_pos e]
      exact ⟨getD_mem (by omega), (hd k (zs.length - 1) (by omega) (by omega)).symm⟩
    · rw [if_neg e]
      refine ⟨getD_mem (by omega), ?_⟩
      rcases Nat.lt_or_gt_of_ne e with h' | h'
      · exact hd i k h' hk
      · exact (hd k i h' (by omega)).symm
  · rintro ⟨h1, h2⟩
    obtain ⟨i, hi, rfl⟩ := mem_getD h1
    have hik : i ≠ k := fun e => h2 (by rw [e])
    by_cases e : i = zs.length - 1
    · have := getD_mem (ps := outOf zs k) (i := k) (by rw [outOf_len]; omega)
      rw [outOf_getD zs k k hk (by omega), if_pos rfl, ← e] at this
      exact this
    · have := getD_mem (ps := outOf zs k) (i := i) (by rw [outOf_len]; omega)
      rw [outOf_getD zs k i hk (by omega), if_neg hik] at this
      exact this

theorem isIx_last {ps : List Int} (hd : Distinct ps) {k : Nat} (hk : k < ps.length) (hl : k = ps.length - 1) {j : Int} (hj : ps.getD k 0 = j) {f : Int → Option Int} (h : IsIx ps f) : IsIx (outOf ps k) (fun y => if y = j then none else f y) := by
  refine ⟨fun i hi => ?_, fun x hx => ?_⟩
  · rw [outOf_len] at hi
    rw [outOf_getD ps k i hk hi, if_neg (by omega)]
    dsimp only
    have := hd i k (by omega) hk
    rw [if_neg (by rw [hj] at this; exact this)]
    exact h.1 i (by omega)
  · dsimp only
    by_cases e : x = j
    · rw [if_pos e]
    · rw [if_neg e]
      refine h.2 x fun hm => hx ((mem_outOf hd hk x).2 ⟨hm, by rw [hj]; exact e⟩)

theorem isIx_mid {ps : List Int} (hd : Distinct ps) {k : Nat} (hk : k < ps.length - 1) {j v : Int} (hj : ps.getD k 0 = j) (hv : ps.getD (ps.length - 1) 0 = v) {f : Int → Option Int} (h : IsIx ps f) : IsIx (outOf ps k) (fun y => if y = v then some (k : Int) else if y = j then none else f y) := by
  have hk' : k < ps.length := by omega
  refine ⟨fun i hi => ?_, fun x hx => ?_⟩
  · rw [outOf_len] at hi
    rw [outOf_getD ps k i hk' hi]
    by_cases e : i = k
    · rw [if_pos e, hv]
      dsimp only
      rw [if_pos rfl, e]
    · rw [if_neg e]
      dsimp only
      have h1 := hd i (ps.length - 1) (by omega) (by omega)
      rw [hv] at h1
      have h2 : ps.getD i 0 ≠ j := by
        rw [← hj]
        rcases Nat.lt_or_gt_of_ne e with h' | h'
        · exact hd i k h' hk'
        · exact (hd k i h' (by omega)).symm
      rw [if_neg h1, if_neg h2]
      exact h.1 i (by omega)
  · have h0 : x ∉ ps ∨ x = j := by
      by_cases e : x = j
      · exact .inr e
      · exact .inl fun hm => hx ((mem_outOf hd hk' x).2 ⟨hm, by rw [hj]; exact e⟩)
    have h1 : x ≠ v := by
      rintro rfl
      refine hx ((mem_outOf hd hk' _).2 ⟨by rw [← hv]; exact getD_mem (by omega), ?_⟩)
      rw [← hv]
      exact (hd k (ps.length - 1) hk (by omega)).symm
    dsimp only
    rw [if_neg h1]
    by_cases e : x = j
    · rw [if_pos e]
    · rw [if_neg e]
      rcases h0 with h' | h'
      · exact h.2 x h'
      · exact absurd h' e

theorem ints_append (k : IntKind) (a b : List Int) : ints k (a ++ b) = ints k a ++ ints k b := by simp [ints]
theorem KC_append (a b : List Int) : KC (a ++ b) = KC a ++ KC b := by simp [KC]

theorem take_done {w0 x : World} {B tb pb kb mb L M : Nat} {lc : List Value} {t : Int} {ra : Option Addr} {rc rn : Nat} {lo hi : List Int} {f : Int → Option Int} {ps ts : List Int} {k pc kc nl : Nat} {u : Int} {prest krest : List Value} (hrn : rn = lo.length) (hn1 : nl = ps.length - 1) (hn2 : nl = ts.length - 1) (hp0 : 0 < ps.length) (ht0 : 0 < ts.length)
    (h : S4 w0 x B tb pb kb mb L M (tabCells (some ⟨pb, 0, none⟩) nl pc (some ⟨kb, 0, none⟩) nl kc (some mb) ra rn rc u) (ints .i64 (ps.set k (ps.getD (ps.length - 1) 0)) ++ prest) (KC (ts.set k (ts.getD (ts.length - 1) 0)) ++ krest) lc t ra rc lo hi (ps.length - 1) f)
    (hpr : prest.length + ps.length = pc) (hkr : krest.length + ts.length * 19 = kc * 19) (hix : IsIx (outOf ps k) f) : TBL x tb (some ⟨pb, 0, none⟩) pc (some ⟨kb, 0, none⟩) kc mb ra rc (outOf ps k) (outOf ts k) lo hi u := by
  refine ⟨?_, ?_, ?_, h.runs, ?_⟩
  · rw [outOf_len, outOf_len, ← hn1, ← hn2, ← hrn]; exact h.tab
  · refine .inr ⟨pb, ints .i64 ((ps.set k (ps.getD (ps.length - 1) 0)).drop (ps.length - 1)) ++ prest, rfl, ?_, ?_⟩
    · rw [outOf, ← List.append_assoc, ← ints_append, List.take_append_drop]; exact h.p
    · rw [outOf_len, List.length_append, ints_len, List.length_drop, List.length_set]; omega
  · refine .inr ⟨kb, KC ((ts.set k (ts.getD (ts.length - 1) 0)).drop (ts.length - 1)) ++ krest, rfl, ?_, ?_⟩
    · rw [outOf, ← List.append_assoc, ← KC_append, List.take_append_drop]; exact h.k
    · rw [outOf_len, List.length_append, KC_len, List.length_drop, List.length_set]; omega
  · refine ⟨f, ?_, hix⟩
    rw [outOf_len]; exact h.idx

theorem set_last (zs : List Int) (h : 0 < zs.length) : zs.set (zs.length - 1) (zs.getD (zs.length - 1) 0) = zs := by
  rw [List.getD_eq_getElem?_getD, List.getElem?_eq_getElem (by omega), Option.getD_some, List.set_getElem_self]

theorem ints_set (ps : List Int) (rest : List Value) (k : Nat) (v : Int) (hk : k < ps.length) : (ints .i64 ps ++ rest).set k (.int .i64 v) = ints .i64 (ps.set k v) ++ rest := by
  rw [List.set_append_left _ _ (by rw [ints_len]; exact hk)]
  simp [ints, List.map_set]
theorem KC_over (ts : List Int) (rest : List Value) (k : Nat) (v : Int) (hk : k < ts.length) : (KC ts ++ rest).take (k * 19) ++ linkCells v ++ (KC ts ++ rest).drop (k * 19 + (linkCells v).length) = KC (ts.set k v) ++ rest := by
  have hsp : ts = ts.take k ++ ts.getD k 0 :: ts.drop (k + 1) := by
    rw [List.getD_eq_getElem?_getD, List.getElem?_eq_getElem hk, Option.getD_some, ← List.drop_eq_getElem_cons hk, List.take_append_drop]
  have hA : (KC (ts.take k)).length = k * 19 := by rw [KC_len, List.length_take]; omega
  have e1 : KC ts = KC (ts.take k) ++ (linkCells (ts.getD k 0) ++ KC (ts.drop (k + 1))) := by
    conv => lhs; rw [hsp]
    simp [KC]
  have e2 : KC (ts.set k v) = KC (ts.take k) ++ (linkCells v ++ KC (ts.drop (k + 1))) := by
    rw [List.set_eq_take_append_cons_drop, if_pos hk]
    simp [KC]
  have h0 : KC ts ++ rest = KC (ts.take k) ++ (linkCells (ts.getD k 0) ++ (KC (ts.drop (k + 1)) ++ rest)) := by rw [e1]; simp
  have h1 : (KC ts ++ rest).take (k * 19) = KC (ts.take k) := by
    rw [h0, List.take_append_of_le_length (by omega), List.take_of_length_le (by omega)]
  have h2 : (KC ts ++ rest).drop (k * 19 + 19) = KC (ts.drop (k + 1)) ++ rest := by
    rw [h0, List.drop_append, List.drop_of_length_le (by omega), hA, show k * 19 + 19 - k * 19 = 19 by omega, List.nil_append, List.drop_append, List.drop_of_length_le (by rw [link_len]; omega), link_len]
    simp
  rw [link_len, h1, h2, e2]
  simp

theorem elem22 : Try.prog.elem 22 = 3 := by kernel_rfl
theorem und22 : Try.prog.underlying 22 = some (.slice (Try.prog.elem 22)) := by rw [elem22]; exact Try.underlying22
theorem size3 (w : World) : (sizeOf 3).run Try.prog w = .ok 1 w := by kernel_rfl
theorem elem70 : Try.prog.elem 70 = 83 := by kernel_rfl
theorem und70 : Try.prog.underlying 70 = some (.slice (Try.prog.elem 70)) := by rw [elem70]; exact Try.underlying70
theorem size83z (w : World) : (sizeOf 83).run Try.prog w = .ok 19 w := by kernel_rfl
theorem slice22_h (rb n c k : Nat) (h : k ≤ c) (w : World) : (Instr.slice 22 (.slice (some ⟨rb, 0, none⟩) n c) none (some (.int .i64 (k : Int))) none).run Try.prog w = .ok (.slice (some ⟨rb, 0, none⟩) k c) w := by
  rw [run_slice_h w 22 _ n c und22 .i64 k (by omega) (by omega)]
  simp only [Result.andThen, elem22, size3, sliced]
  simp [Addr.add_mid]
theorem slice70_h (rb n c k : Nat) (h : k ≤ c) (w : World) : (Instr.slice 70 (.slice (some ⟨rb, 0, none⟩) n c) none (some (.int .i64 (k : Int))) none).run Try.prog w = .ok (.slice (some ⟨rb, 0, none⟩) k c) w := by
  rw [run_slice_h w 70 _ n c und70 .i64 k (by omega) (by omega)]
  simp only [Result.andThen, elem70, size83z, sliced]
  simp [Addr.add_mid]
end Go.Proofs.Qxb6600404a
