import Derived.Test.Qxb6600404aOrders
namespace Go.Proofs.Qxb6600404a
open Go.RowKit
set_option linter.unusedVariables false
set_option linter.unusedSimpArgs false

/-- w' is w but for blocks A and B, and new ones -/
structure Fr (A B : Nat) (w x : World) : Prop where
  os : x.os = w.os
  tape : x.tape = w.tape
  output : x.output = w.output
  size : w.heap.size ≤ x.heap.size
  block : ∀ b, b < w.heap.size → b ≠ A → b ≠ B → x.heap[b]? = w.heap[b]?

/-- the state of a table while it grows -/
structure St (w1 : World) (tb mb pb kb : Nat) (x : World) (T cs cs' : List Value) (n : Nat) (f : Int → Option Int) : Prop where
  tab : Blk x tb 74 T
  p : Blk x pb 3 cs
  k : Blk x kb 83 cs'
  idx : IM x mb n f
  fr : Fr tb mb w1 x
  hp : w1.heap.size ≤ pb
  hk : w1.heap.size ≤ kb
section
variable {w1 : World} {tb mb pb kb : Nat} {x : World} {T cs cs' : List Value} {n : Nat} {f : Int → Option Int}
theorem St.alloc (h : St w1 tb mb pb kb x T cs cs' n f) (o : Obj) : St w1 tb mb pb kb (x.alloc o) T cs cs' n f :=
  ⟨h.tab.alloc o, h.p.alloc o, h.k.alloc o, h.idx.alloc o, ⟨h.fr.os, h.fr.tape, h.fr.output, by have := h.fr.size; simp; omega, fun b hb h1 h2 => by rw [Below.heap_alloc _ _ _ (by have := h.fr.size; omega)]; exact h.fr.block b hb h1 h2⟩, h.hp, h.hk⟩
theorem St.drew (h : St w1 tb mb pb kb x T cs cs' n f) : St w1 tb mb pb kb x.drew T cs cs' n f :=
  ⟨h.tab, h.p, h.k, h.idx.drew, ⟨h.fr.os, h.fr.tape, h.fr.output, h.fr.size, h.fr.block⟩, h.hp, h.hk⟩
theorem St.drewN (h : St w1 tb mb pb kb x T cs cs' n f) (k : Nat) : St w1 tb mb pb kb (x.drewN k) T cs cs' n f :=
  ⟨h.tab, h.p, h.k, h.idx.drewN k, ⟨h.fr.os, h.fr.tape, h.fr.output, h.fr.size, h.fr.block⟩, h.hp, h.hk⟩
theorem St.setP (h : St w1 tb mb pb kb x T cs cs' n f) (i : Nat) (v : Value) : St w1 tb mb pb kb (x.setCell ⟨pb, i, none⟩ v) T (cs.set i v) cs' n f :=
  ⟨h.tab.setOther (h.tab.ne h.p (by decide)) v, h.p.set i v, h.k.setOther (h.k.ne h.p (by decide)) v, h.idx.setCell (h.idx.ne_blk h.p) v, ⟨h.fr.os, h.fr.tape, h.fr.output, by simpa using h.fr.size, fun b hb h1 h2 => by rw [Below.heap_setCell _ _ _ _ (by have := h.hp; show b ≠ pb; omega)]; exact h.fr.block b hb h1 h2⟩, h.hp, h.hk⟩
theorem St.setT (h : St w1 tb mb pb kb x T cs cs' n f) (i : Nat) (v : Value) : St w1 tb mb pb kb (x.setCell ⟨tb, i, none⟩ v) (T.set i v) cs cs' n f :=
  ⟨h.tab.set i v, h.p.setOther (h.p.ne h.tab (by decide)) v, h.k.setOther (h.k.ne h.tab (by decide)) v, h.idx.setCell (h.idx.ne_blk h.tab) v, ⟨h.fr.os, h.fr.tape, h.fr.output, by simpa using h.fr.size, fun b hb h1 h2 => by rw [Below.heap_setCell _ _ _ _ h1]; exact h.fr.block b hb h1 h2⟩, h.hp, h.hk⟩
theorem St.setK (h : St w1 tb mb pb kb x T cs cs' n f) (o : Nat) (vs : List Value) (hl : o + vs.length ≤ cs'.length) : St w1 tb mb pb kb (x.setCells kb o vs) T cs (cs'.take o ++ vs ++ cs'.drop (o + vs.length)) n f := by
  have h1 := h.tab.ne h.k (by decide)
  have h2 := h.p.ne h.k (by decide)
  have h3 := h.idx.ne_blk h.k
  refine ⟨?_, ?_, Blk.setCells vs cs' o x h.k hl, ?_, ⟨?_, ?_, ?_, ?_, ?_⟩, h.hp, h.hk⟩
  · unfold Blk; rw [setCells_other h1]; exact h.tab
  · unfold Blk; rw [setCells_other h2]; exact h.p
  · exact h.idx.keep (setCells_other h3)
  · have := (below_setCells (B := 0) (b := kb) (vs := vs) (o := o) (Below.refl 0 x) (Nat.zero_le _)).os; rw [this]; exact h.fr.os
  · have := (below_setCells (B := 0) (b := kb) (vs := vs) (o := o) (Below.refl 0 x) (Nat.zero_le _)).tape; rw [this]; exact h.fr.tape
  · have := (below_setCells (B := 0) (b := kb) (vs := vs) (o := o) (Below.refl 0 x) (Nat.zero_le _)).output; rw [this]; exact h.fr.output
  · rw [setCells_size]; exact h.fr.size
  · intro b hb h1 h2
    rw [setCells_other (by have := h.hk; omega)]; exact h.fr.block b hb h1 h2
end

theorem app_in22 (x : World) (pb n c B : Nat) (j : Int) (cs : List Value) (hP : Blk x pb 3 cs) (hB : Blk x B 3 [.int .i64 j]) (h1 : n + 1 ≤ c) (h2 : n < cs.length) (ty : TypeId) :
    (Builtin.append_ #[22, 22] ty #[.slice (some ⟨pb, 0, none⟩) n c, .slice (some ⟨B, 0, none⟩) 1 1]).run Try.prog x = .ok (.slice (some ⟨pb, 0, none⟩) (n + 1) c) (x.setCell ⟨pb, n, none⟩ (.int .i64 j)) := by
  obtain ⟨i, hi, hzz⟩ := Option.map_eq_some_iff.1 Try.info3
  simp only [Prod.mk.injEq] at hzz
  obtain ⟨hz, hs, hb⟩ := hzz
  have hsrc : Src Try.prog i.size 22 (.slice (some ⟨B, 0, none⟩) 1 1) 1 [.int .i64 j] x := by
    rw [hs]
    refine Src.ofSlice x Try.underlying22 _ _ _ _ rfl (fun q u hu => ?_) (fun u hu => by simp at hu; subst hu; rfl)
    rw [Addr.add_mid, hB.cell, Nat.zero_add]; exact hu
  have := run_append_room_src (P := Try.prog) x 22 22 ty 3 i Try.underlying22 hi pb 0 n c _ 1 _ hsrc h1
    (fun q hq => by rw [hs, hP.cell]; simp at hq; subst hq; simp; omega) (fun q hq => hP.frozen _)
  rw [this, hs]
  simp [World.setCells]
theorem app_in70 (x : World) (kb n c B : Nat) (cs : List Value) (hP : Blk x kb 83 cs) (hB : Blk x B 83 (linkCells 0)) (h1 : n + 1 ≤ c) (h2 : n * 19 + 19 ≤ cs.length) (ty : TypeId) :
    (Builtin.append_ #[70, 70] ty #[.slice (some ⟨kb, 0, none⟩) n c, .slice (some ⟨B, 0, none⟩) 1 1]).run Try.prog x = .ok (.slice (some ⟨kb, 0, none⟩) (n + 1) c) (x.setCells kb (n * 19) (linkCells 0)) := by
  obtain ⟨i, hi, hzz⟩ := Option.map_eq_some_iff.1 Try.info83
  simp only [Prod.mk.injEq] at hzz
  obtain ⟨hz, hs, hb⟩ := hzz
  have hsrc : Src Try.prog i.size 70 (.slice (some ⟨B, 0, none⟩) 1 1) 1 (linkCells 0) x := by
    rw [hs]
    refine Src.ofSlice x Try.underlying70 _ _ _ _ rfl (fun q u hu => ?_) (link_one 0)
    rw [Addr.add_mid, hB.cell, Nat.zero_add]; exact hu
  have := run_append_room_src (P := Try.prog) x 70 70 ty 83 i Try.underlying70 hi kb 0 n c _ 1 _ hsrc h1
    (fun q hq => by rw [hs, hP.cell]; rw [link_len] at hq; rw [List.getElem?_eq_getElem (by omega)]; rfl) (fun q hq => hP.frozen _)
  rw [this, hs, Nat.zero_add]
theorem KC_snoc (ts : List Int) (t : Int) : KC (ts ++ [t]) = KC ts ++ linkCells t := by simp [KC]
theorem KZ_succ (k : Nat) : KZ (k + 1) = linkCells 0 ++ KZ k := by
  unfold KZ KC; rw [List.replicate_succ, List.flatMap_cons]
theorem kept_snoc (ts : List Int) (k : Nat) : (KC ts ++ KZ (k + 1)).take (ts.length * 19) ++ linkCells 0 ++ (KC ts ++ KZ (k + 1)).drop (ts.length * 19 + (linkCells 0).length) = KC (ts ++ [0]) ++ KZ k := by
  rw [KC_snoc, KZ_succ, List.take_append_of_le_length (by rw [KC_len]; omega), List.take_of_length_le (by rw [KC_len]; omega)]
  congr 1
  rw [← List.append_assoc, List.drop_append_of_le_length (by simp [KC_len, link_len]), List.drop_of_length_le (by simp [KC_len, link_len])]
  rfl
theorem peers_snoc (ps : List Int) (j : Int) (k : Nat) : (ints .i64 ps ++ zr (.int .i64 0) (k + 1)).set ps.length (.int .i64 j) = ints .i64 (ps ++ [j]) ++ zr (.int .i64 0) k := by
  rw [List.set_append_right _ _ (by rw [ints_len]; omega), ints_len, Nat.sub_self]
  simp [zr, ints, List.replicate_succ]

theorem wpAny_one {P : Program} {ops : Array Oper} {Q : Exit → Act → World → Prop} {md : Region.Mode} {i : Nat} {o : Oper} {fuel : Nat} {listed : Array Bool} {a : Act} {w : World} (hr : Region.ready md ops listed = [i]) (ho : ops[i]? = some o) (hg : o.guard = none)
    (h : ∀ K : Act → World → Prop, (∀ a' w', wpAny P md ops Q fuel (listed.setIfInBounds i true) a' w' → K a' w') → o.wp P a w K Q) : wpAny P md ops Q (fuel + 1) listed a w := by
  refine wpAny_all hr (by simp) fun j hj => ?_
  rw [List.mem_singleton] at hj
  subst hj
  unfold wpOp
  have hw : Region.wanted o (yielded ops a.tmps) = true := by simp [Region.wanted, hg]
  simp only [ho, hw, if_true]
  exact .inl (h _ fun a' w' h' => h')

/-- what 'get' leaves where it starts to keep a record -/
def GotNew (w w' : World) (e : Ending) (tb mb : Nat) (ra : Option Addr) (rc : Nat) (ps ts lo hi : List Int) (u j : Int) (k : Nat) : Prop :=
  ∃ pb kb, e = .returned (.tuple #[.pointer (some ⟨kb, ts.length * 19, none⟩), .bool true]) ∧
    TBL w' tb (some ⟨pb, 0, none⟩) (ps.length + k) (some ⟨kb, 0, none⟩) (ts.length + k) mb ra rc (ps ++ [j]) (ts ++ [0]) lo hi u ∧ Fr tb mb w w'

theorem isIx_snoc {ps : List Int} {f : Int → Option Int} (h : IsIx ps f) {j : Int} (hj : j ∉ ps) : IsIx (ps ++ [j]) (fun y => if y = j then some (ps.length : Int) else f y) := by
  refine ⟨fun i hi => ?_, fun x hx => ?_⟩
  · simp at hi
    by_cases hil : i < ps.length
    · rw [snoc_getD _ _ _ hil]
      show (if _ = j then _ else _) = _
      rw [if_neg (fun e => hj (by rw [← e]; exact getD_mem hil))]
      exact h.1 i hil
    · have : i = ps.length := by omega
      subst this
      rw [snoc_last]
      show (if _ = j then _ else _) = _
      rw [if_pos rfl]
  · simp only [List.mem_append, List.mem_singleton, not_or] at hx
    show (if x = j then _ else _) = _
    rw [if_neg hx.2]; exact h.2 x hx.1

theorem got_done {w w1 x : World} {tb mb pb kb : Nat} {ra : Option Addr} {rc : Nat} {ps ts lo hi : List Int} {u j : Int} {k : Nat} {f : Int → Option Int} {T : List Value} (hlen : ps.length = ts.length) (hj : j ∉ ps) (hix : IsIx ps f)
    (hb : Below w.heap.size w w1) (hR : OwnR w1 ra rc lo hi) {T1 : List Value} (ht1 : Blk w1 tb 74 T1) {n1 : Nat} {f1 : Int → Option Int} (hm1 : IM w1 mb n1 f1)
    (h : St w1 tb mb pb kb x T (ints .i64 (ps ++ [j]) ++ zr (.int .i64 0) k) (KC (ts ++ [0]) ++ KZ k) (ps.length + 1) (fun y => if y = j then some (ps.length : Int) else f y))
    (hT : T = tabCells (some ⟨pb, 0, none⟩) (ps.length + 1) (ps.length + (k + 1)) (some ⟨kb, 0, none⟩) (ts.length + 1) (ts.length + (k + 1)) (some mb) ra lo.length rc u) :
    TBL x tb (some ⟨pb, 0, none⟩) (ps.length + (k + 1)) (some ⟨kb, 0, none⟩) (ts.length + (k + 1)) mb ra rc (ps ++ [j]) (ts ++ [0]) lo hi u ∧ Fr tb mb w x := by
  subst hT
  refine ⟨⟨?_, .inr ⟨pb, _, rfl, h.p, ?_⟩, .inr ⟨kb, _, rfl, h.k, ?_⟩, ?_, _, ?_, isIx_snoc hix hj⟩, ?_⟩
  · simpa using h.tab
  · rw [zr_len]; simp; omega
  · rw [KZ_len]; simp; omega
  · rcases hR with h1 | ⟨rb, rest, h1, h2, h3⟩
    · exact .inl h1
    · refine .inr ⟨rb, rest, h1, ?_, h3⟩
      have hne : rb ≠ tb := h2.ne ht1 (by decide)
      have hne2 : rb ≠ mb := fun e => hm1.ne_blk h2 e.symm
      unfold Blk; rw [h.fr.block rb h2.lt hne hne2]; exact h2
  · simpa using h.idx
  · refine ⟨h.fr.os.trans hb.os, h.fr.tape.trans hb.tape, h.fr.output.trans hb.output, Nat.le_trans hb.size h.fr.size, fun b hb' h1 h2 => ?_⟩
    rw [h.fr.block b (Nat.lt_of_lt_of_le hb' hb.size) h1 h2, hb.block b hb']
end Go.Proofs.Qxb6600404a
