import Derived.Test.Qxb6600404aDel
namespace Go.Proofs.Qxb6600404a
open Go.RowKit
set_option linter.unusedVariables false
set_option linter.unusedSimpArgs false

theorem wpList_append2_run {P : Program} {w : World} {ops : Array Oper} {rest : List Oper} {o : Oper} {a : Act} {Q : Exit → Act → World → Prop} (hgd : o.guard = none) (s x : Operand) (t t2 : TypeId)
    (hop : o.op = Op.call { callee := Callee.builtin Builtin.append, args := #[s, x], argTypes := #[t, t2] }) (sv xv : Value) (hs : a.eval s = sv) (hx : a.eval x = xv) (v : Value) (w' : World)
    (hrun : ∀ ty, (Builtin.append_ #[t, t2] ty #[sv, xv]).run P w = .ok v w') (hK : wpList P ops Q rest (a.put o.dst v) w') : wpList P ops Q (o :: rest) a w := by
  refine wpList_plain hgd fun K hK' => ?_
  unfold Oper.wp
  simp [execOp, hop, resolve, invoke, builtin, hs, hx, hrun, Result.andThen]
  exact hK' _ _ hK

theorem wp_copy_run {P : Program} {Q : Exit → Act → World → Prop} {w : World} {o : Oper} {a : Act} {K : Act → World → Prop} (s x : Operand) (t : TypeId)
    (hop : o.op = Op.call { callee := Callee.builtin Builtin.copy, args := #[s, x], argTypes := #[t, t] }) (sv xv : Value) (hs : a.eval s = sv) (hx : a.eval x = xv) (v : Value) (w' : World)
    (hrun : ∀ ty, (Builtin.copy_ #[t, t] ty #[sv, xv]).run P w = .ok v w') (hK : K (a.put o.dst v) w') : o.wp P a w K Q := by
  unfold Oper.wp
  simp [execOp, hop, resolve, invoke, builtin, hs, hx, hrun, Result.andThen]
  exact hK

theorem copy64 (b o dLen dCap : Nat) (a : Addr) (sLen sCap : Nat) (S : List (Int × Int)) (w : World) (hn : S.length = Nat.min sLen dLen) (hsrc : ∀ j v, (PC S)[j]? = some v → w.cell? (a.add j) = some v) (cs : List Value) (hB : Blk w b 68 cs) (hl : o + S.length * 2 ≤ cs.length) (ty : TypeId) :
    (Builtin.copy_ #[64, 64] ty #[.slice (some ⟨b, o, none⟩) dLen dCap, .slice (some a) sLen sCap]).run Try.prog w = .ok (goInt S.length) (w.setCells b o (PC S)) := by
  obtain ⟨i, hi, hzz⟩ := Option.map_eq_some_iff.1 Try.info68
  simp only [Prod.mk.injEq] at hzz
  obtain ⟨hz, hs, hb⟩ := hzz
  have hlc := run_loadCells_list (P := Try.prog) w a (PC S) hsrc
  have hst := run_storeCells_cells (P := Try.prog) b o (PC S) 0 w (fun j hj => by rw [PC_len] at hj; rw [hB.cell, List.getElem?_eq_getElem (by omega)]; rfl) (fun j hj => hB.frozen _) (PC_one S)
  rw [PC_len] at hlc
  simp only [Nat.add_zero] at hst
  simp [Builtin.copy_, run_underlying Try.underlying64, Builtin.lenOf, Builtin.firstCells, sizeOf, typeInfo, hi, hs, ← hn, hlc, hst]

def InsLeft (w w' : World) (e : Ending) (A : List (Int × Int)) (v : Int × Int) (C : List (Int × Int)) : Prop :=
  ∃ nb c rest, e = .returned (.slice (some ⟨nb, 0, none⟩) (A.length + 1 + C.length) c) ∧ Blk w' nb 68 (PC (A ++ v :: C) ++ rest) ∧ rest.length + (A.length + 1 + C.length) * 2 = c * 2 ∧ w.heap.size ≤ nb ∧ FrL [] w w'

theorem zeroCells_len (n : Nat) : (Builtin.zeroCells (Value.agg #[.int .i64 0, .int .i64 0]).cells n).size = n * 2 := by
  simp [Builtin.zeroCells, Value.cells]

theorem Src.ofRun {w : World} {vb : Nat} {v : Int × Int} (h : Blk w vb 68 (PC [v])) : Src Try.prog 2 64 (.slice (some ⟨vb, 0, none⟩) 1 1) 1 (PC [v]) w := by
  refine Src.ofSlice w Try.underlying64 _ _ _ _ rfl (fun q u hu => ?_) (PC_one _)
  rw [Addr.add_mid, h.cell, Nat.zero_add]; exact hu

theorem first_cells (rb n c p : Nat) (A C : List (Int × Int)) (rest : List Value) (w : World) (hA : A.length = p) (hB : Blk w rb 68 (PC (A ++ C) ++ rest)) : (Builtin.firstCells 2 p (.slice (some ⟨rb, 0, none⟩) p c)).run Try.prog w = .ok (PC A).toArray w := by
  refine run_firstCells_some w 2 p _ p c (PC A) (by rw [PC_len, hA]) (fun j u hu => ?_)
  rw [Addr.add_mid, hB.cell, Nat.zero_add, PC_append, List.append_assoc, List.getElem?_append_left (List.getElem?_eq_some_iff.1 hu).1]
  exact hu

/-- append(s, v...): at the end -/
theorem app_end (rb n : Nat) (R : List (Int × Int)) (vb : Nat) (v : Int × Int) (w : World) (hR : R.length = n) (hB : Blk w rb 68 (PC R)) (hV : Blk w vb 68 (PC [v])) (hl : n ≤ 2000000) :
    ∃ c w', (∀ ty, (Builtin.append_ #[64, 64] ty #[.slice (some ⟨rb, 0, none⟩) n n, .slice (some ⟨vb, 0, none⟩) 1 1]).run Try.prog w = .ok (.slice (some ⟨w.heap.size, 0, none⟩) (n + 1) c) w') ∧ (∃ rest, Blk w' w.heap.size 68 (PC (R ++ [v]) ++ rest) ∧ rest.length + (n + 1) * 2 = c * 2) ∧ FrL [] w w' := by
  obtain ⟨i, hi, hzz⟩ := Option.map_eq_some_iff.1 Try.info68
  simp only [Prod.mk.injEq] at hzz
  obtain ⟨hz, hs, hb⟩ := hzz
  have hsrc : Src Try.prog i.size 64 (.slice (some ⟨vb, 0, none⟩) 1 1) 1 (PC [v]) w := by rw [hs]; exact Src.ofRun hV
  have hold : (Builtin.firstCells i.size n (.slice (some ⟨rb, 0, none⟩) n n)).run Try.prog w.drew = .ok (PC R).toArray w.drew := by
    rw [hs]; exact first_cells rb n n n R [] [] w.drew hR (by simpa using hB.drew)
  have hg := grownCap_ge w (n + 1) n 68
  refine ⟨_, _, fun ty => run_append_grow_src (P := Try.prog) w 64 64 ty 68 i _ Try.underlying64 hi hz _ n n _ hold _ 1 _ hsrc (by omega) (by omega) (by rw [hb]; exact growslice_fits (by omega) (by omega)), ?_, ?_⟩
  · generalize grownCap w (n + 1) n 68 = c at *
    refine ⟨(Builtin.zeroCells (Value.agg #[.int .i64 0, .int .i64 0]).cells (c - (n + 1))).toList, ?_, ?_⟩
    · have := Blk.new w.drew 68 (PC R ++ PC [v] ++ (Builtin.zeroCells (Value.agg #[.int .i64 0, .int .i64 0]).cells (c - (n + 1))).toList)
      have e : (PC R ++ PC [v] ++ (Builtin.zeroCells (Value.agg #[.int .i64 0, .int .i64 0]).cells (c - (n + 1))).toList).toArray = (PC R ++ PC [v]).toArray ++ Builtin.zeroCells (Value.agg #[.int .i64 0, .int .i64 0]).cells (c - (n + 1)) := by
        apply Array.ext'; simp
      rw [e] at this
      rw [PC_append]
      exact this
    · simp [zeroCells_len]; omega
  · exact (FrL.refl [] w).drew.alloc _

/-- append(s[:p], make([]run, n+1-p)...) -/
theorem app_gap (rb n p : Nat) (A C : List (Int × Int)) (w : World) (hA : A.length = p) (hC : p + C.length = n) (hpn : p < n) (hB : Blk w rb 68 (PC (A ++ C))) (hl : n ≤ 2000000) :
    ∃ c w', (∀ ty, (Builtin.append_ #[64, 3] ty #[.slice (some ⟨rb, 0, none⟩) p n, .int .i64 ((n : Int) + 1 - (p : Int))]).run Try.prog w = .ok (.slice (some ⟨w.heap.size, 0, none⟩) (n + 1) c) w') ∧ n + 1 ≤ c ∧ (∃ Z, Blk w' w.heap.size 68 (PC A ++ Z) ∧ Z.length + p * 2 = c * 2) ∧ FrL [] w w' := by
  obtain ⟨i, hi, hzz⟩ := Option.map_eq_some_iff.1 Try.info68
  simp only [Prod.mk.injEq] at hzz
  obtain ⟨hz, hs, hb⟩ := hzz
  have hold : (Builtin.firstCells i.size p (.slice (some ⟨rb, 0, none⟩) p n)).run Try.prog w.drew = .ok (PC A).toArray w.drew := by
    rw [hs]; exact first_cells rb n n p A C [] w.drew hA (by simpa using hB.drew)
  have e1 : (n : Int) + 1 - (p : Int) = ((n + 1 - p : Nat) : Int) := by omega
  have e2 : p + (n + 1 - p) = n + 1 := by omega
  have hg := grownCap_ge w (n + 1) n 68
  have hrun := fun ty => Go.Lib.run_append_grow_zeros (P := Try.prog) w 64 3 ty 68 i _ .i64 .i64 Try.underlying64 Try.underlying3 hi hz (some ⟨rb, 0, none⟩) p n _ hold (n + 1 - p) (by omega) (by omega) (by omega) (by omega) (by rw [hb]; omega) (by rw [hb]; exact growslice_fits (by omega) (by omega))
  rw [e2] at hrun
  rw [e1]
  refine ⟨_, _, hrun, hg, ?_, ?_⟩
  · generalize grownCap w (n + 1) n 68 = c at *
    refine ⟨(Builtin.zeroCells (Value.agg #[.int .i64 0, .int .i64 0]).cells (n + 1 - p)).toList ++ (Builtin.zeroCells (Value.agg #[.int .i64 0, .int .i64 0]).cells (c - (n + 1))).toList, ?_, ?_⟩
    · have := Blk.new w.drew 68 (PC A ++ ((Builtin.zeroCells (Value.agg #[.int .i64 0, .int .i64 0]).cells (n + 1 - p)).toList ++ (Builtin.zeroCells (Value.agg #[.int .i64 0, .int .i64 0]).cells (c - (n + 1))).toList))
      have e : (PC A ++ ((Builtin.zeroCells (Value.agg #[.int .i64 0, .int .i64 0]).cells (n + 1 - p)).toList ++ (Builtin.zeroCells (Value.agg #[.int .i64 0, .int .i64 0]).cells (c - (n + 1))).toList)).toArray = (PC A).toArray ++ Builtin.zeroCells (Value.agg #[.int .i64 0, .int .i64 0]).cells (n + 1 - p) ++ Builtin.zeroCells (Value.agg #[.int .i64 0, .int .i64 0]).cells (c - (n + 1)) := by
        apply Array.ext'; simp
      rw [e] at this
      exact this
    · simp [zeroCells_len]; omega
  · exact (FrL.refl [] w).drew.alloc _

/-- the two copies into the new row -/
theorem gap_cells (p : Nat) (A C : List (Int × Int)) (v : Int × Int) (Z : List Value) (hA : A.length = p) (w : World) (nb : Nat) (hB : Blk w nb 68 (PC A ++ Z)) (hZ : (C.length + 1) * 2 ≤ Z.length) (n : Nat) :
    Blk (w.setCells nb (p * 2) (PC [v])) nb 68 (PC (A ++ [v]) ++ Z.drop 2) ∧ Blk (((w.setCells nb (p * 2) (PC [v])).drew).setCells nb ((p + 1) * 2) (PC C)) nb 68 (PC (A ++ v :: C) ++ Z.drop ((C.length + 1) * 2)) := by
  have hl : (PC A).length = p * 2 := by rw [PC_len, hA]
  have h1 := Blk.setCells (PC [v]) _ (p * 2) w hB (by rw [List.length_append, hl, PC_len]; simp; omega)
  have hv : (PC [v]).length = 2 := rfl
  rw [List.take_append_of_le_length (by omega), List.take_of_length_le (by omega), List.drop_append, List.drop_of_length_le (by rw [hl]; omega), hl, hv, show p * 2 + 2 - p * 2 = 2 by omega, List.nil_append, ← PC_append] at h1
  refine ⟨h1, ?_⟩
  have hl2 : (PC (A ++ [v])).length = (p + 1) * 2 := by rw [PC_len]; simp [hA]
  have h2 := Blk.setCells (PC C) _ ((p + 1) * 2) _ h1.drew (by rw [List.length_append, hl2, PC_len, List.length_drop]; omega)
  rw [List.take_append_of_le_length (by omega), List.take_of_length_le (by omega), List.drop_append, List.drop_of_length_le (by rw [hl2]; omega), hl2, PC_len, show (p + 1) * 2 + C.length * 2 - (p + 1) * 2 = C.length * 2 by omega, List.nil_append, ← PC_append, List.drop_drop, show 2 + C.length * 2 = (C.length + 1) * 2 by omega] at h2
  simpa using h2

set_option maxRecDepth 100000 in
set_option maxHeartbeats 1000000 in
theorem insert_end (rb n vb : Nat) (R : List (Int × Int)) (v : Int × Int) (w : World) (hR : R.length = n) (hB : Blk w rb 68 (PC R)) (hV : Blk w vb 68 (PC [v])) (hl : n ≤ 2000000) :
    Calls Try.prog 59 #[.slice (some ⟨rb, 0, none⟩) n n, .int .i64 (n : Int), .slice (some ⟨vb, 0, none⟩) 1 1] w fun e w' => InsLeft w w' e R v [] := by
  obtain ⟨c, w1, hrun, ⟨rest, hb1, hr⟩, hF⟩ := app_end rb n R vb v w hR hB hV hl
  have HE : Hid (InsLeft w w1 (.returned (.slice (some ⟨w.heap.size, 0, none⟩) (n + 1) c)) R v []) := ⟨_, c, rest, by rw [hR]; rfl, hb1, by rw [hR]; simpa using hr, Nat.le_refl _, hF⟩
  have HR : Hid (∀ ty, (Builtin.append_ #[64, 64] ty #[.slice (some ⟨rb, 0, none⟩) n n, .slice (some ⟨vb, 0, none⟩) 1 1]).run Try.prog w = .ok (.slice (some ⟨w.heap.size, 0, none⟩) (n + 1) c) w1) := hrun
  clear hrun hb1 hr hF hB hV hR
  have hS := slice64_l rb n n n (Nat.le_refl _)
  have hne : ((n : Int) == (n : Int)) = true := by simp
  rw [if_pos rfl] at hS
  go_enter Try.func59, Try.ntmps59
  go_wp2_with (refine wpList_append_run rfl _ _ 64 rfl _ _ rfl rfl _ _ HR.out ?_)
  go_ret
  exact HE.out

set_option maxRecDepth 100000 in
set_option maxHeartbeats 2000000 in
theorem insert_walk (rb n p vb c nb q1 q2 q3 q4 q5 o1 o2 cl : Nat) (w w1 w2 w3 : World) (hpn : p < n) (hc : n + 1 ≤ c) (hl : n ≤ 2000000)
    (HR : Hid (∀ ty, (Builtin.append_ #[64, 3] ty #[.slice (some ⟨rb, 0, none⟩) p n, .int .i64 ((n : Int) + 1 - (p : Int))]).run Try.prog w = .ok (.slice (some ⟨nb, 0, none⟩) (n + 1) c) w1))
    (HC1 : Hid (∀ ty, (Builtin.copy_ #[64, 64] ty #[.slice (some ⟨nb, o1, none⟩) q1 q4, .slice (some ⟨vb, 0, none⟩) 1 1]).run Try.prog w1 = .ok (goInt 1) w2))
    (HC2 : Hid (∀ ty, (Builtin.copy_ #[64, 64] ty #[.slice (some ⟨nb, o2, none⟩) q2 q5, .slice (some ⟨rb, o1, none⟩) q3 q3]).run Try.prog w2.drew = .ok (goInt cl) w3))
    (hS0 : ∀ w, (Instr.slice 64 (.slice (some ⟨rb, 0, none⟩) n n) (some (.int .i64 (p : Int))) none none).run Try.prog w = .ok (.slice (some ⟨rb, o1, none⟩) q3 q3) w)
    (hS1 : ∀ w, (Instr.slice 64 (.slice (some ⟨rb, 0, none⟩) n n) none (some (.int .i64 (p : Int))) none).run Try.prog w = .ok (.slice (some ⟨rb, 0, none⟩) p n) w)
    (hS2 : ∀ w, (Instr.slice 64 (.slice (some ⟨nb, 0, none⟩) (n + 1) c) (some (.int .i64 (p : Int))) none none).run Try.prog w = .ok (.slice (some ⟨nb, o1, none⟩) q1 q4) w)
    (hS3 : ∀ w, (Instr.slice 64 (.slice (some ⟨nb, 0, none⟩) (n + 1) c) (some (.int .i64 ((p : Int) + 1))) none none).run Try.prog w = .ok (.slice (some ⟨nb, o2, none⟩) q2 q5) w) :
    Calls Try.prog 59 #[.slice (some ⟨rb, 0, none⟩) n n, .int .i64 (p : Int), .slice (some ⟨vb, 0, none⟩) 1 1] w fun e w' => e = .returned (.slice (some ⟨nb, 0, none⟩) (n + 1) c) ∧ w' = w3 := by
  have hne : ((p : Int) == (n : Int)) = false := by simp; omega
  have hw1 : IntKind.i64.wrap ((p : Int) + 1) = (p : Int) + 1 := by rw [IntKind.wrap_i64]; omega
  go_enter Try.func59, Try.ntmps59
  go_upto_region 10 with (at_builtin; refine wpList_append2_run rfl _ _ 64 3 rfl _ _ rfl rfl _ _ HR.out ?_)
  go_upto_region 11 with (refine wpList_copy_run rfl _ _ 64 rfl _ _ rfl rfl _ _ HC1.out ?_)
  refine wp_region_any (by kernel_rfl) ?_
  change wpAny _ _ _ _ _ _ _ (World.drew _)
  refine wpAny_take (i := 0) (v := ?va0) rfl (by kernel_rfl) (by kernel_rfl) (by kernel_rfl) (fun _ _ _ h => h) (Or.inl ⟨by rfl, ?hya0⟩) ?ra0
  case hya0 => (intro wz; go_simp; try with_reducible rfl)
  simp only [Act.put, List.getElem_toArray, List.getElem_cons_zero, List.getElem_cons_succ, List.setIfInBounds_toArray, List.set_cons_zero, List.set_cons_succ]
  refine wpAny_take (i := 1) (v := ?va1) rfl (by kernel_rfl) (by kernel_rfl) (by kernel_rfl) (fun _ _ _ h => h) (Or.inl ⟨by rfl, ?hya1⟩) ?ra1
  case hya1 => (intro wz; go_simp; try with_reducible rfl)
  simp only [Act.put, List.getElem_toArray, List.getElem_cons_zero, List.getElem_cons_succ, List.setIfInBounds_toArray, List.set_cons_zero, List.set_cons_succ]
  refine wpAny_take (i := 2) (v := ?va2) rfl (by kernel_rfl) (by kernel_rfl) (by kernel_rfl) (fun _ _ _ h => h) (Or.inl ⟨by rfl, ?hya2⟩) ?ra2
  case hya2 => (intro wz; go_simp; try with_reducible rfl)
  simp only [Act.put, List.getElem_toArray, List.getElem_cons_zero, List.getElem_cons_succ, List.setIfInBounds_toArray, List.set_cons_zero, List.set_cons_succ]
  refine wpAny_take (i := 3) (v := ?va3) rfl (by kernel_rfl) (by kernel_rfl) (by kernel_rfl) (fun _ _ _ h => h) (Or.inl ⟨by rfl, ?hya3⟩) ?ra3
  case hya3 => (intro wz; go_simp; try with_reducible rfl)
  simp only [Act.put, List.getElem_toArray, List.getElem_cons_zero, List.getElem_cons_succ, List.setIfInBounds_toArray, List.set_cons_zero, List.set_cons_succ]
  refine wpAny_take (i := 4) (v := ?va4) rfl (by kernel_rfl) (by kernel_rfl) (by kernel_rfl) (fun _ _ _ h => h) (Or.inl ⟨by rfl, ?hya4⟩) ?ra4
  case hya4 => (intro wz; go_simp; try with_reducible rfl)
  simp only [Act.put, List.getElem_toArray, List.getElem_cons_zero, List.getElem_cons_succ, List.setIfInBounds_toArray, List.set_cons_zero, List.set_cons_succ]
  refine wpAny_take (i := 5) (v := ?va5) rfl (by kernel_rfl) (by kernel_rfl) (by kernel_rfl) (fun _ _ _ h => h) (Or.inl ⟨by rfl, ?hya5⟩) ?ra5
  case hya5 => (intro wz; go_simp; try with_reducible rfl)
  simp only [Act.put, List.getElem_toArray, List.getElem_cons_zero, List.getElem_cons_succ, List.setIfInBounds_toArray, List.set_cons_zero, List.set_cons_succ]
  refine wpAny_take (i := 6) (v := ?va6) rfl (by kernel_rfl) (by kernel_rfl) (by kernel_rfl) (fun _ _ _ h => h) (Or.inl ⟨by rfl, ?hya6⟩) ?ra6
  case hya6 => (intro wz; go_simp; try with_reducible rfl)
  simp only [Act.put, List.getElem_toArray, List.getElem_cons_zero, List.getElem_cons_succ, List.setIfInBounds_toArray, List.set_cons_zero, List.set_cons_succ]
  refine wpAny_take (i := 7) (v := ?va7) rfl (by kernel_rfl) (by kernel_rfl) (by kernel_rfl) (fun _ _ _ h => h) (Or.inl ⟨by rfl, ?hya7⟩) ?ra7
  case hya7 => (intro wz; go_simp; try with_reducible rfl)
  simp only [Act.put, List.getElem_toArray, List.getElem_cons_zero, List.getElem_cons_succ, List.setIfInBounds_toArray, List.set_cons_zero, List.set_cons_succ]
  refine wpAny_one (i := 8) (by kernel_rfl) rfl rfl (fun K hK => ?_)
  refine wp_copy_run _ _ 64 rfl _ _ rfl rfl _ _ HC2.out ?_
  go_simp
  refine hK _ _ ?_
  clear hK K
  refine wpAny_done (by kernel_rfl) ?_ _
  go_wp2_with fail
  go_ret
  exact ⟨rfl, rfl⟩

theorem insert_mid (rb n p vb : Nat) (A C : List (Int × Int)) (v : Int × Int) (w : World) (hA : A.length = p) (hC : p + C.length = n) (hpn : p < n) (hB : Blk w rb 68 (PC (A ++ C))) (hV : Blk w vb 68 (PC [v])) (hl : n ≤ 2000000) :
    Calls Try.prog 59 #[.slice (some ⟨rb, 0, none⟩) n n, .int .i64 (p : Int), .slice (some ⟨vb, 0, none⟩) 1 1] w fun e w' => InsLeft w w' e A v C := by
  obtain ⟨c, w1, hrun, hc, ⟨Z, hb1, hZ⟩, hF⟩ := app_gap rb n p A C w hA hC hpn hB hl
  obtain ⟨g1, g2⟩ := gap_cells p A C v Z hA w1 w.heap.size hb1 (by omega) n
  have hB1 := hF.blk hB (by simp)
  have hV1 := hF.blk hV (by simp)
  have hrbn : rb ≠ w.heap.size := Nat.ne_of_lt hB.lt
  have hS0 := slice64_l rb n n p (by omega)
  rw [if_neg (by omega)] at hS0
  have hS1 := slice64_h rb n n p (by omega)
  have hS2 := slice64_l w.heap.size (n + 1) c p (by omega)
  rw [if_neg (by omega)] at hS2
  have hS3 := slice64_l w.heap.size (n + 1) c (p + 1) (by omega)
  rw [if_neg (by omega)] at hS3
  simp only [Int.natCast_add, Int.natCast_one, Int.cast_ofNat_Int] at hS3
  refine (insert_walk rb n p vb c w.heap.size _ _ _ _ _ _ _ C.length w w1 (w1.setCells w.heap.size (p * 2) (PC [v])) (((w1.setCells w.heap.size (p * 2) (PC [v])).drew).setCells w.heap.size ((p + 1) * 2) (PC C)) hpn hc hl hrun (fun ty => ?_) (fun ty => ?_) hS0 hS1 hS2 hS3).mono ?_
  · refine copy64 w.heap.size (p * 2) _ _ _ 1 1 [v] w1 ?_ (fun j u hu => ?_) _ hb1 (by rw [List.length_append, PC_len, hA]; simp; omega) ty
    · show _ = min _ _
      rw [Nat.min_eq_left (by omega)]; rfl
    · rw [Addr.add_mid, hV1.cell, Nat.zero_add]; exact hu
  · refine copy64 w.heap.size ((p + 1) * 2) _ _ _ _ _ C _ ?_ (fun j u hu => ?_) _ g1.drew (by rw [List.length_append, PC_len, List.length_append, hA, List.length_drop]; simp; omega) ty
    · show _ = min _ _
      rw [Nat.min_eq_left (by omega)]; omega
    · have hB2 : Blk ((w1.setCells w.heap.size (p * 2) (PC [v])).drew) rb 68 (PC (A ++ C)) := by
        refine Blk.drew ?_
        unfold Blk; rw [setCells_other hrbn]; exact hB1
      rw [Addr.add_mid, hB2.cell, PC_append, List.getElem?_append_right (by rw [PC_len, hA]; omega), PC_len, hA, show p * 2 + j - p * 2 = j by omega]
      exact hu
  · rintro e w' ⟨rfl, rfl⟩
    refine ⟨_, c, _, by rw [hA, show p + 1 + C.length = n + 1 by omega], g2, by rw [List.length_drop, hA]; omega, Nat.le_refl _, ?_⟩
    have hG := ((FrL.refl [w.heap.size] w1).setCells (b := w.heap.size) (by simp) (p * 2) (PC [v])).drew.setCells (b := w.heap.size) (by simp) ((p + 1) * 2) (PC C)
    refine ⟨hG.os.trans hF.os, hG.tape.trans hF.tape, hG.output.trans hF.output, Nat.le_trans hF.size hG.size, fun b hb _ => ?_⟩
    rw [hG.block b (Nat.lt_of_lt_of_le hb hF.size) (by simp; omega)]
    exact hF.block b hb (by simp)
end Go.Proofs.Qxb6600404a
