import Derived.Test.Qxb6601170aValid
namespace Go.Proofs.Qxb6601170a
open Go.RowKit
set_option linter.unusedVariables false
set_option linter.unusedSimpArgs false

theorem World.heap_size_alloc' (w : World) (o : Obj) : (w.alloc o).heap.size = w.heap.size + 1 := by simp
/-- the cells of a schedule -/
def schedCells (la : Int) (a : Option Addr) (n c : Nat) (ru : Int) : List Value := [.int .i64 la, .slice a n c, .int .i64 ru]

set_option maxHeartbeats 400000 in
theorem period_any (la : Int) (a : Option Addr) (n c : Nat) (ru : Int) (w : World) (hn : n ≤ 2000000) :
    Calls Try.prog 42 #[.agg (schedCells la a n c ru).toArray] w fun e w' => e = .returned (.int .i64 n) ∧ Below w.heap.size w w' := by
  unfold schedCells
  go_enter Try.func42, Try.ntmps42
  go_wp2
  go_ret
  exact ⟨rfl, (Below.refl _ _).alloc (Nat.le_refl _) _⟩

theorem size45 (la : Int) (a : Option Addr) (n c : Nat) (ru : Int) : (Try.prog.info? 45).map (·.size) = some (schedCells la a n c ru).length := by kernel_rfl
theorem range45 {w : World} {b : Nat} {e : TypeId} {cs : List Value} (h : Blk w b e cs) : w.rangeAt b 0 cs := fun j v hv => by rw [h.cell, Nat.zero_add]; exact hv
theorem res26 (tmps : Array Value) (w : World) (b : Nat) (la : Int) (a : Option Addr) (n c : Nat) (ru : Int) (h6 : tmps.getD 6 undef = .pointer (some ⟨b, 0, none⟩)) (hr : Blk w b 45 (schedCells la a n c ru)) :
    (results Try.f26 tmps).run Try.prog w = .ok (.agg (schedCells la a n c ru).toArray) w := by
  have hl := run_loadVar_mid (P := Try.prog) w b 0 45 (schedCells la a n c ru) _ (range45 hr) Try.underlying45 rfl (size45 la a n c ru)
  have hre : Try.f26.results = #[.cell 6 45] := rfl
  have h6' : tmps[6]?.getD undef = .pointer (some ⟨b, 0, none⟩) := by simpa using h6
  simp [results, hre, h6', asAddr, hl, Result.andThen]
theorem res44 (tmps : Array Value) (w : World) (b : Nat) (la : Int) (a : Option Addr) (n c : Nat) (ru : Int) (h6 : tmps.getD 2 undef = .pointer (some ⟨b, 0, none⟩)) (hr : Blk w b 45 (schedCells la a n c ru)) :
    (results Try.f44 tmps).run Try.prog w = .ok (.agg (schedCells la a n c ru).toArray) w := by
  have hl := run_loadVar_mid (P := Try.prog) w b 0 45 (schedCells la a n c ru) _ (range45 hr) Try.underlying45 rfl (size45 la a n c ru)
  have hre : Try.f44.results = #[.cell 2 45] := rfl
  have h6' : tmps[2]?.getD undef = .pointer (some ⟨b, 0, none⟩) := by simpa using h6
  simp [results, hre, h6', asAddr, hl, Result.andThen]

set_option maxHeartbeats 400000 in
theorem make26 (la : Int) (a : Option Addr) (n c : Nat) (ru : Int) (w : World) :
    Calls Try.prog 26 #[.int .i64 la, .slice a n c, .int .i64 ru] w fun e w' => e = .returned (.agg (schedCells la a n c ru).toArray) ∧ Below w.heap.size w w' := by
  unfold schedCells
  go_enter Try.func26, Try.ntmps26
  go_wp2
  refine bodyPost_ret (v := .agg (schedCells la a n c ru).toArray) (res26 _ _ w.heap.size la a n c ru rfl (Blk.new w 45 (schedCells la a n c ru))) rfl ?_
  exact ⟨rfl, (Below.refl _ _).alloc (Nat.le_refl _) _⟩
set_option maxHeartbeats 400000 in
theorem source44 (la : Int) (a : Option Addr) (n c : Nat) (ru : Int) (w : World) :
    Calls Try.prog 44 #[.agg (schedCells la a n c ru).toArray] w fun e w' => e = .returned (.agg (schedCells la a n c 0).toArray) ∧ Below w.heap.size w w' := by
  unfold schedCells
  go_enter Try.func44, Try.ntmps44
  go_wp2
  refine bodyPost_ret (v := .agg (schedCells la a n c 0).toArray) (res44 _ _ (w.heap.size + 1) la a n c 0 rfl ?_) rfl ?_
  · have := Blk.new (w.alloc (.cells (schedCells la a n c 0).toArray 45)) 45 (schedCells la a n c 0)
    rw [World.heap_size_alloc'] at this; exact this
  · exact ⟨rfl, ((Below.refl _ _).alloc (Nat.le_refl _) _).alloc (by simp) _⟩
/-- the cells of an overlay -/
def overCells (la : Int) (a : Option Addr) (n c : Nat) (ru : Int) (s1 : Option Addr) (n1 c1 : Nat) (s2 : Option Addr) (n2 c2 : Nat) (s3 : Option Addr) (n3 c3 : Nat) : List Value := [.int .i64 la, .slice a n c, .int .i64 ru, .slice s1 n1 c1, .slice s2 n2 c2, .slice s3 n3 c3]
set_option maxHeartbeats 400000 in
theorem new36 (la : Int) (a : Option Addr) (n c : Nat) (ru : Int) (s1 s2 s3 : Option Addr) (n1 c1 n2 c2 n3 c3 : Nat) (w : World) :
    Calls Try.prog 36 #[.agg (schedCells la a n c ru).toArray, .slice s1 n1 c1, .slice s2 n2 c2, .slice s3 n3 c3] w fun e w' => ∃ b, e = .returned (.pointer (some ⟨b, 0, none⟩)) ∧ Blk w' b 65 (overCells la a n c ru s1 n1 c1 s2 n2 c2 s3 n3 c3) ∧ w.heap.size ≤ b ∧ Below w.heap.size w w' := by
  unfold schedCells
  go_enter Try.func36, Try.ntmps36
  go_wp2
  go_ret
  refine ⟨w.heap.size + 1, rfl, ?_, by omega, ((Below.refl _ _).alloc (Nat.le_refl _) _).alloc (by simp) _⟩
  have := Blk.new (w.alloc (.cells (schedCells la a n c ru).toArray 45)) 65 (overCells la a n c ru s1 n1 c1 s2 n2 c2 s3 n3 c3)
  rw [World.heap_size_alloc'] at this; exact this

/-- the colour that a step pushes -/
def stepCol (n : Nat) (ru mu step : Int) : Int := if step = (n : Int) ∨ ru = 1 then mu else step

set_option maxHeartbeats 1000000 in
theorem step_any (la : Int) (a : Option Addr) (c : Nat) (ru : Int) (vec : List Int) (mu : Int) (k : Nat) (w : World) (h : SI .i64 w a vec) (hn : vec.length ≤ 2000000) (hk : k < vec.length) :
    Calls Try.prog 45 #[.agg (schedCells la a vec.length c ru).toArray, .int .i64 ((k : Int) + 1), .int .i64 mu] w fun e w' => e = .returned (.tuple #[.int .i64 (stepCol vec.length ru mu ((k : Int) + 1)), .int .i64 (vec.getD k 0)]) ∧ Below w.heap.size w w' := by
  obtain ⟨b, off, rfl, hb⟩ := h.addr (by omega)
  have hc0 := h.cell hk
  have hc : (w.alloc (.cells #[.int .i64 la, .slice (some ⟨b, off, none⟩) vec.length c, .int .i64 ru] 45)).cell? ⟨b, off + k, none⟩ = some (.int .i64 (vec.getD k 0)) := by
    rw [((Below.refl w.heap.size w).alloc (Nat.le_refl _) _).cell (p := ⟨b, off + k, none⟩) hb]; exact hc0
  obtain ⟨x, hx⟩ : ∃ x, x = vec.getD k 0 := ⟨_, rfl⟩
  rw [← hx] at hc ⊢
  clear hx h hc0
  have HC : Hid (stepCol vec.length ru mu ((k : Int) + 1) = if (k : Int) + 1 = (vec.length : Int) ∨ ru = 1 then mu else (k : Int) + 1) := rfl
  generalize stepCol vec.length ru mu ((k : Int) + 1) = col at *
  generalize vec.length = n at *
  unfold schedCells
  have i1 : (k : Int) < (n : Int) := by omega
  have ek : (k : Int) + 1 - 1 = k := by omega
  by_cases q1 : (k : Int) + 1 = (n : Int)
  · have hcol : col = mu := by rw [HC.out, if_pos (.inl q1)]
    subst hcol
    have q1' : ((k : Int) + 1 == (n : Int)) = true := by simpa using q1
    clear HC q1
    go_enter Try.func45, Try.ntmps45
    go_wp2
    go_quiet (fail)
    go_wp2
    go_ret2
    exact ⟨rfl, below_drewN ((Below.refl _ _).alloc (Nat.le_refl _) _) _⟩
  have q1' : ((k : Int) + 1 == (n : Int)) = false := by simpa using q1
  by_cases q2 : ru = 1
  · have hcol : col = mu := by rw [HC.out, if_pos (.inr q2)]
    subst hcol q2
    clear HC q1
    go_enter Try.func45, Try.ntmps45
    go_wp2
    go_quiet (fail)
    go_wp2
    go_ret2
    exact ⟨rfl, below_drewN ((Below.refl _ _).alloc (Nat.le_refl _) _) _⟩
  · have hcol : col = (k : Int) + 1 := by rw [HC.out, if_neg (by intro h; rcases h with h | h; exact q1 h; exact q2 h)]
    subst hcol
    have q2' : (ru == 1) = false := by simpa using q2
    clear HC q1 q2
    go_enter Try.func45, Try.ntmps45
    go_wp2
    go_quiet (fail)
    go_wp2
    go_ret2
    exact ⟨rfl, below_drewN ((Below.refl _ _).alloc (Nat.le_refl _) _) _⟩

/-- the colour that the law's own text gives -/
def pushCol (n : Nat) (ru own : Int) (src : Bool) (step : Int) : Int := if src = false ∧ ru = 1 then own else if step = (n : Int) then own else step
set_option maxHeartbeats 400000 in
theorem push38 (n : Nat) (ru own : Int) (src : Bool) (step : Int) (w : World) :
    Calls Try.prog 38 #[.int .i64 n, .int .i64 ru, .int .i64 own, .bool src, .int .i64 step] w fun e w' => e = .returned (.int .i64 (pushCol n ru own src step)) ∧ w' = w := by
  have HC : Hid (pushCol n ru own src step = if src = false ∧ ru = 1 then own else if step = (n : Int) then own else step) := rfl
  generalize pushCol n ru own src step = col at *
  by_cases q : step = (n : Int)
  · have q' : (step == (n : Int)) = true := by simpa using q
    have hcol : col = own := by rw [HC.out]; simp [q]
    subst hcol
    clear HC q
    cases src
    · by_cases r : ru = 1
      · subst r
        go_enter Try.func38, Try.ntmps38
        go_wp2
        go_ret
        exact ⟨rfl, rfl⟩
      · have r' : (ru == 1) = false := by simpa using r
        go_enter Try.func38, Try.ntmps38
        go_wp2
        go_ret
        exact ⟨rfl, rfl⟩
    · go_enter Try.func38, Try.ntmps38
      go_wp2
      go_ret
      exact ⟨rfl, rfl⟩
  · have q' : (step == (n : Int)) = false := by simpa using q
    cases src
    · by_cases r : ru = 1
      · have hcol : col = own := by rw [HC.out]; simp [r]
        subst hcol r
        clear HC q
        go_enter Try.func38, Try.ntmps38
        go_wp2
        go_ret
        exact ⟨rfl, rfl⟩
      · have r' : (ru == 1) = false := by simpa using r
        have hcol : col = step := by rw [HC.out]; simp [r, q]
        subst hcol
        clear HC q
        go_enter Try.func38, Try.ntmps38
        go_wp2
        go_ret
        exact ⟨rfl, rfl⟩
    · have hcol : col = step := by rw [HC.out]; simp [q]
      subst hcol
      clear HC q
      go_enter Try.func38, Try.ntmps38
      go_wp2
      go_ret
      exact ⟨rfl, rfl⟩
end Go.Proofs.Qxb6601170a
