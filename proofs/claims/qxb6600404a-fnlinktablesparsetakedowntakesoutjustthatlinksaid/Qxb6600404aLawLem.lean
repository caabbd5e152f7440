import Derived.Test.Qxb6600404aGetT
import Derived.Deep.DeepCutAuto
import Derived.LaidEqlPtr
namespace Go.Proofs.Qxb6600404a
open Go.RowKit
set_option linter.unusedVariables false

theorem equalInts_eq (a b : Option Addr) (n1 n2 ca cb : Nat) (zs : List Int) (w : World) (ha : SI .i64 w a zs) (hb : SI .i64 w b zs) (hl : zs.length ≤ 2000000) (e1 : n1 = zs.length) (e2 : n2 = zs.length) :
    Calls Try.prog 16 #[.slice a n1 ca, .slice b n2 cb] w fun e w' => e = .returned (.bool true) ∧ ∃ n, w' = w.drewN n := by
  subst e1 e2; exact equalInts_same a b ca cb zs w ha hb hl
theorem equalBytes_eq (a b : Option Addr) (n1 n2 ca cb : Nat) (zs : List Int) (w : World) (ha : SI .u8 w a zs) (hb : SI .u8 w b zs) (hl : zs.length ≤ 2000000) (e1 : n1 = zs.length) (e2 : n2 = zs.length) :
    Calls Try.prog 25 #[.slice a n1 ca, .slice b n2 cb] w fun e w' => e = .returned (.bool true) ∧ ∃ n, w' = w.drewN n := by
  subst e1 e2; exact equalBytes_same a b ca cb zs w ha hb hl

/-- the look-up of a kept peer's place -/
theorem indexAt (tb : Nat) (pa : Option Addr) (pc : Nat) (ka : Option Addr) (kc mb : Nat) (ra : Option Addr) (rc : Nat) (ps ts lo hi : List Int) (u : Int) (w : World) (h : TBL w tb pa pc ka kc mb ra rc ps ts lo hi u) (k : Nat) (hk : k < ps.length) (x : Int) (hx : x = ps.getD k 0) (hw : (Lit.int .i64 x).wf = true) :
    Calls Try.prog 40 #[.pointer (some ⟨tb, 0, none⟩), .int .i64 x] w fun e w' => e = .returned (.tuple #[.int .i64 k, .bool true]) ∧ w' = w := by
  obtain ⟨f, h1, h2⟩ := h.idx
  have := indexOfT_any tb mb ps.length f x w (TBL.cells h.tab).2.2.1 h1 hw
  rw [hx, h2.1 k hk] at this
  rw [hx]
  exact this
theorem indexNot (tb : Nat) (pa : Option Addr) (pc : Nat) (ka : Option Addr) (kc mb : Nat) (ra : Option Addr) (rc : Nat) (ps ts lo hi : List Int) (u : Int) (w : World) (h : TBL w tb pa pc ka kc mb ra rc ps ts lo hi u) (x : Int) (hx : x ∉ ps) (hw : (Lit.int .i64 x).wf = true) :
    Calls Try.prog 40 #[.pointer (some ⟨tb, 0, none⟩), .int .i64 x] w fun e w' => e = .returned (.tuple #[.int .i64 0, .bool false]) ∧ w' = w := by
  obtain ⟨f, h1, h2⟩ := h.idx
  have := indexOfT_any tb mb ps.length f x w (TBL.cells h.tab).2.2.1 h1 hw
  rw [h2.2 x hx] at this
  exact this
theorem indexLenT (tb : Nat) (pa : Option Addr) (pc : Nat) (ka : Option Addr) (kc mb : Nat) (ra : Option Addr) (rc : Nat) (ps ts lo hi : List Int) (u : Int) (w : World) (h : TBL w tb pa pc ka kc mb ra rc ps ts lo hi u) :
    Calls Try.prog 39 #[.pointer (some ⟨tb, 0, none⟩)] w fun e w' => e = .returned (.int .i64 ps.length) ∧ w' = w := by
  obtain ⟨f, h1, h2⟩ := h.idx
  exact indexLen_any tb mb ps.length f w (TBL.cells h.tab).2.2.1 h1
theorem keptCopyT (tb : Nat) (pa : Option Addr) (pc : Nat) (ka : Option Addr) (kc mb : Nat) (ra : Option Addr) (rc : Nat) (ps ts lo hi : List Int) (u : Int) (w : World) (h : TBL w tb pa pc ka kc mb ra rc ps ts lo hi u) (k : Nat) (hk : k < ts.length) :
    Calls Try.prog 26 #[.pointer (some ⟨tb, 0, none⟩), .int .i64 k] w fun e w' => e = .returned (.pointer (some ⟨w.heap.size, 0, none⟩)) ∧ Blk w' w.heap.size 83 (linkCells (ts.getD k 0)) ∧ Below w.heap.size w w' ∧ w'.heap.size = w.heap.size + 1 := by
  have hc := (TBL.cells h.tab).2.1
  have hsk := h.kept.sk
  rcases h.kept with ⟨_, h2, _⟩ | ⟨kb, rest, h1, h2, h3⟩
  · subst h2; simp at hk
  subst h1
  rcases hsk with h4 | ⟨kb', e, _, h4⟩
  · subst h4; simp at hk
  cases e
  exact keptCopy_any tb kb ts.length kc k _ w hc hk (fun q hq => h4 k q hk hq)
theorem isZeroB (b : Nat) (w : World) (h : Blk w b 83 (linkCells 0)) :
    Calls Try.prog 28 #[.pointer (some ⟨b, 0, none⟩)] w fun e w' => e = .returned (.bool true) ∧ Below w.heap.size w w' :=
  isZero_any b 0 w (fun q hq => by rw [h.cell, Nat.zero_add]) h.lt

theorem idxFrom_at (zs : List Int) (x : Int) (k : Nat) (hk : k < zs.length) (hx : zs.getD k 0 = x) (hne : ∀ i, i < k → zs.getD i 0 ≠ x) (n : Int) : idxFrom x zs n = n + k := by
  induction zs generalizing k n with
  | nil => simp at hk
  | cons z zs ih =>
    simp only [idxFrom]
    cases k with
    | zero => simp at hx; rw [if_pos hx]; simp
    | succ k =>
      have h0 := hne 0 (by omega)
      simp at h0
      rw [if_neg h0, ih k (by simpa using hk) (by simpa using hx) (fun i hi => by have := hne (i + 1) (by omega); simpa using this)]
      omega
theorem idxOf_at {zs : List Int} (hd : Distinct zs) {x : Int} {k : Nat} (hk : k < zs.length) (hx : zs.getD k 0 = x) : idxOf zs x = k := by
  unfold idxOf
  rw [idxFrom_at zs x k hk hx (fun i hi e => hd i k hi hk (by rw [e, hx])) 0]; simp
theorem idxOf_no {zs : List Int} {x : Int} (h : x ∉ zs) : idxOf zs x = -1 := by
  unfold idxOf
  generalize (0 : Int) = n
  induction zs generalizing n with
  | nil => rfl
  | cons z zs ih =>
    simp only [List.mem_cons, not_or] at h
    simp only [idxFrom]
    rw [if_neg (fun e => h.1 e.symm), ih h.2]
theorem ptr_same (a : Addr) (w : World) : (binOp .eql 40 (.pointer (some a)) (.pointer (some a))).run Try.prog w = .ok (.bool true) w := by
  obtain ⟨i, hi, _⟩ := Option.map_eq_some_iff.1 Try.info83
  exact run_eql_ptr_same w a Try.underlying40 hi
end Go.Proofs.Qxb6600404a
