import Derived.Test.Qxb6600404aRoom
namespace Go.Proofs.Qxb6600404a
open Go.RowKit
set_option linter.unusedVariables false

theorem TBL.cells {w : World} {tb : Nat} {pa : Option Addr} {n pc : Nat} {ka : Option Addr} {m kc : Nat} {mp : Option Nat} {ra : Option Addr} {rn rc : Nat} {u : Int} (h : Blk w tb 74 (tabCells pa n pc ka m kc mp ra rn rc u)) :
    w.cell? ⟨tb, 0, none⟩ = some (.slice pa n pc) ∧ w.cell? ⟨tb, 1, none⟩ = some (.slice ka m kc) ∧ w.cell? ⟨tb, 2, none⟩ = some (.map mp) ∧ w.cell? ⟨tb, 3, none⟩ = some (.slice ra rn rc) ∧ w.cell? ⟨tb, 4, none⟩ = some (.int .i64 u) :=
  ⟨by rw [h.cell]; rfl, by rw [h.cell]; rfl, by rw [h.cell]; rfl, by rw [h.cell]; rfl, by rw [h.cell]; rfl⟩

set_option maxHeartbeats 1000000 in
/-- j is kept at place k -/
theorem get_kept (tb : Nat) (pa : Option Addr) (pc kb kc mb : Nat) (ra : Option Addr) (rc : Nat) (ps ts lo hi : List Int) (u : Int) (w : World) (h : TBL w tb pa pc (some ⟨kb, 0, none⟩) kc mb ra rc ps ts lo hi u) (hlen : ps.length = ts.length) (k : Nat) (hk : k < ps.length) (j : Int) (hj : ps.getD k 0 = j) (hw : (Lit.int .i64 j).wf = true) :
    Calls Try.prog 51 #[.pointer (some ⟨tb, 0, none⟩), .int .i64 j] w fun e w' => e = .returned (.tuple #[.pointer (some ⟨kb, k * 19, none⟩), .bool true]) ∧ w' = w := by
  obtain ⟨c0, c1, c2, c3, c4⟩ := TBL.cells h.tab
  obtain ⟨f, hIM, hIx⟩ := h.idx
  have hlook := hIM.look hw
  have hfj := hIx.1 k hk
  rw [hj] at hfj
  rw [hfj] at hlook
  have hlook' : (Instr.lookup 71 (.map (some mb)) (.int .i64 j) true).run Try.prog w = .ok (.tuple #[.int .i64 k, .bool true]) w := hlook
  have i1 : (k : Int) < (ts.length : Int) := by omega
  have K : Hid (Calls Try.prog 60 #[.pointer (some ⟨tb, 0, none⟩)] w fun e w' => e = .returned (.bool true) ∧ w' = w) := sparse_any tb mb w c2
  clear hlook hfj hIM hIx h hj hw hlen
  go_enter Try.func51, Try.ntmps51
  go_wp2_with fail
  refine K.out.mono ?_
  rintro e w1 ⟨rfl, rfl⟩
  go_wp2_with fail
  go_ret2
  exact ⟨rfl, rfl⟩

set_option maxHeartbeats 1000000 in
/-- j is not kept, and not up -/
theorem get_no (tb : Nat) (pa : Option Addr) (pc : Nat) (ka : Option Addr) (kc mb : Nat) (ra : Option Addr) (rc : Nat) (ps ts lo hi : List Int) (u : Int) (w : World) (h : TBL w tb pa pc ka kc mb ra rc ps ts lo hi u) (j : Int) (hj : j ∉ ps) (hw : (Lit.int .i64 j).wf = true) (hc : Canon lo hi) (hl : lo.length ≤ 2000000) (hup : ¬ InRuns lo hi j) :
    Calls Try.prog 51 #[.pointer (some ⟨tb, 0, none⟩), .int .i64 j] w fun e w' => e = .returned (.tuple #[.pointer none, .bool false]) ∧ Below w.heap.size w w' := by
  obtain ⟨c0, c1, c2, c3, c4⟩ := TBL.cells h.tab
  obtain ⟨f, hIM, hIx⟩ := h.idx
  have hlook := hIM.look hw
  rw [hIx.2 j hj] at hlook
  have hlook' : (Instr.lookup 71 (.map (some mb)) (.int .i64 j) true).run Try.prog w = .ok (.tuple #[.int .i64 0, .bool false]) w := hlook
  have K : Hid (Calls Try.prog 60 #[.pointer (some ⟨tb, 0, none⟩)] w fun e w' => e = .returned (.bool true) ∧ w' = w) := sparse_any tb mb w c2
  have K2 : Hid (Calls Try.prog 55 #[.pointer (some ⟨tb, 3, none⟩), .int .i64 j] w fun e w' => RetIff e (InRuns lo hi j) ∧ Below w.heap.size w w') := has_any tb ra rc lo hi j w c3 (h.runs.sr hc.1) hc hl
  have HU : Hid (¬ InRuns lo hi j) := hup
  clear hlook hIM hIx h hj hw hc hup
  go_enter Try.func51, Try.ntmps51
  go_wp2_with fail
  refine K.out.mono ?_
  rintro e w1 ⟨rfl, rfl⟩
  go_wp2_with fail
  refine K2.out.mono ?_
  rintro e w1 ⟨⟨B, rfl, hB⟩, hbel⟩
  cases B with
  | true => exact absurd (hB.1 rfl) HU.out
  | false =>
    clear hB
    go_wp2_with fail
    go_ret2
    exact ⟨rfl, hbel⟩
end Go.Proofs.Qxb6600404a
