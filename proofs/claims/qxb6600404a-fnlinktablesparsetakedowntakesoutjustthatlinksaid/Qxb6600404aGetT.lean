import Derived.Test.Qxb6600404aGet3
namespace Go.Proofs.Qxb6600404a
open Go.RowKit
set_option linter.unusedVariables false

/-- the clone of the peers: nil, or a row of the call's own -/
theorem clone_any (a : Option Addr) (c : Nat) (zs : List Int) (w : World) (ha : SI .i64 w a zs) (hn : a = none → zs = []) (hl : zs.length ≤ 2000000) :
    Calls Try.prog 21 #[.slice a zs.length c] w fun e w' => ∃ pa, e = .returned (.slice pa zs.length zs.length) ∧ OwnP w' pa zs.length zs ∧ Below w.heap.size w w' := by
  cases a with
  | none =>
    have := hn rfl
    subst this
    refine (clone_nil 0 c w).mono ?_
    rintro e w' ⟨rfl, rfl⟩
    exact ⟨none, rfl, .inl ⟨rfl, rfl, rfl⟩, Below.refl _ _⟩
  | some x =>
    refine (clone_some x c zs w ha hl).mono ?_
    rintro e w' ⟨rfl, hB, hb, _⟩
    exact ⟨_, rfl, .inr ⟨_, [], rfl, by simpa using hB, by simp⟩, hb⟩

/-- what 'get' answers and leaves -/
def GotAny (w w' : World) (e : Ending) (tb mb : Nat) (ra : Option Addr) (rc : Nat) (ps ts lo hi : List Int) (u j : Int) : Prop :=
  ∃ (ptr : Option Addr) (ok : Bool) (pa : Option Addr) (pc : Nat) (ka : Option Addr) (kc : Nat) (ps' ts' : List Int), e = .returned (.tuple #[.pointer ptr, .bool ok]) ∧
    TBL w' tb pa pc ka kc mb ra rc ps' ts' lo hi u ∧ ps'.length = ts'.length ∧ Fr tb mb w w' ∧
    ((ps' = ps ∧ ts' = ts ∧ ok = true ∧ ∃ k kb, k < ps.length ∧ ps.getD k 0 = j ∧ ka = some ⟨kb, 0, none⟩ ∧ ptr = some ⟨kb, k * 19, none⟩) ∨
     (ps' = ps ∧ ts' = ts ∧ ok = false ∧ ptr = none ∧ j ∉ ps ∧ ¬ InRuns lo hi j) ∨
     (ps' = ps ++ [j] ∧ ts' = ts ++ [0] ∧ ok = true ∧ j ∉ ps ∧ InRuns lo hi j ∧ ∃ kb, ka = some ⟨kb, 0, none⟩ ∧ ptr = some ⟨kb, ts.length * 19, none⟩))

theorem Fr.ofBelow {A B : Nat} {w w' : World} (h : Below w.heap.size w w') : Fr A B w w' := ⟨h.os, h.tape, h.output, h.size, fun b hb _ _ => h.block b hb⟩

theorem get_any (tb : Nat) (pa : Option Addr) (ka : Option Addr) (mb : Nat) (ra : Option Addr) (rc : Nat) (ps ts lo hi : List Int) (u : Int) (w : World) (h : TBL w tb pa ps.length ka ts.length mb ra rc ps ts lo hi u) (hlen : ps.length = ts.length) (j : Int) (hw : (Lit.int .i64 j).wf = true) (hc : Canon lo hi) (hl : lo.length ≤ 2000000) (hl2 : ps.length ≤ 1000000) :
    Calls Try.prog 51 #[.pointer (some ⟨tb, 0, none⟩), .int .i64 j] w fun e w' => GotAny w w' e tb mb ra rc ps ts lo hi u j := by
  by_cases hj : j ∈ ps
  · obtain ⟨k, hk, hjk⟩ := mem_getD hj
    have hK := h.kept
    rcases hK with ⟨_, h2, _⟩ | ⟨kb, rest, rfl, h2, h3⟩
    · subst h2; simp at hlen; subst hlen; simp at hk
    refine (get_kept tb pa ps.length kb ts.length mb ra rc ps ts lo hi u w h hlen k hk j hjk hw).mono ?_
    rintro e w' ⟨rfl, rfl⟩
    exact ⟨_, _, pa, _, _, _, ps, ts, rfl, h, hlen, Fr.ofBelow (Below.refl _ _), .inl ⟨rfl, rfl, rfl, k, kb, hk, hjk, rfl, rfl⟩⟩
  · by_cases hup : InRuns lo hi j
    · refine (get_new tb pa ka mb ra rc ps ts lo hi u w h hlen j hj hw hc hl hl2 hup).mono ?_
      rintro e w' ⟨pb, kb, rfl, hT, hF⟩
      exact ⟨_, _, _, _, _, _, ps ++ [j], ts ++ [0], rfl, hT, by simp [hlen], hF, .inr (.inr ⟨rfl, rfl, rfl, hj, hup, kb, rfl, rfl⟩)⟩
    · refine (get_no tb pa ps.length ka ts.length mb ra rc ps ts lo hi u w h j hj hw hc hl hup).mono ?_
      rintro e w' ⟨rfl, hb⟩
      exact ⟨_, _, pa, _, ka, _, ps, ts, rfl, h.below hb, hlen, Fr.ofBelow hb, .inr (.inl ⟨rfl, rfl, rfl, rfl, hj, hup⟩)⟩

set_option maxHeartbeats 400000 in
theorem getT_any (tb : Nat) (pa : Option Addr) (ka : Option Addr) (mb : Nat) (ra : Option Addr) (rc : Nat) (ps ts lo hi : List Int) (u : Int) (w : World) (h : TBL w tb pa ps.length ka ts.length mb ra rc ps ts lo hi u) (hlen : ps.length = ts.length) (j : Int) (hw : (Lit.int .i64 j).wf = true) (hc : Canon lo hi) (hl : lo.length ≤ 2000000) (hl2 : ps.length ≤ 1000000) :
    Calls Try.prog 22 #[.pointer (some ⟨tb, 0, none⟩), .int .i64 j] w fun e w' => GotAny w w' e tb mb ra rc ps ts lo hi u j := by
  have K : Hid (Calls Try.prog 51 #[.pointer (some ⟨tb, 0, none⟩), .int .i64 j] w fun e w' => GotAny w w' e tb mb ra rc ps ts lo hi u j) := get_any tb pa ka mb ra rc ps ts lo hi u w h hlen j hw hc hl hl2
  clear h hlen hw hc hl hl2
  go_enter Try.func22, Try.ntmps22
  go_wp2_with fail
  refine K.out.mono ?_
  rintro e w1 ⟨ptr, ok, pa', pc, ka', kc, ps', ts', rfl, k1, k2, k3, k4⟩
  have K4 : Hid (_) := k4
  clear k4
  have K1 : Hid (_) := k1
  have K2 : Hid (_) := k2
  have K3 : Hid (_) := k3
  clear k1 k2 k3
  go_wp2_with fail
  go_ret2
  exact ⟨ptr, ok, pa', pc, ka', kc, ps', ts', rfl, K1.out, K2.out, K3.out, K4.out⟩

set_option maxHeartbeats 400000 in
theorem getT_kept (tb : Nat) (pa : Option Addr) (pc kb kc mb : Nat) (ra : Option Addr) (rc : Nat) (ps ts lo hi : List Int) (u : Int) (w : World) (h : TBL w tb pa pc (some ⟨kb, 0, none⟩) kc mb ra rc ps ts lo hi u) (hlen : ps.length = ts.length) (k : Nat) (hk : k < ps.length) (j : Int) (hj : ps.getD k 0 = j) (hw : (Lit.int .i64 j).wf = true) :
    Calls Try.prog 22 #[.pointer (some ⟨tb, 0, none⟩), .int .i64 j] w fun e w' => e = .returned (.tuple #[.pointer (some ⟨kb, k * 19, none⟩), .bool true]) ∧ w' = w := by
  have K : Hid (Calls Try.prog 51 #[.pointer (some ⟨tb, 0, none⟩), .int .i64 j] w fun e w' => e = .returned (.tuple #[.pointer (some ⟨kb, k * 19, none⟩), .bool true]) ∧ w' = w) := get_kept tb pa pc kb kc mb ra rc ps ts lo hi u w h hlen k hk j hj hw
  clear h hlen hw hk hj
  go_enter Try.func22, Try.ntmps22
  go_wp2_with fail
  refine K.out.mono ?_
  rintro e w1 ⟨rfl, rfl⟩
  go_wp2_with fail
  go_ret2
  exact ⟨rfl, rfl⟩

/-- 'copy(zzc, s)' into a row that was made for it -/
theorem copy34 (x : Addr) (c : Nat) (ts : List Int) (w : World) (ha : SI .u8 w (some x) ts) (ty : TypeId) :
    (Builtin.copy_ #[34, 34] ty #[.slice (some ⟨w.heap.size, 0, none⟩) ts.length ts.length, .slice (some x) ts.length c]).run Try.prog (w.alloc (.cells (zr (.int .u8 0) ts.length).toArray 5)) = .ok (.int .i64 ts.length) ((w.alloc (.cells (zr (.int .u8 0) ts.length).toArray 5)).setRow w.heap.size (ints .u8 ts).toArray) := by
  have hB := Blk.new w 5 (zr (.int .u8 0) ts.length)
  have := run_copy_row (P := Try.prog) (w.alloc (.cells (zr (.int .u8 0) ts.length).toArray 5)) 34 34 ty 5 w.heap.size 0 ts.length ts.length x ts.length c (zr (.int .u8 0) ts.length).toArray 5 (ints .u8 ts) Try.underlying34 (by kernel_rfl) hB (by rw [ints_len]; simp) ?_ (by simp [ints_len, zr_len]) (ints_one _ _)
  · rw [this, ints_len]
    simp [zr_len, List.drop_of_length_le, goInt]
  · intro j v hv
    rcases ha with rfl | ⟨b, o, e, hlt, hc⟩
    · simp [ints] at hv
    · cases e
      have hj : j < ts.length := by have := (List.getElem?_eq_some_iff.1 hv).1; rwa [ints_len] at this
      rw [Addr.add_mid, World.cell?_of_block (w := w) (a := ⟨b, o + j, none⟩) (Below.heap_alloc w _ b hlt), hc j hj]
      rw [← hv]
      simp [ints, hj]
theorem copy22 (x : Addr) (c : Nat) (ts : List Int) (w : World) (ha : SI .i64 w (some x) ts) (ty : TypeId) :
    (Builtin.copy_ #[22, 22] ty #[.slice (some ⟨w.heap.size, 0, none⟩) ts.length ts.length, .slice (some x) ts.length c]).run Try.prog (w.alloc (.cells (zr (.int .i64 0) ts.length).toArray 3)) = .ok (.int .i64 ts.length) ((w.alloc (.cells (zr (.int .i64 0) ts.length).toArray 3)).setRow w.heap.size (ints .i64 ts).toArray) := by
  have hB := Blk.new w 3 (zr (.int .i64 0) ts.length)
  have := run_copy_row (P := Try.prog) (w.alloc (.cells (zr (.int .i64 0) ts.length).toArray 3)) 22 22 ty 3 w.heap.size 0 ts.length ts.length x ts.length c (zr (.int .i64 0) ts.length).toArray 3 (ints .i64 ts) Try.underlying22 (by kernel_rfl) hB (by rw [ints_len]; simp) ?_ (by simp [ints_len, zr_len]) (ints_one _ _)
  · rw [this, ints_len]
    simp [zr_len, List.drop_of_length_le, goInt]
  · intro j v hv
    rcases ha with rfl | ⟨b, o, e, hlt, hc⟩
    · simp [ints] at hv
    · cases e
      have hj : j < ts.length := by have := (List.getElem?_eq_some_iff.1 hv).1; rwa [ints_len] at this
      rw [Addr.add_mid, World.cell?_of_block (w := w) (a := ⟨b, o + j, none⟩) (Below.heap_alloc w _ b hlt), hc j hj]
      rw [← hv]
      simp [ints, hj]
theorem nq34 (w : World) (a : Option Addr) (n c n' c' : Nat) : (binOp .neq 34 (.slice a n c) (.slice none n' c')).run Try.prog w = .ok (.bool !a.isNone) w := run_neq_slice_nil_any w _ _ a n c n' c' Try.underlying34
theorem nq22 (w : World) (a : Option Addr) (n c n' c' : Nat) : (binOp .neq 22 (.slice a n c) (.slice none n' c')).run Try.prog w = .ok (.bool !a.isNone) w := run_neq_slice_nil_any w _ _ a n c n' c' Try.underlying22
end Go.Proofs.Qxb6600404a
