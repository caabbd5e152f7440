import Derived.Test.Qxb6600404aPl7
namespace Go.Proofs.Qxb6600404a
open Go.RowKit
set_option linter.unusedVariables false

theorem canS_sum {lo hi : List Int} {u : Int} (h : CanS lo hi u) : SumAt lo hi lo.length u := by
  have : ∀ k, k ≤ lo.length → SumAt lo hi k (tot lo hi k) := by
    intro k
    induction k with
    | zero => intro _; exact .zero lo hi
    | succ k ih =>
      intro hk
      have hb := h.1.2.1 k (by omega)
      have := (ih (by omega)).step rfl rfl hb.2.2 hb.1 (fun h0 => by
        have := h.1.2.2 (k - 1) (by omega)
        rwa [show k - 1 + 1 = k by omega] at this)
      exact this
  have := this lo.length (Nat.le_refl _)
  rwa [h.2] at this
theorem canS_u0 {lo hi : List Int} {u : Int} (h : CanS lo hi u) : 0 ≤ u := (canS_sum h).2.1
theorem canS_u1 {lo hi : List Int} {u : Int} (h : CanS lo hi u) : u ≤ 2305843009213693950 := (canS_sum h).le (Nat.le_refl _) h.1.2.1

theorem took_facts {ps ts lo hi : List Int} {u j : Int} {ok : Bool} {t : Int} {ps' ts' lo' hi' : List Int} {u' : Int} (hc : CanS lo hi u) (hlen : ps.length = ts.length) (hd : Distinct ps) (hw : ∀ z ∈ ps, (Lit.int .i64 z).wf = true) (h : TookCase ps ts lo hi u j ok t ps' ts' lo' hi' u') :
    ps'.length = ts'.length ∧ ps'.length ≤ ps.length ∧ lo'.length = hi'.length ∧ lo'.length ≤ lo.length + 1 ∧ ∀ z ∈ ps', (Lit.int .i64 z).wf = true := by
  rcases h with ⟨_, _, _, rfl, rfl, rfl, rfl, _⟩ | ⟨_, ⟨A, r, C, h1, h2, h3, rfl, rfl, _⟩, hk⟩
  · exact ⟨hlen, Nat.le_refl _, hc.1.1, Nat.le_succ _, hw⟩
  · have hp := rem_plain hc h1 h2 h3
    rcases hk with ⟨_, _, rfl, rfl⟩ | ⟨k, hk, _, _, rfl, rfl⟩
    · exact ⟨hlen, Nat.le_refl _, by simp, by simpa using hp.2.2.2, hw⟩
    · exact ⟨by rw [outOf_len, outOf_len, hlen], by rw [outOf_len]; omega, by simp, by simpa using hp.2.2.2, fun z hz => hw z ((mem_outOf hd hk z).1 hz).1⟩

theorem TBL.frL {w x : World} {tb : Nat} {pa : Option Addr} {pc : Nat} {ka : Option Addr} {kc mb : Nat} {ra : Option Addr} {rc : Nat} {ps ts lo hi : List Int} {u : Int} (h : TBL w tb pa pc ka kc mb ra rc ps ts lo hi u) {L : Nat} {cs : List Value} (hL : Blk w L 83 cs) (hk : ∀ x, ka = some x → x.block ≠ L) (hf : FrL [L] w x) : TBL x tb pa pc ka kc mb ra rc ps ts lo hi u := by
  have hn : ∀ {b : Nat} {e : TypeId} {cs' : List Value}, Blk w b e cs' → e ≠ 83 → Blk x b e cs' := fun hb hne => hf.blk hb (by simp only [List.mem_singleton]; exact hb.ne hL hne)
  refine ⟨hn h.tab (by decide), h.peers.keep fun b cs hb => hn hb (by decide), ?_, h.runs.keep fun b cs hb => hn hb (by decide), ?_⟩
  · rcases h.kept with h' | ⟨kb, rest, rfl, hB, hr⟩
    · exact .inl h'
    · exact .inr ⟨kb, rest, rfl, hf.blk hB (by simp only [List.mem_singleton]; exact hk _ rfl), hr⟩
  · obtain ⟨f, hIM, hIx⟩ := h.idx
    exact ⟨f, hf.im hIM (by simp only [List.mem_singleton]; exact hIM.ne_blk hL), hIx⟩

theorem SI.frL {k : IntKind} {w0 w x : World} {a : Option Addr} {zs : List Int} (h0 : SI k w0 a zs) (h : SI k w a zs) {L : Nat} (hL : w0.heap.size ≤ L) (hf : FrL [L] w x) : SI k x a zs := by
  rcases h0 with h' | ⟨b, o, rfl, hlt, _⟩
  · exact .inl h'
  · rcases h with h' | ⟨b', o', e, hlt', hc⟩
    · exact .inl h'
    · cases e
      refine SI.keep (.inr ⟨b, o, rfl, hlt', hc⟩) hf.size (fun y hy => ?_)
      cases hy
      exact hf.block b hlt' (by simp only [List.mem_singleton]; omega)

theorem outOf_from {ps ts : List Int} (hlen : ps.length = ts.length) {k : Nat} (hk : k < ps.length) {i : Nat} (hi : i < (outOf ps k).length) : ∃ q, q < ps.length ∧ ps.getD q 0 = (outOf ps k).getD i 0 ∧ ts.getD q 0 = (outOf ts k).getD i 0 := by
  rw [outOf_len] at hi
  rw [outOf_getD ps k i hk hi, outOf_getD ts k i (by omega) (by omega)]
  by_cases e : i = k
  · exact ⟨ps.length - 1, by omega, by rw [if_pos e], by rw [if_pos e, hlen]⟩
  · exact ⟨i, by omega, by rw [if_neg e], by rw [if_neg e]⟩
end Go.Proofs.Qxb6600404a
