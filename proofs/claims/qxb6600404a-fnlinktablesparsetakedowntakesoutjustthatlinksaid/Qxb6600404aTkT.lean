import Derived.Test.Qxb6600404aTk3
namespace Go.Proofs.Qxb6600404a
open Go.RowKit
set_option linter.unusedVariables false
set_option linter.unusedSimpArgs false

def TookCase (ps ts lo hi : List Int) (u j : Int) (ok : Bool) (t : Int) (ps' ts' lo' hi' : List Int) (u' : Int) : Prop :=
  (ok = false ∧ t = 0 ∧ ¬ InRuns lo hi j ∧ ps' = ps ∧ ts' = ts ∧ lo' = lo ∧ hi' = hi ∧ u' = u) ∨
  (ok = true ∧ (∃ A r C, lo.zip hi = A ++ r :: C ∧ r.1 ≤ j ∧ j < r.2 ∧ lo' = (A ++ mid r j ++ C).map Prod.fst ∧ hi' = (A ++ mid r j ++ C).map Prod.snd ∧ u' = u - 1) ∧
    ((j ∉ ps ∧ t = 0 ∧ ps' = ps ∧ ts' = ts) ∨ (∃ k, k < ps.length ∧ ps.getD k 0 = j ∧ t = ts.getD k 0 ∧ ps' = outOf ps k ∧ ts' = outOf ts k)))

def TookAny (w w' : World) (e : Ending) (B tb : Nat) (pa : Option Addr) (pc : Nat) (ka : Option Addr) (kc mb : Nat) (ps ts lo hi : List Int) (u j : Int) : Prop :=
  ∃ (ok : Bool) (t : Int) (ra' : Option Addr) (rc' : Nat) (ps' ts' lo' hi' : List Int) (u' : Int), e = .returned (.tuple #[.agg (linkCells t).toArray, .bool ok]) ∧ Below B w w' ∧ TBL w' tb pa pc ka kc mb ra' rc' ps' ts' lo' hi' u' ∧ TookCase ps ts lo hi u j ok t ps' ts' lo' hi' u'

theorem take_any (B tb : Nat) (pa : Option Addr) (pc : Nat) (ka : Option Addr) (kc mb : Nat) (ra : Option Addr) (ps ts lo hi : List Int) (u j : Int) (w : World) (h : TBL w tb pa pc ka kc mb ra lo.length ps ts lo hi u) (hlen : ps.length = ts.length) (hc : Canon lo hi) (hl : lo.length ≤ 2000000) (hl2 : ps.length ≤ 1000000) (hu0 : 0 ≤ u) (hu1 : u ≤ 2305843009213693950) (hd : Distinct ps) (hw : ∀ z ∈ ps, (Lit.int .i64 z).wf = true) (hwj : (Lit.int .i64 j).wf = true) (hin : ∀ z ∈ ps, InRuns lo hi z)
    (hB1 : B ≤ tb) (hB2 : From B ra) (hB3 : B ≤ w.heap.size) (hB4 : From B pa) (hB5 : From B ka) (hB6 : B ≤ mb) :
    Calls Try.prog 52 #[.pointer (some ⟨tb, 0, none⟩), .int .i64 j] w fun e w' => TookAny w w' e B tb pa pc ka kc mb ps ts lo hi u j := by
  by_cases hup : InRuns lo hi j
  · by_cases hj : j ∈ ps
    · obtain ⟨k, hk, hjk⟩ := mem_getD hj
      refine (take_kept B tb pa pc ka kc mb ra ps ts lo hi u j w h hlen hc hl hl2 hu0 hu1 hup k hk hjk hd hw hB1 hB2 hB3 hB4 hB5 hB6).mono ?_
      rintro e w' ⟨A, r, C, ra', rc', h1, h2, h3, rfl, h5, h6⟩
      exact ⟨_, _, ra', rc', _, _, _, _, _, rfl, h5, h6, .inr ⟨rfl, ⟨A, r, C, h1, h2, h3, rfl, rfl, rfl⟩, .inr ⟨k, hk, hjk, rfl, rfl, rfl⟩⟩⟩
    · refine (take_new B tb pa pc ka kc mb ra ps ts lo hi u j w h hc hl hu0 hu1 hup hj hwj hB1 hB2 hB3).mono ?_
      rintro e w' ⟨A, r, C, ra', rc', h1, h2, h3, rfl, h5, h6⟩
      exact ⟨_, _, ra', rc', _, _, _, _, _, rfl, h5, h6, .inr ⟨rfl, ⟨A, r, C, h1, h2, h3, rfl, rfl, rfl⟩, .inl ⟨hj, rfl, rfl, rfl⟩⟩⟩
  · refine (take_no tb pa pc ka kc mb ra ps ts lo hi u j w h hc hl hu0 hu1 hup).mono ?_
    rintro e w' ⟨rfl, hb⟩
    exact ⟨_, _, ra, _, _, _, _, _, _, rfl, hb.mono hB3, h.below hb, .inl ⟨rfl, rfl, hup, rfl, rfl, rfl, rfl, rfl⟩⟩

def TookT (w w' : World) (e : Ending) (B tb : Nat) (pa : Option Addr) (pc : Nat) (ka : Option Addr) (kc mb : Nat) (ps ts lo hi : List Int) (u j : Int) : Prop :=
  ∃ (lb : Nat) (ok : Bool) (t : Int) (ra' : Option Addr) (rc' : Nat) (ps' ts' lo' hi' : List Int) (u' : Int), e = .returned (.tuple #[.pointer (some ⟨lb, 0, none⟩), .bool ok]) ∧ Blk w' lb 83 (linkCells t) ∧ w.heap.size ≤ lb ∧ Below B w w' ∧ TBL w' tb pa pc ka kc mb ra' rc' ps' ts' lo' hi' u' ∧ (∀ x, ka = some x → x.block ≠ lb) ∧ TookCase ps ts lo hi u j ok t ps' ts' lo' hi' u'

set_option maxHeartbeats 1000000 in
theorem takeT_any (B tb : Nat) (pa : Option Addr) (pc : Nat) (ka : Option Addr) (kc mb : Nat) (ra : Option Addr) (ps ts lo hi : List Int) (u j : Int) (w : World) (h : TBL w tb pa pc ka kc mb ra lo.length ps ts lo hi u) (hlen : ps.length = ts.length) (hc : Canon lo hi) (hl : lo.length ≤ 2000000) (hl2 : ps.length ≤ 1000000) (hu0 : 0 ≤ u) (hu1 : u ≤ 2305843009213693950) (hd : Distinct ps) (hw : ∀ z ∈ ps, (Lit.int .i64 z).wf = true) (hwj : (Lit.int .i64 j).wf = true) (hin : ∀ z ∈ ps, InRuns lo hi z)
    (hB1 : B ≤ tb) (hB2 : From B ra) (hB3 : B ≤ w.heap.size) (hB4 : From B pa) (hB5 : From B ka) (hB6 : B ≤ mb) :
    Calls Try.prog 32 #[.pointer (some ⟨tb, 0, none⟩), .int .i64 j] w fun e w' => TookT w w' e B tb pa pc ka kc mb ps ts lo hi u j := by
  have K : Hid (Calls Try.prog 52 #[.pointer (some ⟨tb, 0, none⟩), .int .i64 j] w fun e w' => TookAny w w' e B tb pa pc ka kc mb ps ts lo hi u j) := take_any B tb pa pc ka kc mb ra ps ts lo hi u j w h hlen hc hl hl2 hu0 hu1 hd hw hwj hin hB1 hB2 hB3 hB4 hB5 hB6
  have HKL : Hid (∀ x, ka = some x → x.block < w.heap.size) := h.kept.lt
  have HB3 : Hid (B ≤ w.heap.size) := hB3
  clear h hlen hc hl hl2 hu0 hu1 hd hw hwj hin hB1 hB2 hB3 hB4 hB5 hB6
  go_enter Try.func32, Try.ntmps32
  go_wp2_with fail
  refine K.out.mono ?_
  rintro e w1 ⟨ok, t, ra', rc', ps', ts', lo', hi', u', rfl, h1, h2, h3⟩
  have H1 : Hid (Below B w w1) := h1
  have H2 : Hid (TBL w1 tb pa pc ka kc mb ra' rc' ps' ts' lo' hi' u') := h2
  have H3 : Hid (TookCase ps ts lo hi u j ok t ps' ts' lo' hi' u') := h3
  clear h1 h2 h3
  go_wp2_with (refine wpList_store_mid rfl 83 _ _ rfl w1.heap.size 0 (linkCells t).toArray rfl rfl ?_ (size83a t) (all_oneCell_toArray (link_one t)) ?_)
  · exact (Blk.new w1 83 (linkCells 0)).there 0 19 (by rw [link_len]; omega)
  · go_ret2
    have hs := H1.out.size
    refine ⟨w1.heap.size, ok, t, ra', rc', ps', ts', lo', hi', u', rfl, link_over t (Blk.new w1 83 (linkCells 0)), hs, ?_, ?_, ?_, H3.out⟩
    · have := HB3.out
      exact below_setCells (H1.out.alloc (by omega) _) (by omega)
    · exact (H2.out.below ((Below.refl _ _).alloc (Nat.le_refl _) _)).far (Blk.new w1 83 (linkCells 0)) (fun x hx => Nat.ne_of_lt (H2.out.kept.lt x hx))
    · intro x hx
      exact Nat.ne_of_lt (H2.out.kept.lt x hx)
end Go.Proofs.Qxb6600404a
