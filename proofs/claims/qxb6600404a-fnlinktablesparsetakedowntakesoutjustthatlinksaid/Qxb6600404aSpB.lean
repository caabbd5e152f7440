import Derived.Test.Qxb6600404aRem
namespace Go.Proofs.Qxb6600404a
open Go.RowKit
set_option linter.unusedVariables false
set_option linter.unusedSimpArgs false

def From (B : Nat) (a : Option Addr) : Prop := ∀ x, a = some x → B ≤ x.block

def SparseB (w w' : World) (e : Ending) (pa : Option Addr) (pc : Nat) (ps ts lo hi : List Int) (u : Int) : Prop :=
  e = .returned (.pointer (some ⟨w.heap.size, 0, none⟩)) ∧ Below w.heap.size w w' ∧
    ∃ ka mb ra, TBL w' w.heap.size pa pc ka ts.length mb ra lo.length ps ts lo hi u ∧ w.heap.size ≤ mb ∧ From w.heap.size ka ∧ From w.heap.size ra

set_option maxHeartbeats 2000000 in
theorem sparseB_any (pa : Option Addr) (pc : Nat) (ta la ha : Option Addr) (tc lc hc : Nat) (ps ts lo hi : List Int) (u : Int) (w : World) (hp : OwnP w pa pc ps) (ht : SI .u8 w ta ts) (h1 : SI .i64 w la lo) (h2 : SI .i64 w ha hi)
    (hd : Distinct ps) (hw : ∀ z ∈ ps, (Lit.int .i64 z).wf = true) (hlen : lo.length = hi.length) (l0 : ps.length ≤ 2000000) (l1 : ts.length ≤ 2000000) (l2 : lo.length ≤ 2000000) :
    Calls Try.prog 37 #[.slice pa ps.length pc, .slice ta ts.length tc, .slice la lo.length lc, .slice ha hi.length hc, .int .i64 u] w fun e w' => SparseB w w' e pa pc ps ts lo hi u := by
  have hmk := run_mkMap
  have HP : Hid (OwnP w pa pc ps) := hp
  have HD : Hid (Distinct ps) := hd
  have HW : Hid (∀ z ∈ ps, (Lit.int .i64 z).wf = true) := hw
  have HLEN : Hid (lo.length = hi.length) := hlen
  have ht' : Hid (SI .u8 w ta ts) := ht
  have h1' : Hid (SI .i64 w la lo) := h1
  have h2' : Hid (SI .i64 w ha hi) := h2
  clear hd hw hlen ht h1 h2
  generalize hn : ps.length = n at *
  have HN : Hid (ps.length = n) := hn
  clear hn
  rcases hp with ⟨rfl, hnil, rfl⟩ | ⟨pb, rest, rfl, hB, hr⟩
  · have HA : Hid (n = 0) := by show n = 0; rw [← HN.out, hnil]; rfl
    clear hnil
    go_enter Try.func37, Try.ntmps37
    go_wp2_with fail
    refine (dense_any none n 0 ta tc ts w ht'.out l1).mono ?_
    rintro e w1 ⟨rfl, hbel, ka, hT, hK⟩
    have c1 : w1.cell? ⟨w.heap.size, 2, none⟩ = some (.map none) := by rw [hT.cell]; rfl
    have c2 : w1.frozen? ⟨w.heap.size, 2, none⟩ = false := hT.frozen 2
    have z1 : w.heap.size < w1.heap.size := hT.lt
    have n1 : w.heap.size ≠ w1.heap.size := by omega
    have HBel : Hid (Below w.heap.size w w1) := hbel
    have HT : Hid (Blk w1 w.heap.size 74 (tabCells none n 0 ka ts.length ts.length none none 0 0 0)) := hT
    have HK : Hid ((ts = [] ∧ ka = none) ∨ (ts ≠ [] ∧ ka = some ⟨w.heap.size + 1, 0, none⟩ ∧ Blk w1 (w.heap.size + 1) 83 (KC ts))) := hK
    clear hbel hT hK
    go_wp2_with fail
    go_loopw [12] (fun i w' => ∃ k : Nat, k ≤ n ∧ i = .int .i64 k ∧ Blk w' w.heap.size 74 (tabCells none n 0 ka ts.length ts.length (some w1.heap.size) none 0 0 0) ∧ (∃ f, IM w' w1.heap.size k f ∧ IsIx (ps.take k) f) ∧ Below w.heap.size w w' ∧ OwnK w' ka ts.length ts) (fun i _ => n - (intOf i).toNat)
    case atStart =>
      refine ⟨0, by omega, rfl, ?_, ?_, ?_, ?_⟩
      · exact (HT.out.set 2 (.map (some w1.heap.size))).alloc _
      · refine ⟨fun _ => none, ?_, isIx_zero⟩
        have := IM.new (w1.setCell ⟨w.heap.size, 2, none⟩ (.map (some w1.heap.size)))
        simpa using this
      · exact (HBel.out.setCell (Nat.le_refl _) _).alloc (by simp; omega) _
      · rcases HK.out with ⟨h1, h2⟩ | ⟨h1, h2, h3⟩
        · exact .inl ⟨h2, h1, by rw [h1]; rfl⟩
        · exact .inr ⟨_, [], h2, by rw [List.append_nil]; exact (h3.setOther (by simp) _).alloc _, by simp⟩
    case round =>
      obtain ⟨k, hk, rfl, hT, ⟨f, hIM, hIx⟩, hbel, hK⟩ := hrel
      have HT' : Hid (Blk wr w.heap.size 74 (tabCells none n 0 ka ts.length ts.length (some w1.heap.size) none 0 0 0)) := hT
      have HBel' : Hid (Below w.heap.size w wr) := hbel
      have HIM : Hid (IM wr w1.heap.size k f) := hIM
      have HIX : Hid (IsIx (ps.take k) f) := hIx
      have HK' : Hid (OwnK wr ka ts.length ts) := hK
      clear hT hbel hIM hIx hK
      by_cases hlt : k < n
      · have := HA.out
        omega
      · have hkn : k = n := by omega
        subst hkn
        have sz := HT'.out.lt
        go_wp2_with fail
        refine (runSetOf_any la ha lc hc lo hi u wr (h1'.out.below HBel'.out) (h2'.out.below HBel'.out) HLEN.out l2).mono ?_
        rintro e w3 ⟨rfl, hbel3, ra, hS, hR⟩
        have d1 : w3.cell? ⟨wr.heap.size, 0, none⟩ = some (.slice ra lo.length lo.length) := by rw [hS.cell]; rfl
        have d2 : w3.cell? ⟨wr.heap.size, 1, none⟩ = some (.int .i64 u) := by rw [hS.cell]; rfl
        have hT3 := HT'.out.below hbel3 sz
        have d3 : w3.cell? ⟨w.heap.size, 3, none⟩ = some (.slice none 0 0) := by rw [hT3.cell]; rfl
        have d4 : w3.cell? ⟨w.heap.size, 4, none⟩ = some (.int .i64 0) := by rw [hT3.cell]; rfl
        have d5 : w3.frozen? ⟨w.heap.size, 3, none⟩ = false := hT3.frozen _
        have d6 : w3.frozen? ⟨w.heap.size, 4, none⟩ = false := hT3.frozen _
        have HT3 : Hid (Blk w3 w.heap.size 74 (tabCells none k 0 ka ts.length ts.length (some w1.heap.size) none 0 0 0)) := hT3
        have HB3 : Hid (Below wr.heap.size wr w3) := hbel3
        have HR : Hid ((lo = [] ∧ ra = none) ∨ (lo ≠ [] ∧ ra = some ⟨wr.heap.size + 1, 0, none⟩ ∧ Blk w3 (wr.heap.size + 1) 68 (PC (lo.zip hi)))) := hR
        clear hbel3 hS hR hT3
        go_wp2
        go_ret
        have hset : ∀ {b : Nat} {e : TypeId} {cs : List Value}, Blk w3 b e cs → e ≠ 74 → Blk ((w3.setCell ⟨w.heap.size, 3, none⟩ (.slice ra lo.length lo.length)).setCell ⟨w.heap.size, 4, none⟩ (.int .i64 u)) b e cs := fun hb hne =>
          (hb.setOther (hb.ne HT3.out hne) _).setOther (hb.ne HT3.out hne) _
        refine ⟨rfl, ?_, ka, w1.heap.size, ra, ⟨?_, ?_, ?_, ?_, ?_⟩, by omega, ?_, ?_⟩
        · exact ((HBel'.out.trans (HB3.out.mono (by omega))).setCell (Nat.le_refl _) _).setCell (Nat.le_refl _) _
        · rw [HN.out]; exact (HT3.out.set 3 _).set 4 _
        · exact HP.out.keep fun b cs hb => hset (((hb.below HBel'.out hb.lt)).below HB3.out (hb.below HBel'.out hb.lt).lt) (by decide)
        · exact HK'.out.keep fun b cs hb => hset (hb.below HB3.out hb.lt) (by decide)
        · rcases HR.out with ⟨h1, h2⟩ | ⟨h1, h2, h3⟩
          · exact .inl ⟨h2, h1, by rw [h1]; rfl⟩
          · exact .inr ⟨_, [], h2, by rw [List.append_nil]; exact hset h3 (by decide), by simp⟩
        · have hne := HIM.out.ne_blk HT'.out
          refine ⟨f, ?_, ?_⟩
          · rw [HN.out]; exact ((HIM.out.below HB3.out HIM.out.lt).setCell hne _).setCell hne _
          · have := HIX.out
            rw [List.take_of_length_le (by rw [HN.out]; omega)] at this
            exact this
        · intro x hx
          rcases HK.out with ⟨_, h2⟩ | ⟨_, h2, _⟩ <;> rw [h2] at hx <;> cases hx
          exact Nat.le_succ _
        · intro x hx
          have := HBel'.out.size
          rcases HR.out with ⟨_, h2⟩ | ⟨_, h2, _⟩ <;> rw [h2] at hx <;> cases hx
          show w.heap.size ≤ wr.heap.size + 1
          omega
  have H1 : Hid (∀ i, i < n → w.cell? ⟨pb, i, none⟩ = some (.int .i64 (ps.getD i 0))) := by
    intro i hi
    have h3 := HN.out
    rw [hB.cell, List.getElem?_append_left (by rw [ints_len]; omega)]
    simp only [ints, List.getElem?_map, List.getD_eq_getElem?_getD]
    rw [List.getElem?_eq_getElem (by omega)]; rfl
  have hpb : pb < w.heap.size := hB.lt
  clear hB hr
  go_enter Try.func37, Try.ntmps37
  go_wp2_with fail
  refine (dense_any _ n pc ta tc ts w ht'.out l1).mono ?_
  rintro e w1 ⟨rfl, hbel, ka, hT, hK⟩
  have c1 : w1.cell? ⟨w.heap.size, 2, none⟩ = some (.map none) := by rw [hT.cell]; rfl
  have c2 : w1.frozen? ⟨w.heap.size, 2, none⟩ = false := hT.frozen 2
  have z1 : w.heap.size < w1.heap.size := hT.lt
  have n1 : w.heap.size ≠ w1.heap.size := by omega
  have HBel : Hid (Below w.heap.size w w1) := hbel
  have HT : Hid (Blk w1 w.heap.size 74 (tabCells (some ⟨pb, 0, none⟩) n pc ka ts.length ts.length none none 0 0 0)) := hT
  have HK : Hid ((ts = [] ∧ ka = none) ∨ (ts ≠ [] ∧ ka = some ⟨w.heap.size + 1, 0, none⟩ ∧ Blk w1 (w.heap.size + 1) 83 (KC ts))) := hK
  clear hbel hT hK
  go_wp2_with fail
  go_loopw [12] (fun i w' => ∃ k : Nat, k ≤ n ∧ i = .int .i64 k ∧ Blk w' w.heap.size 74 (tabCells (some ⟨pb, 0, none⟩) n pc ka ts.length ts.length (some w1.heap.size) none 0 0 0) ∧ (∃ f, IM w' w1.heap.size k f ∧ IsIx (ps.take k) f) ∧ Below w.heap.size w w' ∧ OwnK w' ka ts.length ts) (fun i _ => n - (intOf i).toNat)
  case atStart =>
    refine ⟨0, by omega, rfl, ?_, ?_, ?_, ?_⟩
    · exact (HT.out.set 2 (.map (some w1.heap.size))).alloc _
    · refine ⟨fun _ => none, ?_, isIx_zero⟩
      have := IM.new (w1.setCell ⟨w.heap.size, 2, none⟩ (.map (some w1.heap.size)))
      simpa using this
    · exact (HBel.out.setCell (Nat.le_refl _) _).alloc (by simp; omega) _
    · rcases HK.out with ⟨h1, h2⟩ | ⟨h1, h2, h3⟩
      · exact .inl ⟨h2, h1, by rw [h1]; rfl⟩
      · exact .inr ⟨_, [], h2, by rw [List.append_nil]; exact (h3.setOther (by simp) _).alloc _, by simp⟩
  case round =>
    obtain ⟨k, hk, rfl, hT, ⟨f, hIM, hIx⟩, hbel, hK⟩ := hrel
    have HT' : Hid (Blk wr w.heap.size 74 (tabCells (some ⟨pb, 0, none⟩) n pc ka ts.length ts.length (some w1.heap.size) none 0 0 0)) := hT
    have HBel' : Hid (Below w.heap.size w wr) := hbel
    have HIM : Hid (IM wr w1.heap.size k f) := hIM
    have HIX : Hid (IsIx (ps.take k) f) := hIx
    have HK' : Hid (OwnK wr ka ts.length ts) := hK
    clear hT hbel hIM hIx hK
    by_cases hlt : k < n
    · obtain ⟨y, hy⟩ : ∃ y, y = ps.getD k 0 := ⟨_, rfl⟩
      have d0 : wr.cell? ⟨w.heap.size, 2, none⟩ = some (.map (some w1.heap.size)) := by rw [HT'.out.cell]; rfl
      have d1 : wr.cell? ⟨pb, k, none⟩ = some (.int .i64 y) := by rw [HBel'.out.cell (p := ⟨pb, k, none⟩) hpb, hy]; exact H1.out k hlt
      have hyw : (Lit.int .i64 y).wf = true := HW.out y (by rw [hy]; exact getD_mem (by rw [HN.out]; exact hlt))
      obtain ⟨w2, hrun, hIM2, hturn⟩ := HIM.out.drew.store (by omega) hyw (wf_nat (k := k) (by omega))
      have HIM2 : Hid (IM w2 w1.heap.size (k + 1) (fun y' => if y' = y then some (k : Int) else f y')) := by
        have hno : f y = none := HIX.out.2 y (by rw [hy]; exact not_before HD.out (by rw [HN.out]; exact hlt))
        rw [hno] at hIM2
        exact hIM2
      have HTU : Hid (wr.drew.mapTurned w2 w1.heap.size) := hturn
      have HY : Hid (y = ps.getD k 0) := hy
      clear hy hIM2 hturn hyw
      have i1 : (k : Int) < (n : Int) := by omega
      go_wp2_with fail
      go_region
      all_goals go_wp2
      go_roundw
      case rel =>
        refine ⟨k + 1, by omega, by go_num, HT'.out.drew.turned HTU.out, ⟨_, HIM2.out, ?_⟩, turned_below HBel'.out.drew HTU.out (by omega), HK'.out.keep fun b cs hb => hb.drew.turned HTU.out⟩
        rw [HY.out]
        exact isIx_step HD.out (by rw [HN.out]; exact hlt) HIX.out
      case measure => simp [intOf]; omega
    · have hkn : k = n := by omega
      subst hkn
      have sz := HT'.out.lt
      go_wp2_with fail
      refine (runSetOf_any la ha lc hc lo hi u wr (h1'.out.below HBel'.out) (h2'.out.below HBel'.out) HLEN.out l2).mono ?_
      rintro e w3 ⟨rfl, hbel3, ra, hS, hR⟩
      have d1 : w3.cell? ⟨wr.heap.size, 0, none⟩ = some (.slice ra lo.length lo.length) := by rw [hS.cell]; rfl
      have d2 : w3.cell? ⟨wr.heap.size, 1, none⟩ = some (.int .i64 u) := by rw [hS.cell]; rfl
      have hT3 := HT'.out.below hbel3 sz
      have d3 : w3.cell? ⟨w.heap.size, 3, none⟩ = some (.slice none 0 0) := by rw [hT3.cell]; rfl
      have d4 : w3.cell? ⟨w.heap.size, 4, none⟩ = some (.int .i64 0) := by rw [hT3.cell]; rfl
      have d5 : w3.frozen? ⟨w.heap.size, 3, none⟩ = false := hT3.frozen _
      have d6 : w3.frozen? ⟨w.heap.size, 4, none⟩ = false := hT3.frozen _
      have HT3 : Hid (Blk w3 w.heap.size 74 (tabCells (some ⟨pb, 0, none⟩) k pc ka ts.length ts.length (some w1.heap.size) none 0 0 0)) := hT3
      have HB3 : Hid (Below wr.heap.size wr w3) := hbel3
      have HR : Hid ((lo = [] ∧ ra = none) ∨ (lo ≠ [] ∧ ra = some ⟨wr.heap.size + 1, 0, none⟩ ∧ Blk w3 (wr.heap.size + 1) 68 (PC (lo.zip hi)))) := hR
      clear hbel3 hS hR hT3
      go_wp2
      go_ret
      have hset : ∀ {b : Nat} {e : TypeId} {cs : List Value}, Blk w3 b e cs → e ≠ 74 → Blk ((w3.setCell ⟨w.heap.size, 3, none⟩ (.slice ra lo.length lo.length)).setCell ⟨w.heap.size, 4, none⟩ (.int .i64 u)) b e cs := fun hb hne =>
        (hb.setOther (hb.ne HT3.out hne) _).setOther (hb.ne HT3.out hne) _
      refine ⟨rfl, ?_, ka, w1.heap.size, ra, ⟨?_, ?_, ?_, ?_, ?_⟩, by omega, ?_, ?_⟩
      · exact ((HBel'.out.trans (HB3.out.mono (by omega))).setCell (Nat.le_refl _) _).setCell (Nat.le_refl _) _
      · rw [HN.out]; exact (HT3.out.set 3 _).set 4 _
      · exact HP.out.keep fun b cs hb => hset (((hb.below HBel'.out hb.lt)).below HB3.out (hb.below HBel'.out hb.lt).lt) (by decide)
      · exact HK'.out.keep fun b cs hb => hset (hb.below HB3.out hb.lt) (by decide)
      · rcases HR.out with ⟨h1, h2⟩ | ⟨h1, h2, h3⟩
        · exact .inl ⟨h2, h1, by rw [h1]; rfl⟩
        · exact .inr ⟨_, [], h2, by rw [List.append_nil]; exact hset h3 (by decide), by simp⟩
      · have hne := HIM.out.ne_blk HT'.out
        refine ⟨f, ?_, ?_⟩
        · rw [HN.out]; exact ((HIM.out.below HB3.out HIM.out.lt).setCell hne _).setCell hne _
        · have := HIX.out
          rw [List.take_of_length_le (by rw [HN.out]; omega)] at this
          exact this
      · intro x hx
        rcases HK.out with ⟨_, h2⟩ | ⟨_, h2, _⟩ <;> rw [h2] at hx <;> cases hx
        exact Nat.le_succ _
      · intro x hx
        have := HBel'.out.size
        rcases HR.out with ⟨_, h2⟩ | ⟨_, h2, _⟩ <;> rw [h2] at hx <;> cases hx
        show w.heap.size ≤ wr.heap.size + 1
        omega
end Go.Proofs.Qxb6600404a
