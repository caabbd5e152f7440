import Derived.Test.Qxb6601170aDist
namespace Go.Proofs.Qxb6601170a
open Go.RowKit
set_option linter.unusedVariables false

set_option maxHeartbeats 1000000 in
theorem bytes39 (a1 a3 a4 a5 : Option Addr) (c1 c3 c4 c5 : Nat) (la ru co : Int) (vec : List Int) (zss : List (List Int)) (mu ph : List Int) (w : World) (h3 : SS w a3 zss)
    (m1 : vec.length ≤ maxLen) (m3 : zss.length ≤ maxLen) (m4 : mu.length ≤ maxLen) (m5 : ph.length ≤ maxLen) (mr : ∀ i, i < zss.length → (zss.getD i []).length ≤ maxLen) :
    Calls Try.prog 39 #[.int .i64 la, .slice a1 vec.length c1, .int .i64 ru, .slice a3 zss.length c3, .slice a4 mu.length c4, .slice a5 ph.length c5, .int .i64 co] w fun e w' => RetIf e (AllLe vec zss mu ph) ∧ w' = w := by
  unfold maxLen at m1 m3 m4 m5 mr
  have HL : Hid (∀ (h1 : vec.length ≤ 1048576) (h2 : zss.length ≤ 1048576) (h3 : mu.length ≤ 1048576) (h4 : ph.length ≤ 1048576) (h5 : ∀ i, i < zss.length → (zss.getD i []).length ≤ 1048576), AllLe vec zss mu ph) := fun a b c d e => ⟨a, b, c, d, e⟩
  have HM : Hid (∀ i, i < zss.length → (zss.getD i []).length ≤ 9223372036854775807) := mr
  clear mr
  by_cases q1 : 1048576 < vec.length
  · go_enter Try.func39, Try.ntmps39
    go_wp2
    go_ret
    exact ⟨.no rfl, rfl⟩
  by_cases q2 : 1048576 < zss.length
  · go_enter Try.func39, Try.ntmps39
    go_wp2
    go_ret
    exact ⟨.no rfl, rfl⟩
  by_cases q3 : 1048576 < vec.length + zss.length
  · go_enter Try.func39, Try.ntmps39
    go_wp2
    go_ret
    exact ⟨.no rfl, rfl⟩
  have H3 : Hid (SS w a3 zss) := h3
  clear h3
  generalize hn : zss.length = n at *
  have HN : Hid (zss.length = n) := hn
  clear hn
  go_enter Try.func39, Try.ntmps39
  go_wp2
  go_loop [15, 16] (fun z i => ∃ k s : Nat, k ≤ n ∧ s ≤ 1048576 ∧ z = .int .i64 s ∧ i = .int .i64 k ∧ ∀ i, i < k → (zss.getD i []).length ≤ 1048576) (fun _ i => n - (intOf i).toNat)
  case atStart => exact ⟨0, vec.length + n, by omega, by omega, by go_num, rfl, fun i hi => by omega⟩
  case round =>
    obtain ⟨k, s, hk, hs, rfl, rfl, hall⟩ := hrel
    have HALL : Hid (∀ i, i < k → (zss.getD i []).length ≤ 1048576) := hall
    clear hall
    by_cases hlt : k < n
    · have hm := HM.out k (by have := HN.out; omega)
      have hSS := H3.out
      rcases hSS with h | ⟨b, off, rfl, hb, hc⟩
      · have := HN.out; rw [h] at this; simp at this; omega
      obtain ⟨r, c, hcell, _⟩ := hc k (by have := HN.out; omega)
      clear hc
      obtain ⟨l, hl⟩ : ∃ l, l = (zss.getD k []).length := ⟨_, rfl⟩
      rw [← hl] at hm hcell
      have HLL : Hid (l = (zss.getD k []).length) := hl
      clear hl
      have i1 : (k : Int) < (n : Int) := by omega
      by_cases r1 : 1048576 < l
      · go_wp2
        go_ret
        exact ⟨.no rfl, rfl⟩
      by_cases r2 : 1048576 < s + l
      · go_wp2
        go_ret
        exact ⟨.no rfl, rfl⟩
      go_wp2
      go_round
      case rel =>
        refine ⟨k + 1, s + l, by omega, by omega, by go_num, by go_num, fun i hi' => ?_⟩
        rcases Nat.lt_succ_iff_lt_or_eq.1 hi' with h | rfl
        · exact HALL.out i h
        · rw [← HLL.out]; omega
      case measure => simp [intOf]; omega
    · by_cases r1 : 1048576 < mu.length
      · go_wp2
        go_ret
        exact ⟨.no rfl, rfl⟩
      by_cases r2 : 1048576 < s + mu.length
      · go_wp2
        go_ret
        exact ⟨.no rfl, rfl⟩
      by_cases r3 : 1048576 < ph.length
      · go_wp2
        go_ret
        exact ⟨.no rfl, rfl⟩
      by_cases r4 : 1048576 < s + mu.length + ph.length
      · go_wp2
        go_ret
        exact ⟨.no rfl, rfl⟩
      go_wp2
      go_ret
      exact ⟨.yes rfl (HL.out (by omega) (by have := HN.out; omega) (by omega) (by omega) (fun i hi => HALL.out i (by have := HN.out; omega))), rfl⟩


/-- node v lies k hops behind node 0 on the ring -/
inductive Reach (ring : List Int) : Nat → Nat → Prop
  | zero : Reach ring 0 0
  | step {u k v : Nat} : Reach ring u k → u < ring.length → ring.getD u 0 = (v : Int) → Reach ring v (k + 1)

/-- the positions along the ring -/
structure PosOK (ring pos : List Int) : Prop where
  len : pos.length = ring.length
  at_ : ∀ v, v < ring.length → ∃ k : Nat, pos.getD v 0 = (k : Int) ∧ Reach ring v k
/-- nil comes back, or the positions -/
def PosLeft (w w' : World) (e : Ending) (n : Nat) (ring : List Int) : Prop :=
  (e = .returned (.slice none 0 0) ∨ ∃ b pos, e = .returned (.slice (some ⟨b, 0, none⟩) n n) ∧ SI .i64 w' (some ⟨b, 0, none⟩) pos ∧ PosOK ring pos) ∧ Below w.heap.size w w'

/-- the state of the walk round the ring -/
structure RInv (ring : List Int) (j : Nat) (u : Int) (pos : List Int) : Prop where
  len : pos.length = ring.length
  cnt : cnt pos + j = ring.length
  old : ∀ v, v < ring.length → 0 ≤ pos.getD v 0 → ∃ k : Nat, pos.getD v 0 = (k : Int) ∧ Reach ring v k
  cur : ∀ v : Nat, u = (v : Int) → Reach ring v j
theorem RInv.start (ring : List Int) : RInv ring 0 0 (List.replicate ring.length (-1)) := by
  refine ⟨by simp, by rw [cnt_rep]; rfl, fun v hv h0 => ?_, fun v hv => ?_⟩
  · rw [rep_getD _ _ _ hv] at h0; omega
  · have : v = 0 := by omega
    subst this; exact .zero
theorem RInv.next {ring : List Int} {j v : Nat} {pos : List Int} (h : RInv ring j (v : Int) pos) (hv : v < ring.length) (hp : pos.getD v 0 < 0) : RInv ring (j + 1) (ring.getD v 0) (pos.set v (j : Int)) := by
  have hvp : v < pos.length := by rw [h.len]; exact hv
  refine ⟨by simp [h.len], ?_, fun x hx h0 => ?_, fun x hx => ?_⟩
  · have := cnt_set pos v (j : Int) hvp hp (by omega)
    have := h.cnt; omega
  · by_cases e : x = v
    · subst e
      rw [getD_set_eq _ _ _ hvp]
      exact ⟨j, rfl, h.cur x rfl⟩
    · rw [getD_set_ne _ _ _ _ (fun q => e q.symm)] at h0 ⊢
      exact h.old x hx h0
  · exact .step (h.cur v rfl) hv hx
theorem cnt_zero : ∀ (d : List Int) (t : Nat), t < d.length → cnt d = 0 → 0 ≤ d.getD t 0
  | [], t, h, _ => by simp at h
  | z :: zs, 0, _, h1 => by
    simp only [cnt] at h1
    simp only [List.getD_cons_zero]
    split at h1 <;> omega
  | z :: zs, t + 1, h, h1 => by
    simp only [List.length_cons] at h
    simp only [cnt] at h1
    have := cnt_zero zs t (by omega) (by omega)
    simpa using this
theorem RInv.last {ring : List Int} {u : Int} {pos : List Int} (h : RInv ring ring.length u pos) : PosOK ring pos :=
  ⟨h.len, fun v hv => h.old v hv (cnt_zero pos v (by rw [h.len]; exact hv) (by have := h.cnt; omega))⟩

set_option maxHeartbeats 1000000 in
theorem cycle_any (a : Option Addr) (c : Nat) (ring : List Int) (w : World) (ha : SI .i64 w a ring) (hl : ring.length ≤ 2000000) :
    Calls Try.prog 40 #[.slice a ring.length c] w fun e w' => PosLeft w w' e ring.length ring := by
  by_cases q1 : ring.length < 1
  · go_enter Try.func40, Try.ntmps40
    go_wp2
    go_ret
    exact ⟨.inl rfl, Below.refl _ _⟩
  obtain ⟨b1, o1, rfl, hb⟩ := ha.addr (by omega)
  have HA : Hid (SI .i64 w (some ⟨b1, o1, none⟩) ring) := ha
  have hmk := run_mk24 ring.length (by omega)
  have HST : Hid (RInv ring 0 0 (List.replicate ring.length (-1))) := RInv.start ring
  have HNX : Hid (∀ (j v : Nat) (pos : List Int), RInv ring j (v : Int) pos → v < ring.length → pos.getD v 0 < 0 → RInv ring (j + 1) (ring.getD v 0) (pos.set v (j : Int))) := fun j v pos h hv hp => h.next hv hp
  have HLA : Hid (∀ (u : Int) (pos : List Int), RInv ring ring.length u pos → PosOK ring pos) := fun u pos h => h.last
  have HLN : Hid (∀ (j : Nat) (u : Int) (pos : List Int), RInv ring j u pos → pos.length = ring.length) := fun j u pos h => h.len
  clear ha
  generalize hn : ring.length = n at *
  have HN : Hid (ring.length = n) := hn
  clear hn
  go_enter Try.func40, Try.ntmps40
  go_wp2
  go_loopw [5] (fun i w' => ∃ j : Nat, j ≤ n ∧ i = .int .i64 j ∧ Blk w' w.heap.size 3 (fill .i64 (List.replicate n (-1)) j n) ∧ Below w.heap.size w w') (fun i _ => n - (intOf i).toNat)
  case atStart => exact ⟨0, by omega, rfl, by rw [fill_zero]; exact Blk.new w 3 _, (Below.refl _ _).alloc (Nat.le_refl _) _⟩
  case round =>
    obtain ⟨j, hj, rfl, hD, hbel⟩ := hrel
    have HD : Hid (Blk wr w.heap.size 3 (fill .i64 (List.replicate n (-1)) j n)) := hD
    have HBL : Hid (Below w.heap.size w wr) := hbel
    clear hD hbel
    by_cases hjn : j < n
    · have e1 : wr.cell? ⟨w.heap.size, j, none⟩ = some (.int .i64 0) := by rw [HD.out.cell]; exact fill_at _ _ _ _ (by simp) hjn
      have e2 : wr.frozen? ⟨w.heap.size, j, none⟩ = false := HD.out.frozen j
      go_wp2_with fail
      go_roundw
      case rel =>
        refine ⟨j + 1, by omega, by go_num, ?_, HBL.out.setCell (Nat.le_refl _) _⟩
        have := HD.out.set j (.int .i64 (-1))
        rw [fill_m _ _ hjn] at this
        exact this
      case measure => simp [intOf]; omega
    have hjn' : j = n := by omega
    subst hjn'
    have D1 : Hid (Blk wr w.heap.size 3 (ints .i64 (List.replicate j (-1)))) := by rw [← fill_all .i64 _ j (by simp)]; exact HD.out
    clear HD hmk
    go_wp2_with fail
    go_loopw [6, 7] (fun x i w' => ∃ (k : Nat) (u : Int) (pos : List Int), k ≤ j ∧ x = .int .i64 u ∧ i = .int .i64 k ∧ RInv ring k u pos ∧ Blk w' w.heap.size 3 (ints .i64 pos) ∧ Below w.heap.size w w') (fun _ i _ => j - (intOf i).toNat)
    case atStart => exact ⟨0, 0, _, by omega, rfl, rfl, HST.out, D1.out, HBL.out⟩
    case round =>
      clear D1 HBL
      obtain ⟨k, u, pos, hk, rfl, rfl, hI, hD, hbel⟩ := hrel
      have II : Hid (RInv ring k u pos) := hI
      have HD : Hid (Blk wr w.heap.size 3 (ints .i64 pos)) := hD
      have HBL : Hid (Below w.heap.size w wr) := hbel
      have HPL : Hid (pos.length = j) := HLN.out _ _ _ hI
      clear hI hD hbel
      by_cases hkj : k < j
      · by_cases u0 : u < 0
        · go_wp2_with fail
          go_ret
          exact ⟨.inl rfl, HBL.out⟩
        by_cases u1 : (j : Int) ≤ u
        · go_wp2_with fail
          go_ret
          exact ⟨.inl rfl, HBL.out⟩
        obtain ⟨v, rfl⟩ : ∃ v : Nat, u = (v : Int) := ⟨u.toNat, by omega⟩
        have hvj : v < j := by omega
        have cp : wr.cell? ⟨w.heap.size, v, none⟩ = some (.int .i64 (pos.getD v 0)) := by rw [HD.out.cell]; exact ints_at' _ _ (by rw [HPL.out]; exact hvj)
        have cf : wr.frozen? ⟨w.heap.size, v, none⟩ = false := HD.out.frozen v
        obtain ⟨y, hy⟩ : ∃ y, y = pos.getD v 0 := ⟨_, rfl⟩
        rw [← hy] at cp
        have HY : Hid (y = pos.getD v 0) := hy
        clear hy
        by_cases y0 : 0 ≤ y
        · go_wp2_with fail
          go_ret
          exact ⟨.inl rfl, HBL.out⟩
        · go_upto_region 16 with (fail)
          have D5 : Hid (Blk (wr.setCell ⟨w.heap.size, v, none⟩ (.int .i64 (k : Int))) w.heap.size 3 (ints .i64 (pos.set v (k : Int)))) := by rw [← ints_set]; exact HD.out.set v _
          have B5 : Hid (Below w.heap.size w (wr.setCell ⟨w.heap.size, v, none⟩ (.int .i64 (k : Int)))) := HBL.out.setCell (Nat.le_refl _) _
          generalize wr.setCell ⟨w.heap.size, v, none⟩ (.int .i64 (k : Int)) = w5 at *
          have cr : w5.cell? ⟨b1, o1 + v, none⟩ = some (.int .i64 (ring.getD v 0)) := by rw [B5.out.cell (p := ⟨b1, o1 + v, none⟩) hb]; exact HA.out.cell (by rw [HN.out]; exact hvj)
          clear cp cf
          go_wp2_with fail
          go_roundw
          case rel => exact ⟨k + 1, _, _, by omega, rfl, by go_num, HNX.out k v pos II.out hvj (by rw [← HY.out]; omega), D5.out, B5.out⟩
          case measure => simp [intOf]; omega
      · have hkj' : k = j := by omega
        subst hkj'
        by_cases u0 : u = 0
        · subst u0
          go_wp2_with fail
          go_ret
          exact ⟨.inr ⟨_, pos, rfl, SI.ofBlk' HD.out, HLA.out _ _ II.out⟩, HBL.out⟩
        · have u0' : (u != 0) = true := by simpa using u0
          go_wp2_with fail
          go_ret
          exact ⟨.inl rfl, HBL.out⟩
end Go.Proofs.Qxb6601170a
