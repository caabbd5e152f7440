import Derived.Test.Qxb6600404aMem
namespace Go.Proofs.Qxb6600404a
open Go.RowKit
set_option linter.unusedVariables false

set_option maxHeartbeats 400000 in
theorem equalInts_same (a b : Option Addr) (ca cb : Nat) (zs : List Int) (w : World) (ha : SI .i64 w a zs) (hb : SI .i64 w b zs) (hl : zs.length ≤ 2000000) :
    Calls Try.prog 16 #[.slice a zs.length ca, .slice b zs.length cb] w fun e w' => e = .returned (.bool true) ∧ ∃ n, w' = w.drewN n := by
  have hne : ((zs.length : Int) != (zs.length : Int)) = false := by simp
  rcases ha with rfl | ⟨b1, o1, rfl, _, h1⟩
  · go_enter Try.func16, Try.ntmps16
    go_wp2
    refine wp_loop_rounds 1 ?_
    rw [rounds_succ]
    go_wp2
    go_ret
    exact ⟨rfl, 0, rfl⟩
  rcases hb with rfl | ⟨b2, o2, rfl, _, h2⟩
  · go_enter Try.func16, Try.ntmps16
    go_wp2
    refine wp_loop_rounds 1 ?_
    rw [rounds_succ]
    go_wp2
    go_ret
    exact ⟨rfl, 0, rfl⟩
  have H1 : Hid (∀ i, i < zs.length → w.cell? ⟨b1, o1 + i, none⟩ = some (.int .i64 (zs.getD i 0))) := h1
  have H2 : Hid (∀ i, i < zs.length → w.cell? ⟨b2, o2 + i, none⟩ = some (.int .i64 (zs.getD i 0))) := h2
  clear h1 h2
  generalize hn : zs.length = n at *
  have HN : Hid (zs.length = n) := hn
  clear hn
  go_enter Try.func16, Try.ntmps16
  go_wp2
  go_loopw [5] (fun i w' => ∃ k m : Nat, k ≤ n ∧ i = .int .i64 k ∧ w' = w.drewN m) (fun i _ => n - (intOf i).toNat)
  case atStart => exact ⟨0, 0, by omega, rfl, rfl⟩
  case round =>
    obtain ⟨k, m, hk, rfl, rfl⟩ := hrel
    by_cases hlt : k < n
    · obtain ⟨x, hx⟩ : ∃ x, x = zs.getD k 0 := ⟨_, rfl⟩
      have c1 := H1.out k hlt
      have c2 := H2.out k hlt
      rw [← hx] at c1 c2
      clear hx
      have i1 : (k : Int) < (n : Int) := by omega
      have hxx : (x != x) = false := by simp
      go_wp2
      go_quiet (fail)
      go_wp2
      go_roundw
      case rel => exact ⟨k + 1, _, by omega, by go_num, rfl⟩
      case measure => simp [intOf]; omega
    · go_wp2
      go_ret
      exact ⟨rfl, _, rfl⟩

set_option maxHeartbeats 400000 in
theorem equalBytes_same (a b : Option Addr) (ca cb : Nat) (zs : List Int) (w : World) (ha : SI .u8 w a zs) (hb : SI .u8 w b zs) (hl : zs.length ≤ 2000000) :
    Calls Try.prog 25 #[.slice a zs.length ca, .slice b zs.length cb] w fun e w' => e = .returned (.bool true) ∧ ∃ n, w' = w.drewN n := by
  have hne : ((zs.length : Int) != (zs.length : Int)) = false := by simp
  rcases ha with rfl | ⟨b1, o1, rfl, _, h1⟩
  · go_enter Try.func25, Try.ntmps25
    go_wp2
    refine wp_loop_rounds 1 ?_
    rw [rounds_succ]
    go_wp2
    go_ret
    exact ⟨rfl, 0, rfl⟩
  rcases hb with rfl | ⟨b2, o2, rfl, _, h2⟩
  · go_enter Try.func25, Try.ntmps25
    go_wp2
    refine wp_loop_rounds 1 ?_
    rw [rounds_succ]
    go_wp2
    go_ret
    exact ⟨rfl, 0, rfl⟩
  have H1 : Hid (∀ i, i < zs.length → w.cell? ⟨b1, o1 + i, none⟩ = some (.int .u8 (zs.getD i 0))) := h1
  have H2 : Hid (∀ i, i < zs.length → w.cell? ⟨b2, o2 + i, none⟩ = some (.int .u8 (zs.getD i 0))) := h2
  clear h1 h2
  generalize hn : zs.length = n at *
  have HN : Hid (zs.length = n) := hn
  clear hn
  go_enter Try.func25, Try.ntmps25
  go_wp2
  go_loopw [5] (fun i w' => ∃ k m : Nat, k ≤ n ∧ i = .int .i64 k ∧ w' = w.drewN m) (fun i _ => n - (intOf i).toNat)
  case atStart => exact ⟨0, 0, by omega, rfl, rfl⟩
  case round =>
    obtain ⟨k, m, hk, rfl, rfl⟩ := hrel
    by_cases hlt : k < n
    · obtain ⟨x, hx⟩ : ∃ x, x = zs.getD k 0 := ⟨_, rfl⟩
      have c1 := H1.out k hlt
      have c2 := H2.out k hlt
      rw [← hx] at c1 c2
      clear hx
      have i1 : (k : Int) < (n : Int) := by omega
      have hxx : (x != x) = false := by simp
      go_wp2
      go_quiet (fail)
      go_wp2
      go_roundw
      case rel => exact ⟨k + 1, _, by omega, by go_num, rfl⟩
      case measure => simp [intOf]; omega
    · go_wp2
      go_ret
      exact ⟨rfl, _, rfl⟩

/-- the first place of x in zs, or -1 -/
def idxFrom (x : Int) : List Int → Int → Int
  | [], _ => -1
  | z :: zs, n => if z = x then n else idxFrom x zs (n + 1)
def idxOf (zs : List Int) (x : Int) : Int := idxFrom x zs 0
theorem idxFrom_drop (x : Int) (zs : List Int) (k : Nat) (h : k < zs.length) (n : Int) : idxFrom x (zs.drop k) n = if zs.getD k 0 = x then n else idxFrom x (zs.drop (k + 1)) (n + 1) := by
  rw [List.drop_eq_getElem_cons h]
  simp only [idxFrom]
  rw [List.getD_eq_getElem?_getD, List.getElem?_eq_getElem h]; rfl

set_option maxHeartbeats 400000 in
theorem indexOf_any (a : Option Addr) (ca : Nat) (zs : List Int) (x : Int) (w : World) (ha : SI .i64 w a zs) (hl : zs.length ≤ 2000000) :
    Calls Try.prog 29 #[.slice a zs.length ca, .int .i64 x] w fun e w' => e = .returned (.int .i64 (idxOf zs x)) ∧ w' = w := by
  rcases ha with rfl | ⟨b1, o1, rfl, _, h1⟩
  · go_enter Try.func29, Try.ntmps29
    go_wp2
    refine wp_loop_rounds 1 ?_
    rw [rounds_succ]
    go_wp2
    go_ret
    exact ⟨rfl, rfl⟩
  have H1 : Hid (∀ i, i < zs.length → w.cell? ⟨b1, o1 + i, none⟩ = some (.int .i64 (zs.getD i 0))) := h1
  clear h1
  generalize hn : zs.length = n at *
  have HN : Hid (zs.length = n) := hn
  clear hn
  go_enter Try.func29, Try.ntmps29
  go_wp2
  go_loop [5] (fun i => ∃ k : Nat, k ≤ n ∧ i = .int .i64 k ∧ idxOf zs x = idxFrom x (zs.drop k) k) (fun i => n - (intOf i).toNat)
  case atStart => exact ⟨0, by omega, rfl, rfl⟩
  case round =>
    obtain ⟨k, hk, rfl, hx⟩ := hrel
    have HX : Hid (idxOf zs x = idxFrom x (zs.drop k) k) := hx
    clear hx
    by_cases hlt : k < n
    · obtain ⟨y, hy⟩ : ∃ y, y = zs.getD k 0 := ⟨_, rfl⟩
      have c1 := H1.out k hlt
      rw [← hy] at c1
      have HS : Hid (idxFrom x (zs.drop k) k = if zs.getD k 0 = x then (k : Int) else idxFrom x (zs.drop (k + 1)) (k + 1)) := idxFrom_drop x zs k (by rw [HN.out]; exact hlt) k
      have HY : Hid (y = zs.getD k 0) := hy
      clear hy
      by_cases hxy : y = x
      · have hb : (y == x) = true := by simp [hxy]
        have HXY : Hid (y = x) := hxy
        clear hxy
        go_wp2
        go_ret
        refine ⟨ret_int ?_, rfl⟩
        rw [HX.out, HS.out, if_pos (by rw [← HY.out]; exact HXY.out)]
      · have hb : (y == x) = false := by simp [hxy]
        have HXY : Hid (¬ y = x) := hxy
        clear hxy
        go_wp2
        go_round
        case rel => exact ⟨k + 1, by omega, by go_num, by rw [HX.out, HS.out, if_neg (by rw [← HY.out]; exact HXY.out)]; rfl⟩
        case measure => simp [intOf]; omega
    · go_wp2
      go_ret
      refine ⟨ret_int ?_, rfl⟩
      rw [HX.out, List.drop_of_length_le (by rw [HN.out]; omega)]; rfl

/-- one bool comes back: if it is true, P holds -/
def RetIf (e : Ending) (P : Prop) : Prop := ∃ B : Bool, e = .returned (.bool B) ∧ (B = true → P)
/-- one bool comes back: it is true just if P holds -/
def RetIff (e : Ending) (P : Prop) : Prop := ∃ B : Bool, e = .returned (.bool B) ∧ (B = true ↔ P)
theorem RetIf.no {e : Ending} {P : Prop} (h : e = .returned (.bool false)) : RetIf e P := ⟨false, h, fun h => by cases h⟩
theorem RetIf.yes {e : Ending} {P : Prop} (h : e = .returned (.bool true)) (p : P) : RetIf e P := ⟨true, h, fun _ => p⟩
theorem RetIff.no {e : Ending} {P : Prop} (h : e = .returned (.bool false)) (p : ¬ P) : RetIff e P := ⟨false, h, ⟨(fun h => by cases h), fun h => absurd h p⟩⟩
theorem RetIff.yes {e : Ending} {P : Prop} (h : e = .returned (.bool true)) (p : P) : RetIff e P := ⟨true, h, ⟨fun _ => p, fun _ => rfl⟩⟩

/-- x lies in some run -/
def InRuns (lo hi : List Int) (x : Int) : Prop := ∃ i, i < lo.length ∧ lo.getD i 0 ≤ x ∧ x < hi.getD i 0

set_option maxHeartbeats 400000 in
theorem linear_any (a b : Option Addr) (ca cb : Nat) (lo hi : List Int) (x : Int) (w : World) (ha : SI .i64 w a lo) (hb : SI .i64 w b hi) (hlen : lo.length = hi.length) (hl : lo.length ≤ 2000000) :
    Calls Try.prog 41 #[.slice a lo.length ca, .slice b hi.length cb, .int .i64 x] w fun e w' => RetIff e (InRuns lo hi x) ∧ w' = w := by
  rcases ha with rfl | ⟨b1, o1, rfl, _, h1⟩
  · go_enter Try.func41, Try.ntmps41
    go_wp2
    refine wp_loop_rounds 1 ?_
    rw [rounds_succ]
    go_wp2
    go_ret
    exact ⟨.no rfl (by simp [InRuns]), rfl⟩
  rcases hb with rfl | ⟨b2, o2, rfl, _, h2⟩
  · have : lo = [] := by rw [← List.length_eq_zero_iff, hlen]; rfl
    subst this
    clear h1
    go_enter Try.func41, Try.ntmps41
    go_wp2
    refine wp_loop_rounds 1 ?_
    rw [rounds_succ]
    go_wp2
    go_ret
    exact ⟨.no rfl (by simp [InRuns]), rfl⟩
  have H1 : Hid (∀ i, i < lo.length → w.cell? ⟨b1, o1 + i, none⟩ = some (.int .i64 (lo.getD i 0))) := h1
  have H2 : Hid (∀ i, i < hi.length → w.cell? ⟨b2, o2 + i, none⟩ = some (.int .i64 (hi.getD i 0))) := h2
  clear h1 h2
  rw [← hlen] at *
  generalize hn : lo.length = n at *
  have HN : Hid (lo.length = n) := hn
  clear hn hlen
  go_enter Try.func41, Try.ntmps41
  go_wp2
  go_loop [7] (fun i => ∃ k : Nat, k ≤ n ∧ i = .int .i64 k ∧ ∀ i, i < k → ¬ (lo.getD i 0 ≤ x ∧ x < hi.getD i 0)) (fun i => n - (intOf i).toNat)
  case atStart => exact ⟨0, by omega, rfl, fun i hi => by omega⟩
  case round =>
    obtain ⟨k, hk, rfl, hx⟩ := hrel
    have HX : Hid (∀ i, i < k → ¬ (lo.getD i 0 ≤ x ∧ x < hi.getD i 0)) := hx
    clear hx
    by_cases hlt : k < n
    · obtain ⟨y, hy⟩ : ∃ y, y = lo.getD k 0 := ⟨_, rfl⟩
      obtain ⟨z, hz⟩ : ∃ z, z = hi.getD k 0 := ⟨_, rfl⟩
      have c1 := H1.out k hlt
      have c2 := H2.out k (by omega)
      rw [← hy] at c1
      rw [← hz] at c2
      have HY : Hid (y = lo.getD k 0) := hy
      have HZ : Hid (z = hi.getD k 0) := hz
      clear hy hz
      by_cases q1 : y ≤ x
      · by_cases q2 : x < z
        · go_wp2
          go_ret
          exact ⟨.yes rfl ⟨k, by rw [HN.out]; exact hlt, by rw [← HY.out]; exact q1, by rw [← HZ.out]; exact q2⟩, rfl⟩
        · go_wp2
          go_round
          case rel =>
            refine ⟨k + 1, by omega, by go_num, fun i hi' => ?_⟩
            rcases Nat.lt_succ_iff_lt_or_eq.1 hi' with h | rfl
            · exact HX.out i h
            · rw [← HY.out, ← HZ.out]; omega
          case measure => simp [intOf]; omega
      · have q1' : decide (y ≤ x) = false := by simpa using q1
        go_wp2
        go_round
        case rel =>
          refine ⟨k + 1, by omega, by go_num, fun i hi' => ?_⟩
          rcases Nat.lt_succ_iff_lt_or_eq.1 hi' with h | rfl
          · exact HX.out i h
          · rw [← HY.out, ← HZ.out]; omega
        case measure => simp [intOf]; omega
    · go_wp2
      go_ret
      exact ⟨.no rfl fun ⟨i, hi1, hi2⟩ => absurd hi2 (HX.out i (by have := HN.out; omega)), rfl⟩

set_option maxHeartbeats 400000 in
theorem bisect_any (a b : Option Addr) (ca cb : Nat) (lo hi : List Int) (x : Int) (w : World) (ha : SI .i64 w a lo) (hb : SI .i64 w b hi) (hlen : lo.length = hi.length) (hl : lo.length ≤ 2000000) :
    Calls Try.prog 54 #[.slice a lo.length ca, .slice b hi.length cb, .int .i64 x] w fun e w' => RetIf e (InRuns lo hi x) ∧ w' = w := by
  rcases ha with rfl | ⟨b1, o1, rfl, _, h1⟩
  · go_enter Try.func54, Try.ntmps54
    go_wp2
    refine wp_loop_rounds 1 ?_
    rw [rounds_succ]
    go_wp2
    go_ret
    exact ⟨.no rfl, rfl⟩
  rcases hb with rfl | ⟨b2, o2, rfl, _, h2⟩
  · have : lo = [] := by rw [← List.length_eq_zero_iff, hlen]; rfl
    subst this
    clear h1
    go_enter Try.func54, Try.ntmps54
    go_wp2
    refine wp_loop_rounds 1 ?_
    rw [rounds_succ]
    go_wp2
    go_ret
    exact ⟨.no rfl, rfl⟩
  have H1 : Hid (∀ i, i < lo.length → w.cell? ⟨b1, o1 + i, none⟩ = some (.int .i64 (lo.getD i 0))) := h1
  have H2 : Hid (∀ i, i < hi.length → w.cell? ⟨b2, o2 + i, none⟩ = some (.int .i64 (hi.getD i 0))) := h2
  clear h1 h2
  rw [← hlen] at *
  generalize hn : lo.length = n at *
  have HN : Hid (lo.length = n) := hn
  clear hn hlen
  go_enter Try.func54, Try.ntmps54
  go_wp2
  go_loop [7, 8] (fun p q => ∃ l h : Nat, l ≤ h ∧ h ≤ n ∧ p = .int .i64 l ∧ q = .int .i64 h) (fun p q => (intOf q - intOf p).toNat)
  case atStart => exact ⟨0, n, by omega, by omega, rfl, rfl⟩
  case round =>
    obtain ⟨l, h, hlh, hh, rfl, rfl⟩ := hrel
    by_cases hlt : l < h
    · obtain ⟨m, hm, hml, hmh⟩ : ∃ m : Nat, m = l + (h - l) / 2 ∧ l ≤ m ∧ m < h := ⟨_, rfl, by omega, by omega⟩
      have em : (l : Int) + ((h : Int) - l) / 2 = m := by omega
      clear hm
      obtain ⟨y, hy⟩ : ∃ y, y = lo.getD m 0 := ⟨_, rfl⟩
      obtain ⟨z, hz⟩ : ∃ z, z = hi.getD m 0 := ⟨_, rfl⟩
      have c1 := H1.out m (by omega)
      have c2 := H2.out m (by omega)
      rw [← hy] at c1
      rw [← hz] at c2
      have HY : Hid (y = lo.getD m 0) := hy
      have HZ : Hid (z = hi.getD m 0) := hz
      clear hy hz
      by_cases q1 : z ≤ x
      · go_wp2
        go_round
        case rel => exact ⟨m + 1, h, by omega, by omega, by go_num, rfl⟩
        case measure => simp [intOf]; omega
      · by_cases q2 : x < y
        · go_wp2
          go_round
          case rel => exact ⟨l, m, by omega, by omega, rfl, rfl⟩
          case measure => simp [intOf]; omega
        · go_wp2
          go_ret
          exact ⟨.yes rfl ⟨m, by have := HN.out; omega, by rw [← HY.out]; omega, by rw [← HZ.out]; omega⟩, rfl⟩
    · go_wp2
      go_ret
      exact ⟨.no rfl, rfl⟩
end Go.Proofs.Qxb6600404a
