import Derived.Test.Qxb6601170aMem
namespace Go.Proofs.Qxb6601170a
open Go.RowKit
set_option linter.unusedVariables false

/-- every length is at most one million and some -/
def AllLe (vec : List Int) (zss : List (List Int)) (mu ph : List Int) : Prop :=
  vec.length ≤ 1048576 ∧ zss.length ≤ 1048576 ∧ mu.length ≤ 1048576 ∧ ph.length ≤ 1048576 ∧ ∀ i, i < zss.length → (zss.getD i []).length ≤ 1048576

set_option maxHeartbeats 1000000 in
theorem bytes34 (a1 a3 a4 a5 : Option Addr) (c1 c3 c4 c5 : Nat) (la ru co : Int) (vec : List Int) (zss : List (List Int)) (mu ph : List Int) (w : World) (h3 : SS w a3 zss)
    (m1 : vec.length ≤ maxLen) (m3 : zss.length ≤ maxLen) (m4 : mu.length ≤ maxLen) (m5 : ph.length ≤ maxLen) (mr : ∀ i, i < zss.length → (zss.getD i []).length ≤ maxLen) :
    Calls Try.prog 34 #[.int .i64 la, .slice a1 vec.length c1, .int .i64 ru, .slice a3 zss.length c3, .slice a4 mu.length c4, .slice a5 ph.length c5, .int .i64 co] w fun e w' => RetIf e (AllLe vec zss mu ph) ∧ w' = w := by
  unfold maxLen at m1 m3 m4 m5 mr
  have HL : Hid (∀ (h1 : vec.length ≤ 1048576) (h2 : zss.length ≤ 1048576) (h3 : mu.length ≤ 1048576) (h4 : ph.length ≤ 1048576) (h5 : ∀ i, i < zss.length → (zss.getD i []).length ≤ 1048576), AllLe vec zss mu ph) := fun a b c d e => ⟨a, b, c, d, e⟩
  have HM : Hid (∀ i, i < zss.length → (zss.getD i []).length ≤ 9223372036854775807) := mr
  clear mr
  by_cases q1 : 1048576 < vec.length
  · go_enter Try.func34, Try.ntmps34
    go_wp2
    go_ret
    exact ⟨.no rfl, rfl⟩
  by_cases q2 : 1048576 < zss.length
  · go_enter Try.func34, Try.ntmps34
    go_wp2
    go_ret
    exact ⟨.no rfl, rfl⟩
  by_cases q3 : 1048576 < vec.length + zss.length
  · go_enter Try.func34, Try.ntmps34
    go_wp2
    go_ret
    exact ⟨.no rfl, rfl⟩
  have H3 : Hid (SS w a3 zss) := h3
  clear h3
  generalize hn : zss.length = n at *
  have HN : Hid (zss.length = n) := hn
  clear hn
  go_enter Try.func34, Try.ntmps34
  go_wp2
  go_loop [15, 16] (fun z i => ∃ k s : Nat, k ≤ n ∧ s ≤ 1048576 ∧ z = .int .i64 s ∧ i = .int .i64 k ∧ ∀ i, i < k → (zss.getD i []).length ≤ 1048576) (fun _ i => n - (intOf i).toNat)
  case atStart => exact ⟨0, vec.length + n, by omega, by omega, by go_num, rfl, fun i hi => by omega⟩
  case round =>
    obtain ⟨k, s, hk, hs, rfl, rfl, hall⟩ := hrel
    have HALL : Hid (∀ i, i < k → (zss.getD i []).length ≤ 1048576) := hall
    clear hall
    by_cases hlt : k < n
    · have hm := HM.out k (by have := HN.out; omega)
      have hSS := H3.out
      rcases hSS with h | ⟨b, off, rfl, hb, hc⟩
      · have := HN.out; rw [h] at this; simp at this; omega
      obtain ⟨r, c, hcell, _⟩ := hc k (by have := HN.out; omega)
      clear hc
      obtain ⟨l, hl⟩ : ∃ l, l = (zss.getD k []).length := ⟨_, rfl⟩
      rw [← hl] at hm hcell
      have HLL : Hid (l = (zss.getD k []).length) := hl
      clear hl
      have i1 : (k : Int) < (n : Int) := by omega
      by_cases r1 : 1048576 < l
      · go_wp2
        go_ret
        exact ⟨.no rfl, rfl⟩
      by_cases r2 : 1048576 < s + l
      · go_wp2
        go_ret
        exact ⟨.no rfl, rfl⟩
      go_wp2
      go_round
      case rel =>
        refine ⟨k + 1, s + l, by omega, by omega, by go_num, by go_num, fun i hi' => ?_⟩
        rcases Nat.lt_succ_iff_lt_or_eq.1 hi' with h | rfl
        · exact HALL.out i h
        · rw [← HLL.out]; omega
      case measure => simp [intOf]; omega
    · by_cases r1 : 1048576 < mu.length
      · go_wp2
        go_ret
        exact ⟨.no rfl, rfl⟩
      by_cases r2 : 1048576 < s + mu.length
      · go_wp2
        go_ret
        exact ⟨.no rfl, rfl⟩
      by_cases r3 : 1048576 < ph.length
      · go_wp2
        go_ret
        exact ⟨.no rfl, rfl⟩
      by_cases r4 : 1048576 < s + mu.length + ph.length
      · go_wp2
        go_ret
        exact ⟨.no rfl, rfl⟩
      go_wp2
      go_ret
      exact ⟨.yes rfl (HL.out (by omega) (by have := HN.out; omega) (by omega) (by omega) (fun i hi => HALL.out i (by have := HN.out; omega))), rfl⟩

set_option maxHeartbeats 1000000 in
theorem nested_any (a : Option Addr) (c : Nat) (zss : List (List Int)) (w : World) (h : SS w a zss) (m : zss.length ≤ 1048576) (mr : ∀ i, i < zss.length → (zss.getD i []).length ≤ 1048576) :
    Calls Try.prog 10 #[.slice a zss.length c, .int .i64 1048576] w fun e w' => (∃ z : Int, e = .returned (.int .i64 z) ∧ 0 ≤ z ∧ z ≤ 1048577) ∧ w' = w := by
  have H3 : Hid (SS w a zss) := h
  have HM : Hid (∀ i, i < zss.length → (zss.getD i []).length ≤ 1048576) := mr
  clear mr h
  by_cases q1 : 1048576 < 24 * zss.length
  · go_enter Try.func10, Try.ntmps10
    go_wp2
    go_ret
    exact ⟨⟨_, rfl, by omega, by omega⟩, rfl⟩
  generalize hn : zss.length = n at *
  have HN : Hid (zss.length = n) := hn
  clear hn
  go_enter Try.func10, Try.ntmps10
  go_wp2
  go_loop [5, 6] (fun z i => ∃ k s : Nat, k ≤ n ∧ s ≤ 1048576 ∧ z = .int .i64 s ∧ i = .int .i64 k) (fun _ i => n - (intOf i).toNat)
  case atStart => exact ⟨0, 24 * n, by omega, by omega, by go_num, rfl⟩
  case round =>
    obtain ⟨k, s, hk, hs, rfl, rfl⟩ := hrel
    by_cases hlt : k < n
    · have hm := HM.out k (by have := HN.out; omega)
      have hSS := H3.out
      rcases hSS with h | ⟨b, off, rfl, hb, hc⟩
      · have := HN.out; rw [h] at this; simp at this; omega
      obtain ⟨r, c, hcell, _⟩ := hc k (by have := HN.out; omega)
      clear hc
      generalize (zss.getD k []).length = l at *
      have i1 : (k : Int) < (n : Int) := by omega
      by_cases r2 : 1048576 < s + 8 * l
      · go_wp2
        go_ret
        exact ⟨⟨_, rfl, by omega, by omega⟩, rfl⟩
      go_wp2
      go_round
      case rel => exact ⟨k + 1, s + 8 * l, by omega, by omega, by go_num, by go_num⟩
      case measure => simp [intOf]; omega
    · go_wp2
      go_ret
      exact ⟨⟨_, rfl, by omega, by omega⟩, rfl⟩
end Go.Proofs.Qxb6601170a
