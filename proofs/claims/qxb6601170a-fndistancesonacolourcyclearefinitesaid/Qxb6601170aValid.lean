import Derived.Test.Qxb6601170aRead
namespace Go.Proofs.Qxb6601170a
open Go.RowKit
set_option linter.unusedVariables false

structure Valid (vec : List Int) (zss : List (List Int)) (mu : List Int) : Prop where
  pos : 1 ≤ mu.length
  mus : ∀ v, v < mu.length → 1 ≤ mu.getD v 0 ∧ mu.getD v 0 < vec.length
  vecs : ∀ k, k < vec.length → 1 ≤ vec.getD k 0 ∧ vec.getD k 0 ≤ zss.length
  rows : ∀ m, m < zss.length → (zss.getD m []).length = mu.length ∧ ∀ v, v < mu.length → (zss.getD m []).getD v 0 < mu.length

theorem up_to {P : Nat → Prop} {k : Nat} (h : ∀ i, i < k → P i) (hk : P k) : ∀ i, i < k + 1 → P i := by
  intro i hi
  rcases Nat.lt_succ_iff_lt_or_eq.1 hi with h' | rfl
  · exact h i h'
  · exact hk

set_option maxHeartbeats 2000000 in
theorem valid_any (a0 a1 a2 : Option Addr) (c0 c1 c2 : Nat) (vec : List Int) (zss : List (List Int)) (mu : List Int) (w : World) (h0 : SI .i64 w a0 vec) (h1 : SS w a1 zss) (h2 : SI .i64 w a2 mu)
    (m0 : vec.length ≤ 1048576) (m1 : zss.length ≤ 1048576) (m2 : mu.length ≤ 1048576) (mr : ∀ i, i < zss.length → (zss.getD i []).length ≤ 1048576) :
    Calls Try.prog 35 #[.slice a0 vec.length c0, .slice a1 zss.length c1, .slice a2 mu.length c2] w fun e w' => RetIf e (Valid vec zss mu) ∧ w' = w := by
  by_cases q1 : mu.length < 1
  · go_enter Try.func35, Try.ntmps35
    go_wp2
    go_ret
    exact ⟨.no rfl, rfl⟩
  have HV : Hid (∀ (p : 1 ≤ mu.length) (h2 : ∀ v, v < mu.length → 1 ≤ mu.getD v 0 ∧ mu.getD v 0 < vec.length) (h3 : ∀ k, k < vec.length → 1 ≤ vec.getD k 0 ∧ vec.getD k 0 ≤ zss.length) (h4 : ∀ m, m < zss.length → (zss.getD m []).length = mu.length ∧ ∀ v, v < mu.length → (zss.getD m []).getD v 0 < mu.length), Valid vec zss mu) := fun a b c d => ⟨a, b, c, d⟩
  have H0 : Hid (SI .i64 w a0 vec) := h0
  have H1 : Hid (SS w a1 zss) := h1
  have H2 : Hid (SI .i64 w a2 mu) := h2
  have HM : Hid (∀ i, i < zss.length → (zss.getD i []).length ≤ 1048576) := mr
  clear h0 h1 h2 mr
  generalize hn : mu.length = n at *
  generalize hm : zss.length = m at *
  generalize hl : vec.length = l at *
  have HN : Hid (mu.length = n) := hn
  have HMM : Hid (zss.length = m) := hm
  have HL : Hid (vec.length = l) := hl
  clear hn hm hl
  go_enter Try.func35, Try.ntmps35
  go_wp2
  go_loop [8] (fun i => ∃ k : Nat, k ≤ n ∧ i = .int .i64 k ∧ ∀ v, v < k → 1 ≤ mu.getD v 0 ∧ mu.getD v 0 < l) (fun i => n - (intOf i).toNat)
  case atStart => exact ⟨0, by omega, rfl, fun i hi => by omega⟩
  case round =>
    obtain ⟨k, hk, rfl, hall⟩ := hrel
    have HA : Hid (∀ v, v < k → 1 ≤ mu.getD v 0 ∧ mu.getD v 0 < l) := hall
    clear hall
    by_cases hlt : k < n
    · obtain ⟨b, off, rfl, hb⟩ := H2.out.addr (by have := HN.out; omega)
      have hc := H2.out.cell (i := k) (by have := HN.out; omega)
      obtain ⟨x, hx⟩ : ∃ x, x = mu.getD k 0 := ⟨_, rfl⟩
      rw [← hx] at hc
      have HX : Hid (x = mu.getD k 0) := hx
      clear hx
      by_cases r1 : x < 1
      · go_wp2
        go_ret
        exact ⟨.no rfl, rfl⟩
      by_cases r2 : (l : Int) ≤ x
      · go_wp2
        go_ret
        exact ⟨.no rfl, rfl⟩
      go_wp2
      go_round
      case rel => exact ⟨k + 1, by omega, by go_num, up_to HA.out (by rw [← HX.out]; omega)⟩
      case measure => simp [intOf]; omega
    have hkn : k = n := by omega
    subst hkn
    go_wp2
    go_loop [9] (fun i => ∃ j : Nat, j ≤ l ∧ i = .int .i64 j ∧ ∀ v, v < j → 1 ≤ vec.getD v 0 ∧ vec.getD v 0 ≤ m) (fun i => l - (intOf i).toNat)
    case atStart => exact ⟨0, by omega, rfl, fun i hi => by omega⟩
    case round =>
      obtain ⟨j, hj, rfl, hall⟩ := hrel
      have HB : Hid (∀ v, v < j → 1 ≤ vec.getD v 0 ∧ vec.getD v 0 ≤ m) := hall
      clear hall
      by_cases hlt2 : j < l
      · obtain ⟨b, off, rfl, hb⟩ := H0.out.addr (by have := HL.out; omega)
        have hc := H0.out.cell (i := j) (by have := HL.out; omega)
        obtain ⟨x, hx⟩ : ∃ x, x = vec.getD j 0 := ⟨_, rfl⟩
        rw [← hx] at hc
        have HX : Hid (x = vec.getD j 0) := hx
        clear hx
        by_cases r1 : x < 1
        · go_wp2
          go_ret
          exact ⟨.no rfl, rfl⟩
        by_cases r2 : (m : Int) < x
        · go_wp2
          go_ret
          exact ⟨.no rfl, rfl⟩
        go_wp2
        go_round
        case rel => exact ⟨j + 1, by omega, by go_num, up_to HB.out (by rw [← HX.out]; omega)⟩
        case measure => simp [intOf]; omega
      have hjl : j = l := by omega
      subst hjl
      go_wp2
      go_loop [10] (fun i => ∃ p : Nat, p ≤ m ∧ i = .int .i64 p ∧ ∀ q, q < p → (zss.getD q []).length = k ∧ ∀ v, v < k → (zss.getD q []).getD v 0 < k) (fun i => m - (intOf i).toNat)
      case atStart => exact ⟨0, by omega, rfl, fun i hi => by omega⟩
      case round =>
        obtain ⟨p, hp, rfl, hall⟩ := hrel
        have HC : Hid (∀ q, q < p → (zss.getD q []).length = k ∧ ∀ v, v < k → (zss.getD q []).getD v 0 < k) := hall
        clear hall
        by_cases hlt3 : p < m
        · have hSS := H1.out
          rcases hSS with h | ⟨b, off, rfl, hb, hc⟩
          · have := HMM.out; rw [h] at this; simp at this; omega
          obtain ⟨r, c, hcell, hrow⟩ := hc p (by have := HMM.out; omega)
          have hle := HM.out p hlt3
          clear hc
          have HR : Hid (SI .i64 w r (zss.getD p [])) := hrow
          clear hrow
          obtain ⟨row, hrow⟩ : ∃ row, row = zss.getD p [] := ⟨_, rfl⟩
          rw [← hrow] at hcell hle HR
          have HROW : Hid (row = zss.getD p []) := hrow
          clear hrow
          generalize hrl : row.length = rl at *
          have HRL : Hid (row.length = rl) := hrl
          clear hrl
          by_cases r1 : rl = k
          · subst r1
            go_wp2
            go_loop [11] (fun i => ∃ j : Nat, j ≤ rl ∧ i = .int .i64 j ∧ ∀ v, v < j → row.getD v 0 < rl) (fun i => rl - (intOf i).toNat)
            case atStart => exact ⟨0, by omega, rfl, fun i hi => by omega⟩
            case round =>
              obtain ⟨t, ht, rfl, hall⟩ := hrel
              have HD : Hid (∀ v, v < t → row.getD v 0 < rl) := hall
              clear hall
              by_cases hlt4 : t < rl
              · obtain ⟨b', off', rfl, hb'⟩ := HR.out.addr (by have := HRL.out; omega)
                have hc := HR.out.cell (i := t) (by have := HRL.out; omega)
                obtain ⟨x, hx⟩ : ∃ x, x = row.getD t 0 := ⟨_, rfl⟩
                rw [← hx] at hc
                have HX : Hid (x = row.getD t 0) := hx
                clear hx
                by_cases r2 : (rl : Int) ≤ x
                · go_wp2
                  go_ret
                  exact ⟨.no rfl, rfl⟩
                go_wp2
                go_round
                case rel => exact ⟨t + 1, by omega, by go_num, up_to HD.out (by rw [← HX.out]; omega)⟩
                case measure => simp [intOf]; omega
              have htk : t = rl := by omega
              subst htk
              go_wp2
              go_round
              case rel => exact ⟨p + 1, by omega, by go_num, up_to HC.out (by rw [← HROW.out]; exact ⟨HRL.out, HD.out⟩)⟩
              case measure => simp [intOf]; omega
          · go_wp2
            go_ret
            exact ⟨.no rfl, rfl⟩
        have hpm : p = m := by omega
        subst hpm
        go_wp2
        go_ret
        exact ⟨.yes rfl (HV.out (by omega) HA.out HB.out HC.out), rfl⟩
end Go.Proofs.Qxb6601170a
