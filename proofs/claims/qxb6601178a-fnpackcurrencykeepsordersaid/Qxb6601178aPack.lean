import Derived.Test.Qxb6601178aRows
import Derived.WalkKit
import Derived.WalkSpells
import Derived.WalkLawsBesides
import Derived.Deep.QuietTactic
import Derived.BigQuiet
namespace Go.Proofs.Qxb6601178a
open Go.RowKit

def codeC (n : Nat) : Bool := decide (65 ≤ n ∧ n ≤ 90)
def isCodeB (s : ByteArray) : Bool := s.data.toList.length == 3 && s.data.toList.all fun c => codeC c.toNat
def packL : List UInt8 → Int → Int
  | [], n => n
  | c :: l, n => packL l (n * 26 + ((c.toNat : Int) - 65))
def lessL : List UInt8 → List UInt8 → Bool
  | [], [] => false
  | [], _ :: _ => true
  | _ :: _, [] => false
  | x :: xs, y :: ys => if x.toNat = y.toNat then lessL xs ys else decide (x.toNat < y.toNat)

set_option maxHeartbeats 400000 in
theorem bytes_any (a b : ByteArray) (w : World) (ha : a.size ≤ maxLen) (hb : b.size ≤ maxLen) :
    Calls Try.prog 12 #[.string a, .string b] w fun e w' => e = .returned (.bool (decide (a.size + b.size ≤ 1048576))) ∧ w' = w := by
  unfold maxLen at ha hb
  by_cases h1 : a.size ≤ 1048576
  · by_cases h2 : b.size ≤ 1048576
    · by_cases h3 : a.size + b.size ≤ 1048576
      · rw [decide_eq_true h3]
        go_enter Try.func12, Try.ntmps12
        go_wp2
        go_ret
        exact ⟨rfl, rfl⟩
      · rw [decide_eq_false h3]
        go_enter Try.func12, Try.ntmps12
        go_wp2
        go_ret
        exact ⟨rfl, rfl⟩
    · rw [decide_eq_false (by omega)]
      go_enter Try.func12, Try.ntmps12
      go_wp2
      go_ret
      exact ⟨rfl, rfl⟩
  · rw [decide_eq_false (by omega)]
    go_enter Try.func12, Try.ntmps12
    go_wp2
    go_ret
    exact ⟨rfl, rfl⟩


theorem take_snoc (s : ByteArray) (k : Nat) (h : k < s.size) : s.data.toList.take (k + 1) = s.data.toList.take k ++ [s[k]] := by
  rw [List.take_succ_eq_append_getElem (by simpa using h)]; rfl
theorem drop_cons (s : ByteArray) (k : Nat) (h : k < s.size) : s.data.toList.drop k = s[k] :: s.data.toList.drop (k + 1) := by
  rw [List.drop_eq_getElem_cons (by simpa using h)]; rfl
theorem size_len (s : ByteArray) : s.data.toList.length = s.size := by simp
theorem ret_bool {a b : Bool} (h : a = b) : Ending.returned (.bool a) = .returned (.bool b) := by rw [h]
theorem ret_int {k : IntKind} {a b : Int} (h : a = b) : Ending.returned (.int k a) = .returned (.int k b) := by rw [h]

theorem code_step (s : ByteArray) (k : Nat) (h : k < s.size) (hall : (s.data.toList.take k).all (fun c => codeC c.toNat) = true) (hc : 65 ≤ (s[k].toNat : Int) ∧ (s[k].toNat : Int) ≤ 90) : (s.data.toList.take (k + 1)).all (fun c => codeC c.toNat) = true := by
  rw [take_snoc s k h, List.all_append, hall]
  have : codeC s[k].toNat = true := by unfold codeC; apply decide_eq_true; omega
  simp [this]
theorem code_no (s : ByteArray) (k : Nat) (h : k < s.size) (hc : ¬ (65 ≤ (s[k].toNat : Int) ∧ (s[k].toNat : Int) ≤ 90)) : isCodeB s = false := by
  unfold isCodeB
  have h1 : codeC s[k].toNat = false := by unfold codeC; apply decide_eq_false; omega
  have h2 : (s.data.toList.all fun c => codeC c.toNat) = false := by
    rw [List.all_eq_false]
    exact ⟨s[k], List.getElem_mem (by simpa using h), by simp [h1]⟩
  rw [h2]; simp
theorem code_yes (s : ByteArray) (h3 : s.size = 3) (hall : (s.data.toList.take 3).all (fun c => codeC c.toNat) = true) : isCodeB s = true := by
  unfold isCodeB
  rw [List.take_of_length_le (by simp; omega)] at hall
  rw [hall]; simp [h3]

set_option maxHeartbeats 400000 in
theorem isCode_any (s : ByteArray) (w : World) :
    Calls Try.prog 13 #[.string s] w fun e w' => e = .returned (.bool (isCodeB s)) ∧ w' = w := by
  by_cases h3 : s.size = 3
  · have hT := fun k h => code_step s k h
    have HT : Hid (∀ (k : Nat) (h : k < s.size) (_ : (s.data.toList.take k).all (fun c => codeC c.toNat) = true) (_ : 65 ≤ (s[k].toNat : Int) ∧ (s[k].toNat : Int) ≤ 90), (s.data.toList.take (k + 1)).all (fun c => codeC c.toNat) = true) := hT
    clear hT
    go_enter Try.func13, Try.ntmps13
    go_wp2
    go_loop [3] (fun i => ∃ k : Nat, k ≤ 3 ∧ i = .int .i64 k ∧ (s.data.toList.take k).all (fun c => codeC c.toNat) = true) (fun i => 3 - (intOf i).toNat)
    case atStart => exact ⟨0, by omega, rfl, rfl⟩
    case round =>
      obtain ⟨k, hk, rfl, hall⟩ := hrel
      have HA : Hid ((s.data.toList.take k).all (fun c => codeC c.toNat) = true) := hall
      clear hall
      by_cases hlt : k < 3
      · have hlt' : k < s.size := by omega
        by_cases hc : 65 ≤ (s[k].toNat : Int) ∧ (s[k].toNat : Int) ≤ 90
        · obtain ⟨hc1, hc2⟩ := hc
          go_wp2
          go_round
          case rel => exact ⟨k + 1, by omega, by go_num, HT.out k (by omega) HA.out ⟨hc1, hc2⟩⟩
          case measure => simp [intOf]; omega
        · have hno := code_no s k (by omega) hc
          have HN : Hid (isCodeB s = false) := hno
          clear hno
          by_cases hc1 : (s[k].toNat : Int) < 65
          · clear hc
            go_wp2
            go_ret
            exact ⟨ret_bool HN.out.symm, rfl⟩
          · have hc2 : 90 < (s[k].toNat : Int) := by omega
            clear hc
            go_wp2
            go_ret
            exact ⟨ret_bool HN.out.symm, rfl⟩
      · go_wp2
        go_ret
        have : k = 3 := by omega
        subst this
        exact ⟨ret_bool (code_yes s h3 HA.out).symm, rfl⟩
  · have hc : isCodeB s = false := by simp [isCodeB, h3]
    rw [hc]
    go_enter Try.func13, Try.ntmps13
    go_wp2
    go_ret
    exact ⟨rfl, rfl⟩

theorem packL_snoc (l : List UInt8) (c : UInt8) (n : Int) : packL (l ++ [c]) n = packL l n * 26 + ((c.toNat : Int) - 65) := by
  induction l generalizing n with
  | nil => rfl
  | cons x l ih => simp [packL, ih]
def pk (s : ByteArray) (k : Nat) : Int := packL (s.data.toList.take k) 0
theorem pk_step (s : ByteArray) (k : Nat) (h : k < s.size) : pk s (k + 1) = pk s k * 26 + ((s[k].toNat : Int) - 65) := by
  unfold pk; rw [take_snoc s k h, packL_snoc]
theorem code_at (s : ByteArray) (hc : isCodeB s = true) : s.size = 3 ∧ ∀ (k : Nat) (h : k < s.size), 65 ≤ (s[k].toNat : Int) ∧ (s[k].toNat : Int) ≤ 90 := by
  refine ⟨?_, ?_⟩
  · unfold isCodeB at hc; simp at hc; exact hc.1
  · intro k h
    by_cases hh : 65 ≤ (s[k].toNat : Int) ∧ (s[k].toNat : Int) ≤ 90
    · exact hh
    · rw [code_no s k h hh] at hc; cases hc
def p26 : Nat → Int
  | 0 => 1
  | n + 1 => p26 n * 26
theorem pk_bd (s : ByteArray) (hc : isCodeB s = true) (k : Nat) (h : k ≤ s.size) : 0 ≤ pk s k ∧ pk s k < p26 k := by
  induction k with
  | zero => simp [pk, packL, p26]
  | succ k ih =>
    have := ih (by omega)
    have := (code_at s hc).2 k (by omega)
    rw [pk_step s k (by omega)]
    simp only [p26]
    omega

set_option maxHeartbeats 400000 in
theorem pack_any (s : ByteArray) (w : World) (hc : isCodeB s = true) :
    Calls Try.prog 19 #[.string s] w fun e w' => e = .returned (.int .u16 (pk s 3 + 1)) ∧ w' = w := by
  obtain ⟨h3, hat⟩ := code_at s hc
  have hb := pk_bd s hc
  have hst := pk_step s
  have HB : Hid (∀ k ≤ s.size, 0 ≤ pk s k ∧ pk s k < p26 k) := hb
  have HS : Hid (∀ (k : Nat) (h : k < s.size), pk s (k + 1) = pk s k * 26 + ((s[k].toNat : Int) - 65)) := hst
  have HC : Hid (∀ (k : Nat) (h : k < s.size), 65 ≤ (s[k].toNat : Int) ∧ (s[k].toNat : Int) ≤ 90) := hat
  clear hb hst hat hc
  have he : s.toList.isEmpty = false := by
    rw [ByteArray.toList_eq]
    cases h : s.data.toList with
    | nil => have := size_len s; rw [h] at this; simp at this; omega
    | cons _ _ => rfl
  go_enter Try.func19, Try.ntmps19
  go_wp2
  go_loop [3, 7] (fun n i => ∃ k : Nat, k ≤ 3 ∧ i = .int .i64 k ∧ n = .int .u16 (pk s k)) (fun _ i => 3 - (intOf i).toNat)
  case atStart => exact ⟨0, by omega, rfl, rfl⟩
  case round =>
    obtain ⟨k, hk, rfl, rfl⟩ := hrel
    by_cases hlt : k < 3
    · have hlt' : k < s.size := by omega
      have HS' : Hid (pk s (k + 1) = pk s k * 26 + ((s[k].toNat : Int) - 65)) := HS.out k hlt'
      obtain ⟨hc1, hc2⟩ := HC.out k hlt'
      obtain ⟨hb1, hb2⟩ := HB.out k (by omega)
      have hb3 : pk s k < 676 := by
        have : k = 0 ∨ k = 1 ∨ k = 2 := by omega
        rcases this with rfl | rfl | rfl <;> simp [p26] at hb2 <;> omega
      clear hb2
      go_wp2
      go_round
      case rel => exact ⟨k + 1, by omega, by go_num, by rw [HS'.out]⟩
      case measure => simp [intOf]; omega
    · have : k = 3 := by omega
      subst this
      obtain ⟨hb1, hb2⟩ := HB.out 3 (by omega)
      have hb3 : pk s 3 < 17576 := by simpa [p26] using hb2
      clear hb2
      go_wp2
      go_ret
      exact ⟨rfl, rfl⟩

set_option maxHeartbeats 400000 in
theorem pack_empty (s : ByteArray) (w : World) (hs : s.size = 0) :
    Calls Try.prog 19 #[.string s] w fun e w' => e = .returned (.int .u16 0) ∧ w' = w := by
  have he : s.toList.isEmpty = true := by
    rw [ByteArray.toList_eq]
    cases h : s.data.toList with
    | nil => rfl
    | cons _ _ => have := size_len s; rw [h] at this; simp at this; omega
  go_enter Try.func19, Try.ntmps19
  go_wp2
  go_ret
  exact ⟨rfl, rfl⟩

def pkv (s : ByteArray) : Int := if s.size = 0 then 0 else pk s 3 + 1
set_option maxHeartbeats 400000 in
theorem zpack_any (s : ByteArray) (w : World) (hc : s.size = 0 ∨ isCodeB s = true) :
    Calls Try.prog 14 #[.string s] w fun e w' => e = .returned (.int .u16 (pkv s)) ∧ w' = w := by
  have key : Calls Try.prog 19 #[.string s] w fun e w' => e = .returned (.int .u16 (pkv s)) ∧ w' = w := by
    rcases hc with h | h
    · have : pkv s = 0 := by simp [pkv, h]
      rw [this]; exact pack_empty s w h
    · have h3 := (code_at s h).1
      have : pkv s = pk s 3 + 1 := by simp [pkv, h3]
      rw [this]; exact pack_any s w h
  go_enter Try.func14, Try.ntmps14
  go_wp2_with fail
  refine key.mono ?_
  rintro e w' ⟨rfl, rfl⟩
  go_wp2
  go_ret
  exact ⟨rfl, rfl⟩

/-- 'less' from place k on -/
def lessAt (a b : ByteArray) (k : Nat) : Bool := lessL (a.data.toList.drop k) (b.data.toList.drop k)
theorem less_same (a b : ByteArray) (k : Nat) (ha : k < a.size) (hb : k < b.size) (h : (a[k].toNat : Int) = b[k].toNat) : lessAt a b k = lessAt a b (k + 1) := by
  unfold lessAt; rw [drop_cons a k ha, drop_cons b k hb]; simp only [lessL]; rw [if_pos (by omega)]
theorem less_diff (a b : ByteArray) (k : Nat) (ha : k < a.size) (hb : k < b.size) (h : ¬ (a[k].toNat : Int) = b[k].toNat) : lessAt a b k = decide ((a[k].toNat : Int) < b[k].toNat) := by
  unfold lessAt; rw [drop_cons a k ha, drop_cons b k hb]; simp only [lessL]; rw [if_neg (by omega)]; simp
theorem less_end (a b : ByteArray) (k : Nat) (h : k = a.size ∧ k ≤ b.size ∨ k = b.size ∧ k ≤ a.size) : lessAt a b k = decide (a.size < b.size) := by
  unfold lessAt
  rcases h with ⟨h, h2⟩ | ⟨h, h2⟩
  · rw [List.drop_of_length_le (by simp; omega)]
    by_cases hb : k < b.size
    · rw [drop_cons b k hb]; simp [lessL]; omega
    · rw [List.drop_of_length_le (l := b.data.toList) (by simp; omega)]; simp [lessL]; omega
  · rw [List.drop_of_length_le (l := b.data.toList) (by simp; omega)]
    by_cases ha : k < a.size
    · rw [drop_cons a k ha]; simp [lessL]; omega
    · rw [List.drop_of_length_le (l := a.data.toList) (by simp; omega)]; simp [lessL]; omega

set_option maxHeartbeats 400000 in
theorem less_any (a b : ByteArray) (w : World) (ha : a.size ≤ 1048576) (hb : b.size ≤ 1048576) :
    Calls Try.prog 15 #[.string a, .string b] w fun e w' => e = .returned (.bool (lessAt a b 0)) ∧ ∃ n, w' = w.drewN n := by
  obtain ⟨m, hm, hma, hmb⟩ : ∃ m : Nat, m = (if b.size < a.size then b.size else a.size) ∧ m ≤ a.size ∧ m ≤ b.size := ⟨_, rfl, by split <;> omega, by split <;> omega⟩
  have HM : Hid (m = (if b.size < a.size then b.size else a.size)) := hm
  clear hm
  have he : m = a.size ∧ m ≤ b.size ∨ m = b.size ∧ m ≤ a.size := by
    have := HM.out; split at this <;> omega
  have HE : Hid (m = a.size ∧ m ≤ b.size ∨ m = b.size ∧ m ≤ a.size) := he
  clear he
  by_cases hab : b.size < a.size
  all_goals
    have hmm : m = (if b.size < a.size then b.size else a.size) := HM.out
    first | rw [if_pos hab] at hmm | rw [if_neg hab] at hmm
    have HMM : Hid (_) := hmm
    clear hmm
    go_enter Try.func15, Try.ntmps15
    go_wp2
    rw [← HMM.out]
    go_loopw [6] (fun i w' => ∃ k n : Nat, k ≤ m ∧ i = .int .i64 k ∧ w' = w.drewN n ∧ lessAt a b 0 = lessAt a b k) (fun i _ => m - (intOf i).toNat)
    case atStart => exact ⟨0, 0, by omega, rfl, rfl, rfl⟩
    case round =>
      obtain ⟨k, n, hk, rfl, rfl, hl⟩ := hrel
      have HL : Hid (lessAt a b 0 = lessAt a b k) := hl
      clear hl
      by_cases hlt : k < m
      · have hka : k < a.size := by omega
        have hkb : k < b.size := by omega
        have i1 : (k : Int) < (a.size : Int) := by omega
        have i2 : (k : Int) < (b.size : Int) := by omega
        by_cases hc : (a[k].toNat : Int) = b[k].toNat
        · have hb1 : ((a[k].toNat : Int) != b[k].toNat) = false := by simp [hc]
          have HS : Hid (lessAt a b k = lessAt a b (k + 1)) := less_same a b k hka hkb hc
          clear hc
          go_wp2
          go_quiet (fail)
          go_wp2
          go_roundw
          case rel => exact ⟨k + 1, _, by omega, by go_num, rfl, by rw [HL.out, HS.out]⟩
          case measure => simp [intOf]; omega
        · have hb1 : ((a[k].toNat : Int) != b[k].toNat) = true := by simp [hc]
          have HS : Hid (lessAt a b k = decide ((a[k].toNat : Int) < b[k].toNat)) := less_diff a b k hka hkb hc
          clear hc
          go_wp2
          go_quiet (fail)
          go_wp2
          go_quiet (fail)
          go_wp2
          go_ret
          refine ⟨ret_bool (by rw [HL.out, HS.out]; simp), ?_⟩
          exact ⟨_, by rw [World.drewN_drewN, World.drewN_drewN]⟩
      · have : k = m := by omega
        subst this
        go_wp2
        go_ret
        exact ⟨ret_bool (by rw [HL.out, less_end a b k HE.out]), _, rfl⟩

/-! ### the plain law -/
theorem list3 (l : List UInt8) (h : l.length = 3) : ∃ x y z, l = [x, y, z] := by
  match l, h with
  | [x, y, z], _ => exact ⟨x, y, z, rfl⟩
theorem code_list (s : ByteArray) (h : isCodeB s = true) : ∃ x y z : UInt8, s.data.toList = [x, y, z] ∧ (65 ≤ x.toNat ∧ x.toNat ≤ 90) ∧ (65 ≤ y.toNat ∧ y.toNat ≤ 90) ∧ 65 ≤ z.toNat ∧ z.toNat ≤ 90 := by
  unfold isCodeB at h
  rw [Bool.and_eq_true, beq_iff_eq] at h
  obtain ⟨x, y, z, hl⟩ := list3 _ h.1
  refine ⟨x, y, z, hl, ?_⟩
  have := h.2
  rw [hl] at this
  simp [codeC] at this
  omega
theorem pk3 (s : ByteArray) (x y z : UInt8) (h : s.data.toList = [x, y, z]) : pk s 3 = ((x.toNat : Int) - 65) * 676 + ((y.toNat : Int) - 65) * 26 + ((z.toNat : Int) - 65) := by
  unfold pk; rw [h]; simp [packL]; omega
theorem u8_eq (x y : UInt8) : x = y ↔ x.toNat = y.toNat := ⟨fun h => by rw [h], fun h => UInt8.toNat_inj.1 h⟩
theorem nil_of (s : ByteArray) (h : s.size = 0) : s.data.toList = [] := by
  rw [← List.length_eq_zero_iff, size_len, h]
theorem keeps (a b : ByteArray) (ha : a.size = 0 ∨ isCodeB a = true) (hb : b.size = 0 ∨ isCodeB b = true) :
    lessAt a b 0 = decide (pkv a < pkv b) ∧ ((a.toList == b.toList) = (pkv a == pkv b)) ∧ (0 ≤ pkv a ∧ pkv a ≤ 17576) ∧ 0 ≤ pkv b ∧ pkv b ≤ 17576 := by
  rw [ByteArray.toList_eq, ByteArray.toList_eq]
  unfold lessAt
  simp only [List.drop_zero]
  rcases ha with ha | ha
  · have la := nil_of a ha
    have va : pkv a = 0 := by simp [pkv, ha]
    rcases hb with hb | hb
    · have lb := nil_of b hb
      have vb : pkv b = 0 := by simp [pkv, hb]
      rw [la, lb, va, vb]; simp [lessL]
    · obtain ⟨x, y, z, lb, h1, h2, h3⟩ := code_list b hb
      have vb : pkv b = pk b 3 + 1 := by simp [pkv, (code_at b hb).1]
      have := pk3 b x y z lb
      rw [la, lb, va, vb]; simp [lessL]; omega
  · obtain ⟨x, y, z, la, h1, h2, h3⟩ := code_list a ha
    have va : pkv a = pk a 3 + 1 := by simp [pkv, (code_at a ha).1]
    have e1 := pk3 a x y z la
    rcases hb with hb | hb
    · have lb := nil_of b hb
      have vb : pkv b = 0 := by simp [pkv, hb]
      rw [la, lb, va, vb]; simp [lessL]; omega
    · obtain ⟨x', y', z', lb, k1, k2, k3⟩ := code_list b hb
      have vb : pkv b = pk b 3 + 1 := by simp [pkv, (code_at b hb).1]
      have e2 := pk3 b x' y' z' lb
      rw [la, lb, va, vb]
      refine ⟨?_, ?_, ⟨by omega, by omega⟩, by omega, by omega⟩
      · simp only [lessL]
        by_cases q1 : x.toNat = x'.toNat
        · rw [if_pos q1]
          by_cases q2 : y.toNat = y'.toNat
          · rw [if_pos q2]
            by_cases q3 : z.toNat = z'.toNat
            · rw [if_pos q3]; simp; omega
            · rw [if_neg q3]; simp; omega
          · rw [if_neg q2]; simp; omega
        · rw [if_neg q1]; simp; omega
      · rw [Bool.eq_iff_iff, beq_iff_eq, beq_iff_eq]
        simp only [List.cons.injEq, and_true, u8_eq]
        omega
end Go.Proofs.Qxb6601178a
