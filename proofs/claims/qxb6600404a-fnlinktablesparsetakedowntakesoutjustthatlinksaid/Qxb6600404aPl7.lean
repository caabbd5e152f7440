import Derived.Test.Qxb6600404aTkT
namespace Go.Proofs.Qxb6600404a
open Go.RowKit
set_option linter.unusedVariables false

def Asc : Int → List (Int × Int) → Prop
  | _, [] => True
  | b, p :: R => b < p.1 ∧ p.1 < p.2 ∧ Asc p.2 R

theorem Asc.mono {b b' : Int} (h : b ≤ b') : ∀ {R : List (Int × Int)}, Asc b' R → Asc b R
  | [], _ => trivial
  | _ :: _, h' => ⟨by have := h'.1; omega, h'.2⟩

theorem asc_of_idx : ∀ (R : List (Int × Int)) (b : Int), (∀ i, i < R.length → (R.getD i (0, 0)).1 < (R.getD i (0, 0)).2) → (0 < R.length → b < (R.getD 0 (0, 0)).1) → (∀ i, i + 1 < R.length → (R.getD i (0, 0)).2 < (R.getD (i + 1) (0, 0)).1) → Asc b R
  | [], _, _, _, _ => trivial
  | p :: R, b, h1, h2, h3 => by
    refine ⟨by simpa using h2 (by simp), by simpa using h1 0 (by simp), ?_⟩
    refine asc_of_idx R p.2 (fun i hi => by simpa using h1 (i + 1) (by simpa using hi)) (fun h => ?_) (fun i hi => by simpa using h3 (i + 1) (by simpa using hi))
    simpa using h3 0 (by simpa using h)

theorem idx_of_asc : ∀ (R : List (Int × Int)) (b : Int), Asc b R → (∀ i, i < R.length → (R.getD i (0, 0)).1 < (R.getD i (0, 0)).2 ∧ b < (R.getD i (0, 0)).1) ∧ (∀ i, i + 1 < R.length → (R.getD i (0, 0)).2 < (R.getD (i + 1) (0, 0)).1)
  | [], _, _ => ⟨fun i hi => by simp at hi, fun i hi => by simp at hi⟩
  | p :: R, b, h => by
    have ih := idx_of_asc R p.2 h.2.2
    refine ⟨fun i hi => ?_, fun i hi => ?_⟩
    · cases i with
      | zero => simpa using ⟨h.2.1, h.1⟩
      | succ i =>
        have := ih.1 i (by simpa using hi)
        have h1 := h.1
        have h2 := h.2.1
        simp only [List.getD_cons_succ]
        exact ⟨this.1, by omega⟩
    · cases i with
      | zero =>
        have := (ih.1 0 (by simpa using hi)).2
        simpa using this
      | succ i => simpa using ih.2 i (by simpa using hi)

theorem asc_rem {r : Int × Int} {j : Int} (h1 : r.1 ≤ j) (h2 : j < r.2) {C : List (Int × Int)} : ∀ (A : List (Int × Int)) (b : Int), Asc b (A ++ r :: C) → Asc b (A ++ mid r j ++ C)
  | [], b, h => by
    obtain ⟨e1, e2, e3⟩ := h
    unfold mid
    by_cases q1 : r.1 < j
    · rw [if_pos q1]
      by_cases q2 : j + 1 < r.2
      · rw [if_pos q2]
        exact ⟨e1, q1, by omega, q2, e3⟩
      · rw [if_neg q2]
        exact ⟨e1, q1, e3.mono (by omega)⟩
    · rw [if_neg q1]
      by_cases q2 : j + 1 < r.2
      · rw [if_pos q2]
        exact ⟨by show b < j + 1; omega, q2, e3⟩
      · rw [if_neg q2]
        exact e3.mono (by omega)
  | p :: A, b, h => ⟨h.1, h.2.1, asc_rem h1 h2 A p.2 h.2.2⟩

theorem asc_before {r : Int × Int} {C : List (Int × Int)} : ∀ (A : List (Int × Int)) (b : Int), Asc b (A ++ r :: C) → b < r.1 ∧ ∀ p ∈ A, p.2 < r.1
  | [], b, h => ⟨h.1, fun p hp => by cases hp⟩
  | p :: A, b, h => by
    have ih := asc_before A p.2 h.2.2
    have h1 := h.1
    have h2 := h.2.1
    refine ⟨by omega, fun q hq => ?_⟩
    rcases List.mem_cons.1 hq with rfl | hq
    · exact ih.1
    · exact ih.2 q hq
theorem asc_low : ∀ (R : List (Int × Int)) (b : Int), Asc b R → ∀ p ∈ R, b < p.1
  | [], _, _, p, hp => by cases hp
  | q :: R, b, h, p, hp => by
    rcases List.mem_cons.1 hp with rfl | hp
    · exact h.1
    · have := asc_low R q.2 h.2.2 p hp
      have h1 := h.1
      have h2 := h.2.1
      omega
theorem asc_after {r : Int × Int} {C : List (Int × Int)} : ∀ (A : List (Int × Int)) (b : Int), Asc b (A ++ r :: C) → ∀ p ∈ C, r.2 < p.1
  | [], b, h => asc_low C r.2 h.2.2
  | q :: A, b, h => asc_after A q.2 h.2.2

def sm : List (Int × Int) → Int
  | [] => 0
  | p :: R => (p.2 - p.1) + sm R
theorem sm_append : ∀ (A C : List (Int × Int)), sm (A ++ C) = sm A + sm C
  | [], C => by simp [sm]
  | p :: A, C => by simp only [List.cons_append, sm, sm_append A C]; omega
theorem sm_mid {r : Int × Int} {j : Int} (h1 : r.1 ≤ j) (h2 : j < r.2) : sm (mid r j) = r.2 - r.1 - 1 := by
  unfold mid
  by_cases q1 : r.1 < j
  · rw [if_pos q1]
    by_cases q2 : j + 1 < r.2
    · rw [if_pos q2]; simp [sm]; omega
    · rw [if_neg q2]; simp [sm]; omega
  · rw [if_neg q1]
    by_cases q2 : j + 1 < r.2
    · rw [if_pos q2]; simp [sm]; omega
    · rw [if_neg q2]; simp [sm]; omega
theorem mem_mid {r : Int × Int} {j : Int} (h1 : r.1 ≤ j) (h2 : j < r.2) {p : Int × Int} (hp : p ∈ mid r j) : r.1 ≤ p.1 ∧ p.2 ≤ r.2 ∧ ¬ (p.1 ≤ j ∧ j < p.2) := by
  unfold mid at hp
  rcases List.mem_append.1 hp with hp | hp
  · by_cases q1 : r.1 < j
    · rw [if_pos q1] at hp
      rw [List.mem_singleton] at hp
      subst hp
      exact ⟨by show r.1 ≤ r.1; omega, by show j ≤ r.2; omega, by show ¬ (r.1 ≤ j ∧ j < j); omega⟩
    · rw [if_neg q1] at hp; cases hp
  · by_cases q2 : j + 1 < r.2
    · rw [if_pos q2] at hp
      rw [List.mem_singleton] at hp
      subst hp
      exact ⟨by show r.1 ≤ j + 1; omega, by show r.2 ≤ r.2; omega, by show ¬ (j + 1 ≤ j ∧ j < r.2); omega⟩
    · rw [if_neg q2] at hp; cases hp
theorem mid_len (r : Int × Int) (j : Int) : (mid r j).length ≤ 2 := by
  unfold mid
  split <;> split <;> simp

theorem getD_fst (R : List (Int × Int)) (i : Nat) : (R.map Prod.fst).getD i 0 = (R.getD i (0, 0)).1 := by
  simp only [List.getD_eq_getElem?_getD, List.getElem?_map]
  cases R[i]? <;> rfl
theorem getD_snd (R : List (Int × Int)) (i : Nat) : (R.map Prod.snd).getD i 0 = (R.getD i (0, 0)).2 := by
  simp only [List.getD_eq_getElem?_getD, List.getElem?_map]
  cases R[i]? <;> rfl
theorem getD_memP {R : List (Int × Int)} {i : Nat} (h : i < R.length) : R.getD i (0, 0) ∈ R := by
  rw [List.getD_eq_getElem?_getD, List.getElem?_eq_getElem h, Option.getD_some]
  exact List.getElem_mem h
theorem mem_getDP {R : List (Int × Int)} {p : Int × Int} (h : p ∈ R) : ∃ i, i < R.length ∧ R.getD i (0, 0) = p := by
  obtain ⟨i, hi, rfl⟩ := List.getElem_of_mem h
  exact ⟨i, hi, by rw [List.getD_eq_getElem?_getD, List.getElem?_eq_getElem hi, Option.getD_some]⟩

theorem tot_drop (R : List (Int × Int)) : ∀ k, k ≤ R.length → tot (R.map Prod.fst) (R.map Prod.snd) k = sm (R.take k)
  | 0, _ => by simp [tot, sm]
  | k + 1, h => by
    rw [tot, tot_drop R k (by omega), getD_fst, getD_snd]
    rw [List.take_succ_eq_append_getElem (by omega), sm_append]
    rw [List.getD_eq_getElem?_getD, List.getElem?_eq_getElem (by omega), Option.getD_some]
    simp [sm]

theorem unzip_of {lo hi : List Int} (h : lo.length = hi.length) : (lo.zip hi).map Prod.fst = lo ∧ (lo.zip hi).map Prod.snd = hi :=
  ⟨List.map_fst_zip (by omega), List.map_snd_zip (by omega)⟩

theorem canon_asc {R : List (Int × Int)} (h : Canon (R.map Prod.fst) (R.map Prod.snd)) : Asc (-1152921504606846976) R ∧ ∀ p ∈ R, p.2 ≤ 1152921504606846975 := by
  refine ⟨asc_of_idx R _ (fun i hi => ?_) (fun h0 => ?_) (fun i hi => ?_), fun p hp => ?_⟩
  · have := (h.2.1 i (by simpa using hi)).2.2
    rwa [getD_fst, getD_snd] at this
  · have := (h.2.1 0 (by simpa using h0)).1
    rw [getD_fst] at this; omega
  · have := h.2.2 i (by simpa using hi)
    rwa [getD_fst, getD_snd] at this
  · obtain ⟨i, hi, rfl⟩ := mem_getDP hp
    have := (h.2.1 i (by simpa using hi)).2.1
    rwa [getD_snd] at this
theorem asc_canon {R : List (Int × Int)} (h : Asc (-1152921504606846976) R) (h2 : ∀ p ∈ R, p.2 ≤ 1152921504606846975) : Canon (R.map Prod.fst) (R.map Prod.snd) := by
  have hx := idx_of_asc R _ h
  refine ⟨by simp, fun i hi => ?_, fun i hi => ?_⟩
  · have hi' : i < R.length := by simpa using hi
    rw [getD_fst, getD_snd]
    have := hx.1 i hi'
    have := h2 _ (getD_memP hi')
    omega
  · rw [getD_fst, getD_snd]
    exact hx.2 i (by simpa using hi)

/-- THE PLAIN LAW: the runs with j taken out -/
theorem rem_plain {lo hi : List Int} {u j : Int} (hc : CanS lo hi u) {A C : List (Int × Int)} {r : Int × Int} (hs : lo.zip hi = A ++ r :: C) (h1 : r.1 ≤ j) (h2 : j < r.2) :
    CanS ((A ++ mid r j ++ C).map Prod.fst) ((A ++ mid r j ++ C).map Prod.snd) (u - 1) ∧
    Within ((A ++ mid r j ++ C).map Prod.fst) ((A ++ mid r j ++ C).map Prod.snd) lo hi ∧
    ¬ InRuns ((A ++ mid r j ++ C).map Prod.fst) ((A ++ mid r j ++ C).map Prod.snd) j ∧ (A ++ mid r j ++ C).length ≤ lo.length + 1 := by
  obtain ⟨e1, e2⟩ := unzip_of hc.1.1
  have hcan : Canon ((lo.zip hi).map Prod.fst) ((lo.zip hi).map Prod.snd) := by rw [e1, e2]; exact hc.1
  rw [hs] at hcan
  obtain ⟨ha, hb⟩ := canon_asc hcan
  have ha' := asc_rem h1 h2 A _ ha
  have hb' : ∀ p ∈ A ++ mid r j ++ C, p.2 ≤ 1152921504606846975 := by
    intro p hp
    rcases List.mem_append.1 hp with hp | hp
    · rcases List.mem_append.1 hp with hp | hp
      · exact hb p (by simp [hp])
      · have := (mem_mid h1 h2 hp).2.1
        have := hb r (by simp)
        omega
    · exact hb p (by simp [hp])
  have hC' := asc_canon ha' hb'
  have hzl : (lo.zip hi).length = lo.length := by rw [List.length_zip, ← hc.1.1]; simp
  refine ⟨⟨hC', ?_⟩, ⟨by simp, fun i hi0 => ?_, fun i hi0 => ?_⟩, ?_, ?_⟩
  · rw [List.length_map, tot_drop _ _ (Nat.le_refl _), List.take_length, sm_append, sm_append, sm_mid h1 h2]
    have ht : tot ((lo.zip hi).map Prod.fst) ((lo.zip hi).map Prod.snd) (lo.zip hi).length = u := by rw [e1, e2, hzl]; exact hc.2
    rw [tot_drop _ _ (Nat.le_refl _), List.take_length, hs, sm_append, sm] at ht
    omega
  · have q1 := (hC'.2.1 i (by omega)).2.2
    have q2 := hC'.2.2 i hi0
    omega
  · have hi' : i < (A ++ mid r j ++ C).length := by simpa using hi0
    have hm := getD_memP hi'
    have hlt := (idx_of_asc _ _ ha').1 i hi'
    have : ∃ q ∈ lo.zip hi, q.1 ≤ ((A ++ mid r j ++ C).getD i (0, 0)).1 ∧ ((A ++ mid r j ++ C).getD i (0, 0)).2 ≤ q.2 := by
      rw [hs]
      rcases List.mem_append.1 hm with hp | hp
      · rcases List.mem_append.1 hp with hp | hp
        · exact ⟨_, List.mem_append_left _ hp, Int.le_refl _, Int.le_refl _⟩
        · have := mem_mid h1 h2 hp
          exact ⟨r, by simp, this.1, this.2.1⟩
      · exact ⟨_, List.mem_append_right _ (List.mem_cons_of_mem _ hp), Int.le_refl _, Int.le_refl _⟩
    obtain ⟨q, hq, hq1, hq2⟩ := this
    obtain ⟨m, hm', rfl⟩ := mem_getDP hq
    rw [hzl] at hm'
    rw [zip_getD lo hi m hc.1.1 hm'] at hq1 hq2
    rw [getD_fst, getD_snd]
    exact ⟨m, hm', hq1, hlt.1, hq2⟩
  · rintro ⟨i, hi0, k1, k2⟩
    have hi' : i < (A ++ mid r j ++ C).length := by simpa using hi0
    rw [getD_fst] at k1
    rw [getD_snd] at k2
    have hm := getD_memP hi'
    rcases List.mem_append.1 hm with hp | hp
    · rcases List.mem_append.1 hp with hp | hp
      · have := (asc_before A _ ha).2 _ hp
        omega
      · exact (mem_mid h1 h2 hp).2.2 ⟨k1, k2⟩
    · have := asc_after A _ ha _ hp
      omega
  · rw [← hzl, hs]
    have := mid_len r j
    simp; omega
end Go.Proofs.Qxb6600404a
