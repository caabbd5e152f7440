import Derived.Test.Qxb6601170aLayers
namespace Go.Proofs.Qxb6601170a
set_option linter.unusedVariables false

/-- how many places are not reached -/
def cnt : List Int → Nat
  | [] => 0
  | z :: zs => (if z < 0 then 1 else 0) + cnt zs
theorem cnt_set : ∀ (d : List Int) (t : Nat) (v : Int), t < d.length → d.getD t 0 < 0 → 0 ≤ v → cnt (d.set t v) + 1 = cnt d
  | [], t, v, h, _, _ => by simp at h
  | z :: zs, 0, v, _, h1, h2 => by
    simp only [List.getD_cons_zero] at h1
    simp only [List.set_cons_zero, cnt, if_pos h1, if_neg (show ¬ v < 0 by omega)]; omega
  | z :: zs, t + 1, v, h, h1, h2 => by
    simp only [List.length_cons] at h
    have := cnt_set zs t v (by omega) (by simpa using h1) h2
    simp only [List.set_cons_succ, cnt]; omega
theorem cnt_pos : ∀ (d : List Int) (t : Nat), t < d.length → d.getD t 0 < 0 → 0 < cnt d
  | [], t, h, _ => by simp at h
  | z :: zs, 0, _, h1 => by
    simp only [List.getD_cons_zero] at h1
    simp only [cnt, if_pos h1]; omega
  | z :: zs, t + 1, h, h1 => by
    simp only [List.length_cons] at h
    have := cnt_pos zs t (by omega) (by simpa using h1)
    simp only [cnt]; omega
theorem cnt_rep (n : Nat) : cnt (List.replicate n (-1)) = n := by
  induction n with
  | zero => rfl
  | succ n ih => rw [List.replicate_succ]; simp only [cnt, ih]; simp; omega

theorem getD_set_eq (d : List Int) (t : Nat) (v : Int) (h : t < d.length) : (d.set t v).getD t 0 = v := by
  simp [List.getD_eq_getElem?_getD, h]
theorem getD_set_ne (d : List Int) (t u : Nat) (v : Int) (h : t ≠ u) : (d.set t v).getD u 0 = d.getD u 0 := by
  simp [List.getD_eq_getElem?_getD, List.getElem?_set_ne h]
theorem snoc_getD' (q : List Nat) (t a : Nat) (h : a < q.length) : (q ++ [t]).getD a 0 = q.getD a 0 := by
  simp [List.getD_eq_getElem?_getD, List.getElem?_append_left h]
theorem snoc_last' (q : List Nat) (t : Nat) : (q ++ [t]).getD q.length 0 = t := by simp [List.getD_eq_getElem?_getD]

theorem getD_mem' {l : List Int} {p : Nat} (h : p < l.length) : l.getD p 0 ∈ l := by
  rw [List.getD_eq_getElem?_getD, List.getElem?_eq_getElem h]
  exact List.getElem_mem _
/-- the search's state: q's first i nodes are done, of node i the first p targets -/
structure Inv (n : Nat) (E : Nat → List Int) (i p : Nat) (d : List Int) (q : List Nat) : Prop where
  len : d.length = n
  iq : i ≤ q.length
  cnt : q.length + cnt d = n
  qn : ∀ a, a < q.length → q.getD a 0 < n
  vis : ∀ v, v < n → 0 ≤ d.getD v 0 → ∃ a, a < q.length ∧ q.getD a 0 = v
  qv : ∀ a, a < q.length → 0 ≤ d.getD (q.getD a 0) 0
  unv : ∀ v, v < n → -1 ≤ d.getD v 0
  q0 : 0 < q.length
  q00 : q.getD 0 0 = 0
  d0 : d.getD 0 0 = 0
  mono : ∀ a b, a ≤ b → b < q.length → d.getD (q.getD a 0) 0 ≤ d.getD (q.getD b 0) 0
  cap : i < q.length → ∀ b, b < q.length → d.getD (q.getD b 0) 0 ≤ d.getD (q.getD i 0) 0 + 1
  small : ∀ a, a < q.length → d.getD (q.getD a 0) 0 ≤ a
  closed : ∀ a, a < i → ∀ t ∈ E (q.getD a 0), 0 ≤ t → 0 ≤ d.getD t.toNat 0 ∧ d.getD t.toNat 0 ≤ d.getD (q.getD a 0) 0 + 1
  part : i < q.length → ∀ b, b < p → 0 ≤ (E (q.getD i 0)).getD b 0 → 0 ≤ d.getD ((E (q.getD i 0)).getD b 0).toNat 0 ∧ d.getD ((E (q.getD i 0)).getD b 0).toNat 0 ≤ d.getD (q.getD i 0) 0 + 1
  par : ∀ v, v < n → v ≠ 0 → 0 ≤ d.getD v 0 → ∃ u, u < n ∧ 0 ≤ d.getD u 0 ∧ (v : Int) ∈ E u ∧ d.getD v 0 = d.getD u 0 + 1

theorem Inv.qlen {n : Nat} {E : Nat → List Int} {i p : Nat} {d : List Int} {q : List Nat} (h : Inv n E i p d q) : q.length ≤ n := by have := h.cnt; omega

theorem rep_getD (n v : Nat) (x : Int) (h : v < n) : (List.replicate n x).getD v 0 = x := by simp [List.getD_eq_getElem?_getD, h]

theorem Inv.start (n : Nat) (E : Nat → List Int) (hn : 1 ≤ n) : Inv n E 0 0 ((List.replicate n (-1)).set 0 0) [0] := by
  have e0 : ((List.replicate n (-1 : Int)).set 0 0).getD 0 0 = 0 := getD_set_eq _ _ _ (by simp; omega)
  have e1 : ∀ v, v < n → v ≠ 0 → ((List.replicate n (-1 : Int)).set 0 0).getD v 0 = -1 := fun v hv h0 => by
    rw [getD_set_ne _ _ _ _ (fun h => h0 h.symm), rep_getD _ _ _ hv]
  have hq : ∀ a, a < [0].length → ([0] : List Nat).getD a 0 = 0 := fun a ha => by
    simp only [List.length_cons, List.length_nil] at ha
    have : a = 0 := by omega
    subst this; rfl
  refine ⟨by simp, by simp, ?_, ?_, ?_, ?_, ?_, by simp, rfl, e0, ?_, ?_, ?_, ?_, ?_, ?_⟩
  · have := cnt_set (List.replicate n (-1)) 0 0 (by simp; omega) (by rw [rep_getD _ _ _ (by omega)]; decide) (by omega)
    rw [cnt_rep] at this; simp; omega
  · intro a ha; rw [hq a ha]; omega
  · intro v hv h0
    by_cases hv0 : v = 0
    · exact ⟨0, by simp, by rw [hv0]; rfl⟩
    · rw [e1 v hv hv0] at h0; omega
  · intro a ha; rw [hq a ha, e0]; omega
  · intro v hv
    by_cases hv0 : v = 0
    · rw [hv0, e0]; omega
    · rw [e1 v hv hv0]; omega
  · intro a b hab hb; rw [hq a (by omega), hq b hb]; omega
  · intro _ b hb; rw [hq b hb, hq 0 (by simp)]; omega
  · intro a ha; rw [hq a ha, e0]; omega
  · intro a ha; omega
  · intro _ b hb; omega
  · intro v hv hv0 h0; rw [e1 v hv hv0] at h0; omega

theorem Inv.keep {n : Nat} {E : Nat → List Int} {i p : Nat} {d : List Int} {q : List Nat} (h : Inv n E i p d q) (hi : i < q.length) (ht : (E (q.getD i 0)).getD p 0 < n)
    (hno : (E (q.getD i 0)).getD p 0 < 0 ∨ 0 ≤ d.getD ((E (q.getD i 0)).getD p 0).toNat 0) : Inv n E i (p + 1) d q := by
  refine { h with part := ?_ }
  intro _ b hb h0
  rcases Nat.lt_succ_iff_lt_or_eq.1 hb with hb | rfl
  · exact h.part hi b hb h0
  · rcases hno with hno | hno
    · omega
    · refine ⟨hno, ?_⟩
      obtain ⟨a, ha, hq⟩ := h.vis ((E (q.getD i 0)).getD b 0).toNat (by omega) hno
      have := h.cap hi a ha
      rw [hq] at this
      exact this

theorem Inv.push {n : Nat} {E : Nat → List Int} {i p : Nat} {d : List Int} {q : List Nat} (h : Inv n E i p d q) (hi : i < q.length) (hp : p < (E (q.getD i 0)).length) (t : Nat) (he : (E (q.getD i 0)).getD p 0 = t) (ht : t < n)
    (hno : d.getD t 0 < 0) : Inv n E i (p + 1) (d.set t (d.getD (q.getD i 0) 0 + 1)) (q ++ [t]) := by
  have hl := h.len
  have htd : t < d.length := by omega
  have hu := h.qv i hi
  obtain ⟨x, hx⟩ : ∃ x, x = d.getD (q.getD i 0) 0 + 1 := ⟨_, rfl⟩
  rw [← hx]
  have hx1 : 0 ≤ x := by omega
  have e0 : (d.set t x).getD t 0 = x := getD_set_eq _ _ _ htd
  have e1 : ∀ v, v ≠ t → (d.set t x).getD v 0 = d.getD v 0 := fun v hv => getD_set_ne _ _ _ _ (fun h => hv h.symm)
  have hqt : ∀ a, a < q.length → q.getD a 0 ≠ t := fun a ha e => by have := h.qv a ha; rw [e] at this; omega
  have eq1 : ∀ a, a < q.length → (q ++ [t]).getD a 0 = q.getD a 0 := fun a ha => snoc_getD' q t a ha
  have dq : ∀ a, a < q.length → (d.set t x).getD ((q ++ [t]).getD a 0) 0 = d.getD (q.getD a 0) 0 := fun a ha => by rw [eq1 a ha, e1 _ (hqt a ha)]
  have dl : (d.set t x).getD ((q ++ [t]).getD q.length 0) 0 = x := by rw [snoc_last', e0]
  have hlen : (q ++ [t]).length = q.length + 1 := by simp
  have up : ∀ v, v < n → 0 ≤ d.getD v 0 → (d.set t x).getD v 0 = d.getD v 0 := fun v hv h0 => e1 v (fun e => by rw [e] at h0; omega)
  have hz : 0 ≠ t := fun e => by have := h.d0; rw [e] at this; omega
  have hui : (q.getD i 0) < n := h.qn i hi
  have lt1 : ∀ a, a < (q ++ [t]).length → a < q.length ∨ a = q.length := fun a ha => by omega
  refine ⟨by simp [hl], by omega, ?_, ?_, ?_, ?_, ?_, by omega, ?_, ?_, ?_, ?_, ?_, ?_, ?_, ?_⟩
  · have := cnt_set d t x htd hno hx1
    have := h.cnt; omega
  · intro a ha
    rcases lt1 a ha with ha | rfl
    · rw [eq1 a ha]; exact h.qn a ha
    · rw [snoc_last']; exact ht
  · intro v hv h0
    by_cases hvt : v = t
    · exact ⟨q.length, by omega, by rw [snoc_last', hvt]⟩
    · rw [e1 v hvt] at h0
      obtain ⟨a, ha, e⟩ := h.vis v hv h0
      exact ⟨a, by omega, by rw [eq1 a ha]; exact e⟩
  · intro a ha
    rcases lt1 a ha with ha | rfl
    · rw [dq a ha]; exact h.qv a ha
    · rw [dl]; exact hx1
  · intro v hv
    by_cases hvt : v = t
    · rw [hvt, e0]; omega
    · rw [e1 v hvt]; exact h.unv v hv
  · rw [eq1 0 h.q0]; exact h.q00
  · rw [e1 0 hz]; exact h.d0
  · intro a b hab hb
    rcases lt1 b hb with hb | rfl
    · rw [dq a (by omega), dq b hb]; exact h.mono a b hab hb
    · rw [dl]
      rcases lt1 a (by omega) with ha | rfl
      · rw [dq a ha]; have := h.cap hi a ha; omega
      · rw [dl]; exact Int.le_refl _
  · intro _ b hb
    rw [dq i hi]
    rcases lt1 b hb with hb | rfl
    · rw [dq b hb]; exact h.cap hi b hb
    · rw [dl]; omega
  · intro a ha
    rcases lt1 a ha with ha | rfl
    · rw [dq a ha]; exact h.small a ha
    · rw [dl]; have := h.small i hi; omega
  · intro a ha s hs h0
    rw [eq1 a (by omega)] at hs
    have := h.closed a ha s hs h0
    rw [dq a (by omega)]
    by_cases hst : s.toNat = t
    · rw [hst] at this; omega
    · rw [e1 _ hst]; exact this
  · intro _ b hb h0
    rw [eq1 i hi] at h0 ⊢
    rw [e1 _ (hqt i hi)]
    rcases Nat.lt_succ_iff_lt_or_eq.1 hb with hb | rfl
    · have := h.part hi b hb h0
      by_cases hst : ((E (q.getD i 0)).getD b 0).toNat = t
      · rw [hst] at this; omega
      · rw [e1 _ hst]; exact this
    · rw [he]
      have e : (t : Int).toNat = t := by omega
      rw [e, e0]; omega
  · intro v hv hv0 h0
    by_cases hvt : v = t
    · refine ⟨q.getD i 0, hui, by rw [e1 _ (hqt i hi)]; exact hu, ?_, by rw [hvt, e0, e1 _ (hqt i hi)]; exact hx⟩
      rw [hvt, ← he]
      exact getD_mem' hp
    · rw [e1 v hvt] at h0
      obtain ⟨u, hu1, hu2, hu3, hu4⟩ := h.par v hv hv0 h0
      exact ⟨u, hu1, by rw [up u hu1 hu2]; exact hu2, hu3, by rw [e1 v hvt, up u hu1 hu2]; exact hu4⟩

theorem Inv.next {n : Nat} {E : Nat → List Int} {i : Nat} {d : List Int} {q : List Nat} (h : Inv n E i (E (q.getD i 0)).length d q) (hi : i < q.length) : Inv n E (i + 1) 0 d q := by
  refine { h with iq := by omega, cap := ?_, closed := ?_, part := fun _ b hb => by omega }
  · intro hi1 b hb
    have h1 := h.cap hi b hb
    have h2 := h.mono i (i + 1) (by omega) hi1
    omega
  · intro a ha t ht h0
    rcases Nat.lt_succ_iff_lt_or_eq.1 ha with ha | rfl
    · exact h.closed a ha t ht h0
    · obtain ⟨b, hb, rfl⟩ := List.mem_iff_getElem.1 ht
      have e : (E (q.getD a 0)).getD b 0 = (E (q.getD a 0))[b] := by rw [List.getD_eq_getElem?_getD, List.getElem?_eq_getElem hb]; rfl
      have := h.part hi b hb (by rw [e]; exact h0)
      rw [e] at this
      exact this

/-- what the distances are -/
structure DistOK (n : Nat) (E : Nat → List Int) (d : List Int) : Prop where
  len : d.length = n
  d0 : d.getD 0 0 = 0
  low : ∀ v, v < n → -1 ≤ d.getD v 0
  high : ∀ v, v < n → d.getD v 0 < n
  closed : ∀ u, u < n → 0 ≤ d.getD u 0 → ∀ t ∈ E u, 0 ≤ t → 0 ≤ d.getD t.toNat 0 ∧ d.getD t.toNat 0 ≤ d.getD u 0 + 1
  par : ∀ v, v < n → v ≠ 0 → 0 ≤ d.getD v 0 → ∃ u, u < n ∧ 0 ≤ d.getD u 0 ∧ (v : Int) ∈ E u ∧ d.getD v 0 = d.getD u 0 + 1

theorem Inv.last {n : Nat} {E : Nat → List Int} {i p : Nat} {d : List Int} {q : List Nat} (h : Inv n E i p d q) (hi : i = q.length) : DistOK n E d := by
  have hq := h.qlen
  refine ⟨h.len, h.d0, h.unv, ?_, ?_, h.par⟩
  · intro v hv
    by_cases h0 : 0 ≤ d.getD v 0
    · obtain ⟨a, ha, e⟩ := h.vis v hv h0
      have := h.small a ha
      rw [e] at this; omega
    · omega
  · intro u hu h0 t ht ht0
    obtain ⟨a, ha, e⟩ := h.vis u hu h0
    have := h.closed a (by omega) t (by rw [e]; exact ht) ht0
    rw [e] at this
    exact this
end Go.Proofs.Qxb6601170a
