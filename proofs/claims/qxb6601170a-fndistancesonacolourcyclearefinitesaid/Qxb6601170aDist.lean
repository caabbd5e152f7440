import Derived.Test.Qxb6601170aBfs
import Derived.Deep.RegionHeld3
import Derived.Deep.DeepCutAuto
namespace Go.Proofs.Qxb6601170a
open Go.RowKit
set_option linter.unusedVariables false
set_option linter.unusedSimpArgs false

/-- the layers on which node u pushes the colour -/
def laysOf (vec : List Int) (ru : Int) (mu : List Int) (col : Int) (u : Nat) : List Int := if u = 0 then lay vec 0 (mu.getD 0 0) col vec.length else lay vec ru (mu.getD u 0) col vec.length
/-- the targets of node u -/
def edges (vec : List Int) (ru : Int) (zss : List (List Int)) (mu : List Int) (col : Int) (u : Nat) : List Int := (laysOf vec ru mu col u).map (fun l => (zss.getD (l - 1).toNat []).getD u 0)
def DistLeft (w w' : World) (e : Ending) (n : Nat) (E : Nat → List Int) : Prop := ∃ a c d, e = .returned (.slice a n c) ∧ SI .i64 w' a d ∧ DistOK n E d ∧ Below w.heap.size w w'

/-- the overlay and what it leads to, in world x -/
structure Over (x : World) (ob : Nat) (la : Int) (va : Option Addr) (vc : Nat) (ru : Int) (ca : Option Addr) (cc : Nat) (ma : Option Addr) (mc : Nat) (pa : Option Addr) (pn pc : Nat) (vec : List Int) (zss : List (List Int)) (mu : List Int) : Prop where
  blk : Blk x ob 65 (overCells la va vec.length vc ru ca zss.length cc ma mu.length mc pa pn pc)
  vec : SI .i64 x va vec
  child : SS x ca zss
  mu : SI .i64 x ma mu
theorem Over.below {x x' : World} {ob : Nat} {la : Int} {va : Option Addr} {vc : Nat} {ru : Int} {ca : Option Addr} {cc : Nat} {ma : Option Addr} {mc : Nat} {pa : Option Addr} {pn pc : Nat} {vec : List Int} {zss : List (List Int)} {mu : List Int}
    (h : Over x ob la va vc ru ca cc ma mc pa pn pc vec zss mu) (hb : Below x.heap.size x x') : Over x' ob la va vc ru ca cc ma mc pa pn pc vec zss mu :=
  ⟨h.blk.below hb h.blk.lt, h.vec.below hb, h.child.below hb, h.mu.below hb⟩
theorem Over.cells {x : World} {ob : Nat} {la : Int} {va : Option Addr} {vc : Nat} {ru : Int} {ca : Option Addr} {cc : Nat} {ma : Option Addr} {mc : Nat} {pa : Option Addr} {pn pc : Nat} {vec : List Int} {zss : List (List Int)} {mu : List Int}
    (h : Over x ob la va vc ru ca cc ma mc pa pn pc vec zss mu) :
    x.cell? ⟨ob, 0, none⟩ = some (.int .i64 la) ∧ x.cell? ⟨ob, 1, none⟩ = some (.slice va vec.length vc) ∧ x.cell? ⟨ob, 2, none⟩ = some (.int .i64 ru) ∧ x.cell? ⟨ob, 3, none⟩ = some (.slice ca zss.length cc) ∧ x.cell? ⟨ob, 4, none⟩ = some (.slice ma mu.length mc) :=
  ⟨by rw [h.blk.cell]; rfl, by rw [h.blk.cell]; rfl, by rw [h.blk.cell]; rfl, by rw [h.blk.cell]; rfl, by rw [h.blk.cell]; rfl⟩

/-- the queue's nodes as numbers -/
def qs (q : List Nat) : List Int := q.map (fun x : Nat => (x : Int))
theorem qs_len (q : List Nat) : (qs q).length = q.length := by simp [qs]
theorem qs_getD (q : List Nat) (i : Nat) (h : i < q.length) : (qs q).getD i 0 = ((q.getD i 0 : Nat) : Int) := by simp [qs, List.getD_eq_getElem?_getD, h]
theorem qs_snoc (q : List Nat) (t : Nat) : qs (q ++ [t]) = qs q ++ [(t : Int)] := by simp [qs]
theorem ints_at (zs : List Int) (rest : List Value) (i : Nat) (h : i < zs.length) : (ints .i64 zs ++ rest)[i]? = some (.int .i64 (zs.getD i 0)) := by
  rw [List.getElem?_append_left (by simpa [ints] using h)]
  simp [ints, h]
theorem ints_at' (zs : List Int) (i : Nat) (h : i < zs.length) : (ints .i64 zs)[i]? = some (.int .i64 (zs.getD i 0)) := by
  simp [ints, h]
theorem ints_set (zs : List Int) (i : Nat) (x : Int) : (ints .i64 zs).set i (.int .i64 x) = ints .i64 (zs.set i x) := by simp [ints, List.map_set]
theorem queue_push (zs : List Int) (x : Int) (m : Nat) (h : 0 < m) : (ints .i64 zs ++ zr (.int .i64 0) m).set zs.length (.int .i64 x) = ints .i64 (zs ++ [x]) ++ zr (.int .i64 0) (m - 1) := by
  rw [List.set_append_right _ _ (by simp [ints_len]), ints_len, Nat.sub_self]
  obtain ⟨m', rfl⟩ : ∃ m', m = m' + 1 := ⟨m - 1, by omega⟩
  simp [zr, List.replicate_succ, ints]
theorem fill_m (n j : Nat) (h : j < n) : (fill .i64 (List.replicate n (-1)) j n).set j (.int .i64 (-1)) = fill .i64 (List.replicate n (-1)) (j + 1) n := by
  have := fill_step .i64 (List.replicate n (-1)) j n (by simp) h
  rw [rep_getD n j (-1) h] at this
  exact this
theorem laysOf_mem {vec : List Int} {ru : Int} {mu : List Int} {col : Int} {u : Nat} {l : Int} (h : l ∈ laysOf vec ru mu col u) : ∃ j, j < vec.length ∧ vec.getD j 0 = l := by
  unfold laysOf at h
  split at h
  · obtain ⟨j, hj, _, e⟩ := mem_lay.1 h; exact ⟨j, hj, e⟩
  · obtain ⟨j, hj, _, e⟩ := mem_lay.1 h; exact ⟨j, hj, e⟩
theorem laysOf_len {vec : List Int} {ru : Int} {mu : List Int} {col : Int} {u : Nat} : (laysOf vec ru mu col u).length ≤ vec.length := by
  unfold laysOf
  split <;> exact lay_len _ _ _ _ _
theorem edges_len (vec : List Int) (ru : Int) (zss : List (List Int)) (mu : List Int) (col : Int) (u : Nat) : (edges vec ru zss mu col u).length = (laysOf vec ru mu col u).length := by simp [edges]
theorem edges_getD {vec : List Int} {ru : Int} {zss : List (List Int)} {mu : List Int} {col : Int} {u p : Nat} (h : p < (laysOf vec ru mu col u).length) (l : Nat) (hl : (laysOf vec ru mu col u).getD p 0 = (l : Int) + 1) :
    (edges vec ru zss mu col u).getD p 0 = (zss.getD l []).getD u 0 := by
  unfold edges
  rw [List.getD_eq_getElem?_getD, List.getElem?_map, List.getElem?_eq_getElem h]
  rw [List.getD_eq_getElem?_getD, List.getElem?_eq_getElem h] at hl
  simp only [Option.getD_some] at hl
  simp only [Option.map_some, Option.getD_some]
  rw [hl, show ((l : Int) + 1 - 1).toNat = l by omega]

set_option maxRecDepth 100000 in
set_option maxHeartbeats 2000000 in
theorem dist_any (ob : Nat) (la : Int) (va : Option Addr) (vc : Nat) (ru : Int) (ca : Option Addr) (cc : Nat) (ma : Option Addr) (mc : Nat) (pa : Option Addr) (pn pc : Nat) (vec : List Int) (zss : List (List Int)) (mu : List Int) (col : Int) (w : World)
    (hO : Over w ob la va vc ru ca cc ma mc pa pn pc vec zss mu) (hV : Valid vec zss mu) (m0 : vec.length ≤ 4096) (m1 : zss.length ≤ 1048576) (m2 : mu.length ≤ 1048576) :
    Calls Try.prog 37 #[.pointer (some ⟨ob, 0, none⟩), .int .i64 col] w fun e w' => DistLeft w w' e mu.length (edges vec ru zss mu col) := by
  have HO : Hid (Over w ob la va vc ru ca cc ma mc pa pn pc vec zss mu) := hO
  have HV : Hid (Valid vec zss mu) := hV
  obtain ⟨c0, c1, c2, -, -⟩ := hO.cells
  have hP : 2 ≤ vec.length := by have := hV.mus 0 (by have := hV.pos; omega); omega
  have hN : 1 ≤ mu.length := hV.pos
  have hM : 1 ≤ zss.length := by have := hV.vecs 0 (by omega); omega
  have hmk := run_mk22 vec.length (by omega)
  have HP : Hid (∀ w, Calls Try.prog 42 #[.agg #[.int .i64 la, .slice va vec.length vc, .int .i64 ru]] w fun e w' => e = .returned (.int .i64 vec.length) ∧ Below w.heap.size w w') := fun w => period_any la va vec.length vc ru w (by omega)
  have HL : Hid (∀ (w : World) (ru mu : Int), SI .i64 w va vec → Calls Try.prog 43 #[.agg #[.int .i64 la, .slice va vec.length vc, .int .i64 ru], .int .i64 mu, .int .i64 col] w fun e w' => Own w w' e (lay vec ru mu col vec.length)) := fun w ru mu hs => layers_any la va vc ru vec mu col w hs (by omega)
  have HCE : Hid (∀ x, Over x ob la va vc ru ca cc ma mc pa pn pc vec zss mu → x.cell? ⟨ob, 0, none⟩ = some (.int .i64 la) ∧ x.cell? ⟨ob, 1, none⟩ = some (.slice va vec.length vc) ∧ x.cell? ⟨ob, 2, none⟩ = some (.int .i64 ru) ∧ x.cell? ⟨ob, 3, none⟩ = some (.slice ca zss.length cc) ∧ x.cell? ⟨ob, 4, none⟩ = some (.slice ma mu.length mc)) := fun x h => h.cells
  clear hO hV
  generalize hn : mu.length = n at *
  generalize hp : vec.length = P at *
  generalize hm : zss.length = M at *
  have HNN : Hid (mu.length = n) := hn
  have HPP : Hid (vec.length = P) := hp
  have HMM : Hid (zss.length = M) := hm
  clear hn hp hm
  go_enter Try.func37, Try.ntmps37
  go_wp2_with fail
  refine (HP.out w).mono ?_
  rintro e w1 ⟨rfl, hb1⟩
  have B1 : Hid (Below w.heap.size w w1) := hb1
  have O1 : Hid (Over w1 ob la va vc ru ca cc ma mc pa pn pc vec zss mu) := HO.out.below hb1
  clear hb1 c0 c1 c2
  go_wp2_with fail
  go_loopw [7] (fun i w' => ∃ k : Nat, 1 ≤ k ∧ k ≤ P ∧ i = .int .i64 k ∧ (∃ cs : List Value, cs.length = P ∧ (∀ j, k ≤ j → j < P → cs[j]? = some (.slice none 0 0)) ∧ RS w' w1.heap.size cs 1 k (fun i => lay vec ru i col P)) ∧ Below w1.heap.size w1 w') (fun i _ => P - (intOf i).toNat)
  case atStart => exact ⟨1, by omega, by omega, rfl, ⟨zr (.slice none 0 0) P, zr_len _ _, fun j _ hj => by simp [zr, hj], Blk.new w1 24 _, fun i _ h => by omega⟩, (Below.refl _ _).alloc (Nat.le_refl _) _⟩
  case round =>
    obtain ⟨k, hk1, hk, rfl, ⟨cs, hcs, hz, hB⟩, hbel⟩ := hrel
    have HB : Hid (RS wr w1.heap.size cs 1 k (fun i => lay vec ru i col P)) := hB
    have HZ : Hid (∀ j, k ≤ j → j < P → cs[j]? = some (.slice none 0 0)) := hz
    have HCS : Hid (cs.length = P) := hcs
    have HBel : Hid (Below w1.heap.size w1 wr) := hbel
    have OR : Hid (Over wr ob la va vc ru ca cc ma mc pa pn pc vec zss mu) := O1.out.below hbel
    obtain ⟨c0, c1, c2, c3, c4⟩ := HCE.out wr OR.out
    clear hB hbel hz hcs
    by_cases hlt : k < P
    · as_aux_lemma =>
        clear c3 c4
        go_wp2_with fail
        refine (HL.out wr ru k OR.out.vec).mono ?_
        rintro e w2 ⟨r1, d1, rfl, hs1, hf1, hb1⟩
        have HB1 : Hid (RS w2 w1.heap.size cs 1 k (fun i => lay vec ru i col P)) := HB.out.below hb1
        have HS1 : Hid (SI .i64 w2 r1 (lay vec ru k col P)) := hs1
        have HF1 : Hid (From (w1.heap.size + 1) r1) := fun x hx => Nat.le_trans (HB.out.blk.lt) (hf1 x hx)
        have HBL1 : Hid (Below w1.heap.size w1 w2) := HBel.out.trans (hb1.mono HBel.out.size)
        have c3 : w2.cell? ⟨w1.heap.size, k, none⟩ = some (.slice none 0 0) := by rw [HB1.out.blk.cell]; exact HZ.out k (Nat.le_refl _) hlt
        have c4 : w2.frozen? ⟨w1.heap.size, k, none⟩ = false := HB1.out.blk.frozen k
        clear hs1 hf1 hb1 c0 c1 c2
        go_wp2_with fail
        go_roundw
        case rel =>
          refine ⟨k + 1, by omega, by omega, by go_num, ⟨cs.set k (.slice r1 (lay vec ru k col P).length d1), by rw [List.length_set]; exact HCS.out, fun j h1 h2 => by rw [List.getElem?_set_ne (by omega)]; exact HZ.out j (by omega) h2, ?_⟩, HBL1.out.setCell (Nat.le_refl _) _⟩
          exact HB1.out.set (k := k) (by rw [HCS.out]; exact hlt) (r := r1) (c := d1) HS1.out HF1.out
        case measure => simp [intOf]; omega
    have hkn : k = P := by omega
    subst hkn
    have BW : Hid (Below w.heap.size w wr) := B1.out.trans (HBel.out.mono B1.out.size)
    clear HZ hmk HBel B1 O1
    obtain ⟨mb, mo, rfl, hmb⟩ := OR.out.mu.addr (by have := HNN.out; omega)
    have hcm : ∀ u, u < n → wr.cell? ⟨mb, mo + u, none⟩ = some (.int .i64 (mu.getD u 0)) := fun u hu => OR.out.mu.cell (by rw [HNN.out]; exact hu)
    have cm := hcm 0 (by omega)
    rw [Nat.add_zero] at cm
    obtain ⟨y0, hy0⟩ : ∃ y0, y0 = mu.getD 0 0 := ⟨_, rfl⟩
    rw [← hy0] at cm
    have HY0 : Hid (y0 = mu.getD 0 0) := hy0
    have HCM : Hid (∀ u, u < n → wr.cell? ⟨mb, mo + u, none⟩ = some (.int .i64 (mu.getD u 0))) := hcm
    clear hy0 hcm
    have HSRC : Hid (∀ w, Calls Try.prog 44 #[.agg #[.int .i64 la, .slice va k vc, .int .i64 ru]] w fun e w' => e = .returned (.agg #[.int .i64 la, .slice va k vc, .int .i64 0]) ∧ Below w.heap.size w w') := fun w => source44 la va k vc ru w
    have HLS : Hid (∀ w', Below wr.heap.size wr w' → Calls Try.prog 43 #[.agg #[.int .i64 la, .slice va k vc, .int .i64 0], .int .i64 y0, .int .i64 col] w' fun e w'' => Own w' w'' e (lay vec 0 y0 col k)) := fun w' hb => HL.out w' 0 y0 (OR.out.vec.below hb)
    have HKP : Hid (∀ w', Below wr.heap.size wr w' → (w'.cell? ⟨ob, 0, none⟩ = some (.int .i64 la) ∧ w'.cell? ⟨ob, 1, none⟩ = some (.slice va k vc) ∧ w'.cell? ⟨ob, 2, none⟩ = some (.int .i64 ru) ∧ w'.cell? ⟨ob, 4, none⟩ = some (.slice (some ⟨mb, mo, none⟩) n mc) ∧ w'.cell? ⟨mb, mo, none⟩ = some (.int .i64 y0))) := by
      intro w' hb
      have hob := OR.out.blk.lt
      refine ⟨?_, ?_, ?_, ?_, ?_⟩
      · rw [hb.cell (p := ⟨ob, 0, none⟩) hob]; exact c0
      · rw [hb.cell (p := ⟨ob, 1, none⟩) hob]; exact c1
      · rw [hb.cell (p := ⟨ob, 2, none⟩) hob]; exact c2
      · rw [hb.cell (p := ⟨ob, 4, none⟩) hob]; exact c4
      · rw [hb.cell (p := ⟨mb, mo, none⟩) hmb]; exact cm
    have C3 : Hid (wr.cell? ⟨ob, 3, none⟩ = some (.slice ca M cc)) := c3
    have C4 : Hid (wr.cell? ⟨ob, 4, none⟩ = some (.slice (some ⟨mb, mo, none⟩) n mc)) := c4
    clear c0 c1 c2 c3 c4 cm
    have hN0 : 0 < n := by omega
    go_upto_region 7 with (fail)
    go_region_held3 (fun w' => w'.cell? ⟨ob, 0, none⟩ = some (.int .i64 la) ∧ w'.cell? ⟨ob, 1, none⟩ = some (.slice va k vc) ∧ w'.cell? ⟨ob, 2, none⟩ = some (.int .i64 ru) ∧ w'.cell? ⟨ob, 4, none⟩ = some (.slice (some ⟨mb, mo, none⟩) n mc) ∧ w'.cell? ⟨mb, mo, none⟩ = some (.int .i64 y0))
      (first | exact HKP.out _ (below_drewN (Below.refl _ _) 1) | exact HKP.out _ HBX | exact HKP.out _ (HBX.trans (hby.mono HBX.size)))
      (first | (go_at_call 44; refine (HSRC.out _).mono ?_; rintro e wx ⟨rfl, hbx⟩; have HBX : Below wr.heap.size wr wx := (below_drewN (Below.refl wr.heap.size wr) 1).trans hbx) | (go_at_call 43; refine (HLS.out _ HBX).mono ?_; rintro e wy ⟨fa, fc, rfl, hsy, hfy, hby⟩))
    as_aux_lemma =>
      have BY : Hid (Below wr.heap.size wr wy) := HBX.trans (hby.mono HBX.size)
      have BW2 : Hid (Below w.heap.size w wy) := BW.out.trans (BY.out.mono BW.out.size)
      have OY : Hid (Over wy ob la va vc ru ca cc (some ⟨mb, mo, none⟩) mc pa pn pc vec zss mu) := OR.out.below BY.out
      have RY : Hid (RS wy w1.heap.size cs 1 k (fun i => lay vec ru i col k)) := HB.out.below BY.out
      have SY : Hid (SI .i64 wy fa (lay vec 0 y0 col k)) := hsy
      have hchild := OY.out.child
      rcases hchild with h | ⟨hb, ho, rfl, hhb, -⟩
      · have := HMM.out; rw [h] at this; simp at this; omega
      have FX : Hid (∀ z, Below wy.heap.size wy z → z.cell? ⟨ob, 3, none⟩ = some (.slice (some ⟨hb, ho, none⟩) M cc) ∧ z.cell? ⟨ob, 4, none⟩ = some (.slice (some ⟨mb, mo, none⟩) n mc) ∧ ∀ u, u < n → z.cell? ⟨mb, mo + u, none⟩ = some (.int .i64 (mu.getD u 0))) := by
        intro z hz
        have hh := (HCE.out z (OY.out.below hz))
        exact ⟨hh.2.2.2.1, hh.2.2.2.2, fun u hu => (OY.out.below hz).mu.cell (by rw [HNN.out]; exact hu)⟩
      have FC : Hid (∀ z, Below wy.heap.size wy z → ∀ l, l < M → ∃ r c, z.cell? ⟨hb, ho + l, none⟩ = some (.slice r n c) ∧ SI .i64 z r (zss.getD l []) ∧ (zss.getD l []).length = n ∧ ∀ v, v < n → (zss.getD l []).getD v 0 < n) := by
        intro z hz l hl
        have hrow := HV.out.rows l (by rw [HMM.out]; exact hl)
        rw [HNN.out] at hrow
        rcases (OY.out.below hz).child with h | ⟨b, o, e, _, hc⟩
        · have := HMM.out; rw [h] at this; simp at this; omega
        · cases e
          obtain ⟨r, c, h1, h2⟩ := hc l (by rw [HMM.out]; exact hl)
          rw [hrow.1] at h1
          exact ⟨r, c, h1, h2, hrow⟩
      have FR : Hid (∀ g : Nat, 1 ≤ g → g < k → ∃ r c, ∀ z, Below wy.heap.size wy z → z.cell? ⟨w1.heap.size, g, none⟩ = some (.slice r (lay vec ru g col k).length c) ∧ SI .i64 z r (lay vec ru g col k)) := by
        intro g h1 h2
        obtain ⟨r, c, e, hs, _⟩ := RY.out.row g h1 h2
        exact ⟨r, c, fun z hz => ⟨by rw [(RY.out.below hz).blk.cell]; exact e, hs.below hz⟩⟩
      have FF : Hid (∀ z, Below wy.heap.size wy z → SI .i64 z fa (lay vec 0 y0 col k)) := fun z hz => SY.out.below hz
      have HLN : Hid (∀ g : Int, (lay vec ru g col k).length ≤ k) := fun g => lay_len _ _ _ _ _
      have HEE : Hid (∀ u, laysOf vec ru mu col u = if u = 0 then lay vec 0 y0 col k else lay vec ru (mu.getD u 0) col k) := by
        intro u; unfold laysOf; rw [HPP.out, HY0.out]
      have d4 := (FX.out wy (Below.refl _ _)).2.1
      have hmk := run_mk24 n (by omega)
      have hmq := mk24_cap n (by omega) (by omega)
      clear hsy hfy hby hbx HBX BY OY RY SY HB OR HO HCS BW HCM HSRC HLS HKP C3 C4 HP HL HCE hmb
      go_wp2_with fail
      go_loopw [61] (fun i w' => ∃ j : Nat, j ≤ n ∧ i = .int .i64 j ∧ Blk w' wy.heap.size 3 (fill .i64 (List.replicate n (-1)) j n) ∧ Below wy.heap.size wy w') (fun i _ => n - (intOf i).toNat)
      case atStart => exact ⟨0, by omega, rfl, by rw [fill_zero]; exact Blk.new wy 3 _, (Below.refl _ _).alloc (Nat.le_refl _) _⟩
      case round =>
        obtain ⟨j, hj, rfl, hD, hbel⟩ := hrel
        have HD : Hid (Blk wr wy.heap.size 3 (fill .i64 (List.replicate n (-1)) j n)) := hD
        have HBL : Hid (Below wy.heap.size wy wr) := hbel
        clear hD hbel
        by_cases hjn : j < n
        · as_aux_lemma =>
            have e1 : wr.cell? ⟨wy.heap.size, j, none⟩ = some (.int .i64 0) := by rw [HD.out.cell]; exact fill_at _ _ _ _ (by simp) hjn
            have e2 : wr.frozen? ⟨wy.heap.size, j, none⟩ = false := HD.out.frozen j
            go_wp2_with fail
            go_roundw
            case rel =>
              refine ⟨j + 1, by omega, by go_num, ?_, HBL.out.setCell (Nat.le_refl _) _⟩
              have := HD.out.set j (.int .i64 (-1))
              rw [fill_m _ _ hjn] at this
              exact this
            case measure => simp [intOf]; omega
        have hjn' : j = n := by omega
        subst hjn'
        as_aux_lemma =>
          have D1 : Hid (Blk wr wy.heap.size 3 (ints .i64 (List.replicate j (-1)))) := by rw [← fill_all .i64 _ j (by simp)]; exact HD.out
          have e1 : wr.cell? ⟨wy.heap.size, 0, none⟩ = some (.int .i64 (-1)) := by rw [D1.out.cell, ints_at' _ _ (by simp; omega), rep_getD _ _ _ (by omega)]
          have e2 : wr.frozen? ⟨wy.heap.size, 0, none⟩ = false := D1.out.frozen 0
          go_upto_region 15 with (fail)
          have D2 : Hid (Blk (wr.setCell ⟨wy.heap.size, 0, none⟩ (.int .i64 0)) wy.heap.size 3 (ints .i64 ((List.replicate j (-1)).set 0 0))) := by rw [← ints_set]; exact D1.out.set 0 _
          have B2 : Hid (Below wy.heap.size wy (wr.setCell ⟨wy.heap.size, 0, none⟩ (.int .i64 0))) := HBL.out.setCell (Nat.le_refl _) _
          generalize wr.setCell ⟨wy.heap.size, 0, none⟩ (.int .i64 0) = x at *
          have f4 := (FX.out x B2.out).2.1
          clear e1 e2 HD HBL D1 d4 hmk
          go_wp2_with fail
          have ST : Hid (Inv j (edges vec ru zss mu col) 0 0 ((List.replicate j (-1)).set 0 0) [0]) := Inv.start _ _ hN
          go_loopw [11, 12] (fun s i w' => ∃ (a : Nat) (d : List Int) (q : List Nat), Inv j (edges vec ru zss mu col) a 0 d q ∧ s = .slice (some ⟨x.heap.size, 0, none⟩) q.length j ∧ i = .int .i64 a ∧ Blk w' wy.heap.size 3 (ints .i64 d) ∧ Blk w' x.heap.size 3 (ints .i64 (qs q) ++ zr (.int .i64 0) (j - q.length)) ∧ Below wy.heap.size wy w') (fun _ i _ => j - (intOf i).toNat)
          case atStart =>
            refine ⟨0, _, [0], ST.out, rfl, rfl, D2.out.alloc _, ?_, B2.out.alloc B2.out.size _⟩
            have := Blk.new x 3 (zr (.int .i64 0) j)
            have e : zr (.int .i64 0) j = ints .i64 (qs [0]) ++ zr (.int .i64 0) (j - [0].length) := by
              obtain ⟨j', rfl⟩ : ∃ j', j = j' + 1 := ⟨j - 1, by omega⟩
              simp [zr, qs, ints, List.replicate_succ]
            rw [e] at this
            rw [← e] at this
            rw [← e]
            exact this
          case round =>
            obtain ⟨i, d, q, hI, rfl, rfl, hD, hQ, hbel⟩ := hrel
            have II : Hid (Inv j (edges vec ru zss mu col) i 0 d q) := hI
            have HD : Hid (Blk wr wy.heap.size 3 (ints .i64 d)) := hD
            have HQ : Hid (Blk wr x.heap.size 3 (ints .i64 (qs q) ++ zr (.int .i64 0) (j - q.length))) := hQ
            have HBL : Hid (Below wy.heap.size wy wr) := hbel
            have hql : q.length ≤ j := hI.qlen
            have hiq : i ≤ q.length := hI.iq
            clear hI hD hQ hbel f4 hmq
            by_cases hlt2 : i < q.length
            · as_aux_lemma =>
                obtain ⟨u, hu⟩ : ∃ u, u = q.getD i 0 := ⟨_, rfl⟩
                have hun : u < j := by rw [hu]; exact II.out.qn i hlt2
                have cq : wr.cell? ⟨x.heap.size, i, none⟩ = some (.int .i64 (u : Int)) := by rw [HQ.out.cell, ints_at _ _ _ (by rw [qs_len]; exact hlt2), qs_getD _ _ hlt2, hu]
                have HU : Hid (u = q.getD i 0) := hu
                obtain ⟨-, f4, fm⟩ := FX.out wr HBL.out
                have hmu := HV.out.mus u (by rw [HNN.out]; exact hun)
                rw [HPP.out] at hmu
                obtain ⟨g, hg⟩ : ∃ g : Nat, mu.getD u 0 = (g : Int) := ⟨(mu.getD u 0).toNat, by omega⟩
                have cm := fm u hun
                rw [hg] at cm hmu
                have HG : Hid (mu.getD u 0 = (g : Int)) := hg
                obtain ⟨r, c, hrc⟩ := FR.out g (by omega) (by omega)
                obtain ⟨cr, -⟩ := hrc wr HBL.out
                have HSR : Hid (∀ z, Below wy.heap.size wy z → SI .i64 z r (lay vec ru g col k)) := fun z hz => (hrc z hz).2
                have i1 : (u : Int) < (j : Int) := by omega
                have i2 : (g : Int) < (k : Int) := by omega
                clear hu fm hg hrc
                go_upto_if 97 with (fail)
                go_cut [14] (fun s w' => (∃ r c, s = .slice r (laysOf vec ru mu col u).length c ∧ ∀ z, Below wy.heap.size wy z → SI .i64 z r (laysOf vec ru mu col u)) ∧ w' = wr)
                case first =>
                  as_aux_lemma =>
                    by_cases hu0 : u = 0
                    · subst hu0
                      go_wp2_with fail
                      go_meet
                      case rel => exact ⟨⟨_, _, by rw [HEE.out, if_pos rfl], by rw [HEE.out, if_pos rfl]; exact FF.out⟩, rfl⟩
                    · have hub : ((u : Int) == 0) = false := by simpa using hu0
                      go_wp2_with fail
                      go_meet
                      case rel => exact ⟨⟨_, _, by rw [HEE.out, if_neg hu0, HG.out], by rw [HEE.out, if_neg hu0, HG.out]; exact HSR.out⟩, rfl⟩
                case rest =>
                  as_aux_lemma =>
                    obtain ⟨⟨r', c', rfl, hsl⟩, hww⟩ := hcut
                    cases hww
                    have HSL : Hid (∀ z, Below wy.heap.size wy z → SI .i64 z r' (laysOf vec ru mu col u)) := hsl
                    have HEL : Hid ((edges vec ru zss mu col u).length = (laysOf vec ru mu col u).length) := edges_len _ _ _ _ _ _
                    have HLM : Hid (∀ p, p < (laysOf vec ru mu col u).length → ∃ l : Nat, l < M ∧ (laysOf vec ru mu col u).getD p 0 = (l : Int) + 1) := by
                      intro p hp
                      obtain ⟨jj, hjj, e⟩ := laysOf_mem (getD_mem' hp)
                      have := HV.out.vecs jj hjj
                      rw [e, HMM.out] at this
                      exact ⟨((laysOf vec ru mu col u).getD p 0 - 1).toNat, by omega, by omega⟩
                    have hll : (laysOf vec ru mu col u).length ≤ 4096 := by have := @laysOf_len vec ru mu col u; rw [HPP.out] at this; omega
                    have HED : Hid (∀ p, p < (laysOf vec ru mu col u).length → ∀ l : Nat, (laysOf vec ru mu col u).getD p 0 = (l : Int) + 1 → (edges vec ru zss mu col u).getD p 0 = (zss.getD l []).getD u 0) := fun p hp l hl => edges_getD hp l hl
                    clear hsl HSR HEE cq f4 cm cr
                    generalize laysOf vec ru mu col u = L at *
                    generalize hL : L.length = ln at *
                    have HLL : Hid (L.length = ln) := hL
                    clear hL
                    go_wp2_with fail
                    go_loopw [101, 11] (fun pi s w' => ∃ (p : Nat) (d : List Int) (q : List Nat), p ≤ ln ∧ Inv j (edges vec ru zss mu col) i p d q ∧ i < q.length ∧ u = q.getD i 0 ∧ pi = .int .i64 p ∧ s = .slice (some ⟨x.heap.size, 0, none⟩) q.length j ∧ Blk w' wy.heap.size 3 (ints .i64 d) ∧ Blk w' x.heap.size 3 (ints .i64 (qs q) ++ zr (.int .i64 0) (j - q.length)) ∧ Below wy.heap.size wy w') (fun pi _ _ => ln - (intOf pi).toNat)
                    case atStart => exact ⟨0, d, q, by omega, II.out, hlt2, HU.out, rfl, rfl, HD.out, HQ.out, HBL.out⟩
                    case round =>
                      clear II HD HQ HU HBL hql hiq hlt2
                      obtain ⟨p, d, q, hp, hI, hiq, hqu, rfl, rfl, hD, hQ, hbel⟩ := hrel
                      have II : Hid (Inv j (edges vec ru zss mu col) i p d q) := hI
                      have HU : Hid (u = q.getD i 0) := hqu
                      have HD : Hid (Blk wr wy.heap.size 3 (ints .i64 d)) := hD
                      have HQ : Hid (Blk wr x.heap.size 3 (ints .i64 (qs q) ++ zr (.int .i64 0) (j - q.length))) := hQ
                      have HBL : Hid (Below wy.heap.size wy wr) := hbel
                      have hql : q.length ≤ j := hI.qlen
                      have HDL : Hid (d.length = j) := hI.len
                      clear hI hqu hD hQ hbel
                      by_cases hpl : p < ln
                      · as_aux_lemma =>
                          obtain ⟨l, hlM, hl⟩ := HLM.out p hpl
                          obtain ⟨rb, ro, rfl, -⟩ := (HSL.out wr HBL.out).addr (by rw [HLL.out]; omega)
                          have cL := (HSL.out wr HBL.out).cell (i := p) (by rw [HLL.out]; exact hpl)
                          rw [hl] at cL
                          obtain ⟨c3, -, -⟩ := FX.out wr HBL.out
                          obtain ⟨r2, c2, ch, hrow, hrl, hrn⟩ := FC.out wr HBL.out l hlM
                          obtain ⟨b2, o2, rfl, -⟩ := hrow.addr (by rw [hrl]; omega)
                          have ct := hrow.cell (i := u) (by rw [hrl]; exact hun)
                          have htn := hrn u hun
                          have hE := HED.out p hpl l hl
                          obtain ⟨t, ht⟩ : ∃ t, t = (zss.getD l []).getD u 0 := ⟨_, rfl⟩
                          rw [← ht] at ct htn hE
                          have HET : Hid ((edges vec ru zss mu col (q.getD i 0)).getD p 0 = t) := by rw [← HU.out]; exact hE
                          have eL : (l : Int) + 1 - 1 = (l : Int) := by omega
                          have i3 : (l : Int) < (M : Int) := by omega
                          have i4 : (p : Int) < (ln : Int) := by omega
                          clear hl hrow hrl hrn hE ht
                          by_cases ht0 : t < 0
                          · go_wp2_with fail
                            go_roundw
                            case rel => exact ⟨p + 1, d, q, by omega, II.out.keep hiq (by rw [HET.out]; exact htn) (.inl (by rw [HET.out]; exact ht0)), hiq, HU.out, by go_num, rfl, HD.out, HQ.out, HBL.out⟩
                            case measure => simp [intOf]; omega
                          obtain ⟨t', rfl⟩ : ∃ t' : Nat, t = (t' : Int) := ⟨t.toNat, by omega⟩
                          have cd : wr.cell? ⟨wy.heap.size, t', none⟩ = some (.int .i64 (d.getD t' 0)) := by rw [HD.out.cell]; exact ints_at' _ _ (by rw [HDL.out]; omega)
                          obtain ⟨dt, hdt⟩ : ∃ dt, dt = d.getD t' 0 := ⟨_, rfl⟩
                          rw [← hdt] at cd
                          have HDT : Hid (dt = d.getD t' 0) := hdt
                          clear hdt
                          have i5 : (t' : Int) < (j : Int) := by omega
                          by_cases hd0 : dt < 0
                          · have hDx : wy.heap.size < x.heap.size := D2.out.lt
                            have cu : wr.cell? ⟨wy.heap.size, u, none⟩ = some (.int .i64 (d.getD u 0)) := by rw [HD.out.cell]; exact ints_at' _ _ (by rw [HDL.out]; omega)
                            have hy0 := II.out.qv i hiq
                            have hy1 := II.out.small i hiq
                            rw [← HU.out] at hy0 hy1
                            have hcp := cnt_pos d t' (by rw [HDL.out]; omega) (by rw [← HDT.out]; exact hd0)
                            have hcn := II.out.cnt
                            have hqj : q.length + 1 ≤ j := by omega
                            obtain ⟨y, hy⟩ : ∃ y, y = d.getD u 0 := ⟨_, rfl⟩
                            rw [← hy] at cu hy0 hy1
                            have HYD : Hid (y = d.getD u 0) := hy
                            have e2 : wr.frozen? ⟨wy.heap.size, t', none⟩ = false := HD.out.frozen t'
                            clear hy hcp hcn
                            go_upto_region 29 with (fail)
                            have D5 : Hid (Blk (wr.setCell ⟨wy.heap.size, t', none⟩ (.int .i64 (y + 1))) wy.heap.size 3 (ints .i64 (d.set t' (y + 1)))) := by rw [← ints_set]; exact HD.out.set t' _
                            have Q5 : Hid (Blk (wr.setCell ⟨wy.heap.size, t', none⟩ (.int .i64 (y + 1))) x.heap.size 3 (ints .i64 (qs q) ++ zr (.int .i64 0) (j - q.length))) := HQ.out.setOther (by show x.heap.size ≠ wy.heap.size; omega) _
                            have B5 : Hid (Below wy.heap.size wy (wr.setCell ⟨wy.heap.size, t', none⟩ (.int .i64 (y + 1)))) := HBL.out.setCell (Nat.le_refl _) _
                            generalize wr.setCell ⟨wy.heap.size, t', none⟩ (.int .i64 (y + 1)) = w5 at *
                            have HRUN : Hid (∀ ty, (Builtin.append_ #[24, 24] ty #[.slice (some ⟨x.heap.size, 0, none⟩) q.length j, .slice (some ⟨w5.heap.size, 0, none⟩) 1 1]).run Try.prog (w5.alloc (.cells #[.int .i64 (t' : Int)] 3)) = .ok (.slice (some ⟨x.heap.size, 0, none⟩) (q.length + 1) j) ((w5.alloc (.cells #[.int .i64 (t' : Int)] 3)).setCell ⟨x.heap.size, q.length, none⟩ (.int .i64 (t' : Int)))) :=
                              fun ty => app_in24 _ x.heap.size q.length j w5.heap.size t' _ (Q5.out.alloc _) (Blk.new w5 3 [.int .i64 (t' : Int)]) hqj (by simp [ints_len, qs_len, zr_len]; omega) ty
                            clear cu e2 cd ct ch c3 cL
                            go_wp2_with (refine wpList_append_run rfl _ _ 24 rfl _ _ rfl rfl _ _ HRUN.out ?_)
                            go_roundw
                            case rel =>
                              have hpe : p < (edges vec ru zss mu col (q.getD i 0)).length := by rw [← HU.out, HEL.out]; exact hpl
                              have hpush := II.out.push hiq hpe t' HET.out (by omega) (by rw [← HDT.out]; exact hd0)
                              rw [← HU.out, ← HYD.out] at hpush
                              refine ⟨p + 1, d.set t' (y + 1), q ++ [t'], by omega, hpush, by simp; omega, by rw [snoc_getD' q t' i hiq]; exact HU.out, by go_num, by simp, ?_, ?_, ?_⟩
                              · exact (D5.out.alloc _).setOther (by show wy.heap.size ≠ x.heap.size; omega) _
                              · have := (Q5.out.alloc (.cells #[.int .i64 (t' : Int)] 3)).set q.length (.int .i64 (t' : Int))
                                have e := queue_push (qs q) (t' : Int) (j - q.length) (by omega)
                                rw [qs_len] at e
                                rw [e, ← qs_snoc] at this
                                rw [show j - (q ++ [t']).length = j - q.length - 1 by simp; omega]
                                exact this
                              · exact (B5.out.alloc B5.out.size _).setCell (by show wy.heap.size ≤ x.heap.size; omega) _
                            case measure => simp [intOf]; omega
                          · go_wp2_with fail
                            go_roundw
                            case rel => exact ⟨p + 1, d, q, by omega, II.out.keep hiq (by rw [HET.out]; exact htn) (.inr (by rw [HET.out, show ((t' : Int)).toNat = t' by omega, ← HDT.out]; omega)), hiq, HU.out, by go_num, rfl, HD.out, HQ.out, HBL.out⟩
                            case measure => simp [intOf]; omega
                      · as_aux_lemma =>
                          have hpn : p = ln := by omega
                          subst hpn
                          go_wp2_with fail
                          go_roundw
                          case rel =>
                            refine ⟨i + 1, d, q, ?_, rfl, by go_num, HD.out, HQ.out, HBL.out⟩
                            refine Inv.next ?_ hiq
                            rw [← HU.out, HEL.out]
                            exact II.out
                          case measure => simp [intOf]; omega
            · as_aux_lemma =>
                have hiq' : i = q.length := by omega
                have HR : Hid (DistLeft w wr (.returned (.slice (some ⟨wy.heap.size, 0, none⟩) j j)) j (edges vec ru zss mu col)) := ⟨_, _, d, rfl, SI.ofBlk' HD.out, II.out.last hiq', BW2.out.trans (HBL.out.mono BW2.out.size)⟩
                go_wp2_with fail
                go_ret
                exact HR.out
end Go.Proofs.Qxb6601170a
