/-
  PLAIN LAWS OF permute: the American-flag sort over functions of the index.
-/
import Derived.Test.Qxb6600860aModsProg
namespace Go.Proofs.Qxb6600860aMods
set_option linter.unusedVariables false
set_option linter.unusedSimpArgs false

def upd {α : Type} (f : Nat → α) (j : Nat) (v : α) : Nat → α := fun i => if i = j then v else f i
theorem upd_same {α : Type} (f : Nat → α) (j : Nat) (v : α) : upd f j v j = v := if_pos rfl
theorem upd_other {α : Type} (f : Nat → α) {j i : Nat} (v : α) (h : i ≠ j) : upd f j v i = f i := if_neg h

def swp {α : Type} (f : Nat → α) (i j : Nat) : Nat → α := fun k => if k = i then f j else if k = j then f i else f k

def prs (P T : Nat → Int) (lo hi : Nat) : List (Int × Int) := (List.range' lo (hi - lo)).map fun i => (P i, T i)

theorem swp_perm {α : Type} (f : Nat → α) (lo m i j : Nat) (hi1 : lo ≤ i) (hi2 : i < lo + m) (hj1 : lo ≤ j) (hj2 : j < lo + m) :
    ((List.range' lo m).map (swp f i j)).Perm ((List.range' lo m).map f) := by
  have hl : ((List.range' lo m).map f).length = m := by simp
  have h := List.set_set_perm («as» := (List.range' lo m).map f) (i := j - lo) (j := i - lo) (by omega) (by omega)
  refine List.Perm.trans (List.Perm.of_eq ?_) h
  apply List.ext_getElem
  · simp
  · intro k h1 h2
    simp only [List.getElem_set, List.getElem_map, List.getElem_range', Nat.one_mul]
    simp only [List.length_map, List.length_range'] at h1
    unfold swp
    by_cases e1 : i = lo + k
    · rw [if_pos e1.symm, if_pos (by omega)]; congr 1; omega
    · by_cases e2 : j = lo + k
      · rw [if_neg (fun e => e1 e.symm), if_pos e2.symm, if_neg (by omega), if_pos (by omega)]; congr 1; omega
      · rw [if_neg (fun e => e1 e.symm), if_neg (fun e => e2 e.symm), if_neg (by omega), if_neg (by omega)]

theorem prs_swap (P T : Nat → Int) (lo hi i j : Nat) (hi1 : lo ≤ i) (hi2 : i < hi) (hj1 : lo ≤ j) (hj2 : j < hi) :
    (prs (swp P i j) (swp T i j) lo hi).Perm (prs P T lo hi) := by
  have h := swp_perm (fun k => (P k, T k)) lo (hi - lo) i j hi1 (by omega) hj1 (by omega)
  have e : swp (fun k => (P k, T k)) i j = fun k => (swp P i j k, swp T i j k) := by
    funext k
    unfold swp
    split
    · rfl
    · split <;> rfl
  rw [e] at h
  exact h

theorem range_split (a b c : Nat) (h1 : a ≤ b) (h2 : b ≤ c) : List.range' a (c - a) = List.range' a (b - a) ++ List.range' b (c - b) := by
  have h := @List.range'_append_1 a (b - a) (c - b)
  rw [show a + (b - a) = b by omega, show (b - a) + (c - b) = c - a by omega] at h
  exact h.symm

theorem count_more (q : Nat → Bool) (lo hi a b x : Nat) (h1 : lo ≤ a) (h2 : a ≤ b) (h3 : b ≤ hi) (hq : ∀ i, a ≤ i → i < b → q i = true) (hx1 : lo ≤ x) (hx2 : x < hi) (hx : x < a ∨ b ≤ x) (hqx : q x = true) :
    b - a + 1 ≤ (List.range' lo (hi - lo)).countP q := by
  rw [range_split lo a hi h1 (by omega), range_split a b hi h2 h3, List.countP_append, List.countP_append]
  have hm : (List.range' a (b - a)).countP q = b - a := by
    have := (List.countP_eq_length (p := q) (l := List.range' a (b - a))).2 (fun i hi' => by rw [List.mem_range'_1] at hi'; exact hq i hi'.1 (by omega))
    rw [this, List.length_range']
  rcases hx with hx | hx
  · have := (List.countP_pos_iff (p := q) (l := List.range' lo (a - lo))).2 ⟨x, by rw [List.mem_range'_1]; omega, hqx⟩
    omega
  · have := (List.countP_pos_iff (p := q) (l := List.range' b (hi - b))).2 ⟨x, by rw [List.mem_range'_1]; omega, hqx⟩
    omega

theorem count_some (q : Nat → Bool) (lo hi x : Nat) (hx1 : lo ≤ x) (hx2 : x < hi) (hqx : q x = true) : 1 ≤ (List.range' lo (hi - lo)).countP q :=
  (List.countP_pos_iff (p := q)).2 ⟨x, by rw [List.mem_range'_1]; omega, hqx⟩

/-- The premise: runs that rise, and as many points of each group as its run is long. -/
structure Prem (K : Int → Int) (G : Nat) (R : Nat → Nat) (P : Nat → Int) : Prop where
  mono : ∀ h, h < G → R h ≤ R (h + 1)
  key : ∀ i, R 0 ≤ i → i < R G → ∃ h : Nat, h < G ∧ K (P i) = (h : Int)
  cnt : ∀ h : Nat, h < G → (List.range' (R 0) (R G - R 0)).countP (fun i => decide (K (P i) = (h : Int))) = R (h + 1) - R h

theorem mono_le {G : Nat} {R : Nat → Nat} (hm : ∀ h, h < G → R h ≤ R (h + 1)) {a b : Nat} (h : a ≤ b) (hb : b ≤ G) : R a ≤ R b := by
  induction b with
  | zero => rw [show a = 0 by omega]; exact Nat.le_refl _
  | succ b ih =>
    by_cases e : a = b + 1
    · rw [e]; exact Nat.le_refl _
    · exact Nat.le_trans (ih (by omega) (by omega)) (hm b (by omega))

/-- Every point lies in the run of its group. -/
def InPlace (K : Int → Int) (G : Nat) (R : Nat → Nat) (P : Nat → Int) : Prop := ∀ h, h < G → ∀ i, R h ≤ i → i < R (h + 1) → K (P i) = (h : Int)

structure Flag (K : Int → Int) (G : Nat) (R : Nat → Nat) (P0 T0 P T : Nat → Int) (N : Nat → Nat) : Prop where
  low : ∀ h, h < G → R h ≤ N h
  high : ∀ h, h < G → N h ≤ R (h + 1)
  placed : ∀ h, h < G → ∀ i, R h ≤ i → i < N h → K (P i) = (h : Int)
  perm : (prs P T (R 0) (R G)).Perm (prs P0 T0 (R 0) (R G))
  out : ∀ i, (i < R 0 ∨ R G ≤ i) → P i = P0 i ∧ T i = T0 i
  same : InPlace K G R P0 → ∀ i, P i = P0 i ∧ T i = T0 i

theorem Flag.start {K : Int → Int} {G : Nat} {R : Nat → Nat} {P0 T0 : Nat → Int} (hp : Prem K G R P0) : Flag K G R P0 T0 P0 T0 R where
  low := fun h _ => Nat.le_refl _
  high := fun h hh => hp.mono h hh
  placed := fun h _ i h1 h2 => absurd h2 (by omega)
  perm := List.Perm.refl _
  out := fun i _ => ⟨rfl, rfl⟩
  same := fun _ i => ⟨rfl, rfl⟩

theorem prs_map (P T : Nat → Int) (lo hi : Nat) : (prs P T lo hi).map Prod.fst = (List.range' lo (hi - lo)).map P := by
  unfold prs
  rw [List.map_map]
  rfl

theorem Flag.count {K : Int → Int} {G : Nat} {R : Nat → Nat} {P0 T0 P T : Nat → Int} {N : Nat → Nat} (hf : Flag K G R P0 T0 P T N) (h : Nat) :
    (List.range' (R 0) (R G - R 0)).countP (fun i => decide (K (P i) = (h : Int))) = (List.range' (R 0) (R G - R 0)).countP (fun i => decide (K (P0 i) = (h : Int))) := by
  have h1 := (hf.perm.map Prod.fst).countP_eq (fun x => decide (K x = (h : Int)))
  rw [prs_map, prs_map, List.countP_map, List.countP_map] at h1
  exact h1

theorem Flag.mem {K : Int → Int} {G : Nat} {R : Nat → Nat} {P0 T0 P T : Nat → Int} {N : Nat → Nat} (hf : Flag K G R P0 T0 P T N) {i : Nat} (h1 : R 0 ≤ i) (h2 : i < R G) : ∃ j, R 0 ≤ j ∧ j < R G ∧ P i = P0 j ∧ T i = T0 j := by
  have hm : (P i, T i) ∈ prs P0 T0 (R 0) (R G) := hf.perm.mem_iff.1 (List.mem_map.2 ⟨i, by rw [List.mem_range'_1]; omega, rfl⟩)
  obtain ⟨j, hj, he⟩ := List.mem_map.1 hm
  rw [List.mem_range'_1] at hj
  simp only [Prod.mk.injEq] at he
  exact ⟨j, hj.1, by omega, he.1.symm, he.2.symm⟩

/-- Values keep within any set that held them all. -/
theorem Flag.all {K : Int → Int} {G : Nat} {R : Nat → Nat} {P0 T0 P T : Nat → Int} {N : Nat → Nat} (hf : Flag K G R P0 T0 P T N) (A B : Int → Prop) (hA : ∀ i, A (P0 i)) (hB : ∀ i, B (T0 i)) (i : Nat) : A (P i) ∧ B (T i) := by
  by_cases h : R 0 ≤ i ∧ i < R G
  · obtain ⟨j, _, _, e1, e2⟩ := hf.mem h.1 h.2
    rw [e1, e2]; exact ⟨hA j, hB j⟩
  · obtain ⟨e1, e2⟩ := hf.out i (by omega)
    rw [e1, e2]; exact ⟨hA i, hB i⟩

theorem Flag.goal {K : Int → Int} {G : Nat} {R : Nat → Nat} {P0 T0 P T : Nat → Int} {N : Nat → Nat} (hp : Prem K G R P0) (hf : Flag K G R P0 T0 P T N) {g : Nat} (hg : g < G) (hlt : N g < R (g + 1)) :
    R 0 ≤ N g ∧ N g < R G ∧ ∃ h : Nat, h < G ∧ K (P (N g)) = (h : Int) ∧ (h ≠ g → N h < R (h + 1) ∧ N h ≠ N g ∧ R 0 ≤ N h ∧ N h < R G) := by
  have b1 := mono_le hp.mono (Nat.zero_le g) (by omega)
  have b2 := mono_le hp.mono (show g + 1 ≤ G by omega) (Nat.le_refl _)
  have b3 := hf.low g hg
  have hi1 : R 0 ≤ N g := by omega
  have hi2 : N g < R G := by omega
  refine ⟨hi1, hi2, ?_⟩
  obtain ⟨j, j1, j2, e1, e2⟩ := hf.mem hi1 hi2
  obtain ⟨h, hh, hk⟩ := hp.key j j1 j2
  refine ⟨h, hh, by rw [e1]; exact hk, fun hne => ?_⟩
  have c1 := mono_le hp.mono (Nat.zero_le h) (by omega)
  have c2 := mono_le hp.mono (show h + 1 ≤ G by omega) (Nat.le_refl _)
  have c3 := hf.low h hh
  have c4 := hf.high h hh
  have c5 := hp.mono h hh
  have hd : N g < R h ∨ R (h + 1) ≤ N g := by
    rcases Nat.lt_or_ge g h with hgh | hgh
    · have := mono_le hp.mono (show g + 1 ≤ h by omega) (by omega)
      omega
    · have := mono_le hp.mono (show h + 1 ≤ g by omega) (by omega)
      omega
  have hcount := hf.count h
  rw [hp.cnt h hh] at hcount
  have hm := count_more (fun i => decide (K (P i) = (h : Int))) (R 0) (R G) (R h) (N h) (N g) c1 c3 (by omega) (fun i h1 h2 => decide_eq_true (hf.placed h hh i h1 h2)) hi1 hi2 (by omega) (decide_eq_true (by rw [e1]; exact hk))
  omega

/-- The carried point goes to its group's run. -/
theorem Flag.swap {K : Int → Int} {G : Nat} {R : Nat → Nat} {P0 T0 P T : Nat → Int} {N : Nat → Nat} (hp : Prem K G R P0) (hf : Flag K G R P0 T0 P T N) {g : Nat} (hg : g < G) (hlt : N g < R (g + 1)) {h : Nat} (hh : h < G) (hk : K (P (N g)) = (h : Int)) (hne : h ≠ g) :
    Flag K G R P0 T0 (swp P (N g) (N h)) (swp T (N g) (N h)) (upd N h (N h + 1)) := by
  obtain ⟨hi1, hi2, h', hh', hk', hr⟩ := hf.goal hp hg hlt
  obtain rfl : h' = h := by rw [hk] at hk'; omega
  obtain ⟨r1, r2, r3, r4⟩ := hr hne
  refine ⟨fun k hkG => ?_, fun k hkG => ?_, fun k hkG i h1 h2 => ?_, (prs_swap P T _ _ _ _ hi1 hi2 r3 r4).trans hf.perm, fun i hi => ?_, fun hs => ?_⟩
  · have := hf.low k hkG
    by_cases e : k = h'
    · rw [e, upd_same]; have := hf.low h' hh; omega
    · rw [upd_other _ _ e]; exact this
  · by_cases e : k = h'
    · rw [e, upd_same]; omega
    · rw [upd_other _ _ e]; exact hf.high k hkG
  · have m1 := hp.mono
    -- N g lies in no placed part
    have hng : i ≠ N g := by
      intro e
      rcases Nat.lt_trichotomy g k with hgk | hgk | hgk
      · have := mono_le m1 (show g + 1 ≤ k by omega) (by omega)
        omega
      · subst hgk
        rw [upd_other _ _ (fun e => hne e.symm)] at h2
        omega
      · have a1 := mono_le m1 (show k + 1 ≤ g by omega) (by omega)
        have a2 := hf.low g hg
        by_cases ek : k = h'
        · rw [ek, upd_same] at h2
          rw [ek] at a1
          omega
        · rw [upd_other _ _ ek] at h2
          have := hf.high k hkG
          omega
    by_cases e : k = h'
    · subst e
      rw [upd_same] at h2
      by_cases ei : i = N k
      · unfold swp
        rw [if_neg hng, if_pos ei]
        exact hk
      · unfold swp
        rw [if_neg hng, if_neg ei]
        exact hf.placed k hkG i h1 (by omega)
    · rw [upd_other _ _ e] at h2
      have hnh : i ≠ N h' := by
        intro ei
        have a3 := hf.high k hkG
        have a4 := hf.low h' hh
        rcases Nat.lt_or_ge k h' with hkh | hkh
        · have := mono_le m1 (show k + 1 ≤ h' by omega) (by omega)
          omega
        · have := mono_le m1 (show h' + 1 ≤ k by omega) (by omega)
          omega
      unfold swp
      rw [if_neg hng, if_neg hnh]
      exact hf.placed k hkG i h1 h2
  · have a := hf.out i hi
    unfold swp
    rw [if_neg (by omega), if_neg (by omega), if_neg (by omega), if_neg (by omega)]
    exact a
  · have a := (hf.same hs (N g)).1
    have b := hs g hg (N g) (hf.low g hg) hlt
    rw [← a, hk] at b
    exact absurd (by omega : h' = g) hne

/-- The point stays: the next of group g. -/
theorem Flag.step {K : Int → Int} {G : Nat} {R : Nat → Nat} {P0 T0 P T : Nat → Int} {N : Nat → Nat} (hf : Flag K G R P0 T0 P T N) {g : Nat} (hg : g < G) (hlt : N g < R (g + 1)) (hk : K (P (N g)) = (g : Int)) :
    Flag K G R P0 T0 P T (upd N g (N g + 1)) := by
  refine ⟨fun k hkG => ?_, fun k hkG => ?_, fun k hkG i h1 h2 => ?_, hf.perm, hf.out, hf.same⟩
  · by_cases e : k = g
    · rw [e, upd_same]; have := hf.low g hg; omega
    · rw [upd_other _ _ e]; exact hf.low k hkG
  · by_cases e : k = g
    · rw [e, upd_same]; omega
    · rw [upd_other _ _ e]; exact hf.high k hkG
  · by_cases e : k = g
    · subst e
      rw [upd_same] at h2
      by_cases ei : i = N k
      · rw [ei]; exact hk
      · exact hf.placed k hkG i h1 (by omega)
    · rw [upd_other _ _ e] at h2
      exact hf.placed k hkG i h1 h2

theorem Flag.done {K : Int → Int} {G : Nat} {R : Nat → Nat} {P0 T0 P T : Nat → Int} {N : Nat → Nat} (hf : Flag K G R P0 T0 P T N) (hN : ∀ h, h < G → N h = R (h + 1)) : InPlace K G R P := by
  intro h hh i h1 h2
  exact hf.placed h hh i h1 (by rw [hN h hh]; exact h2)

/-- The premise stands behind it too. -/
theorem Flag.prem {K : Int → Int} {G : Nat} {R : Nat → Nat} {P0 T0 P T : Nat → Int} {N : Nat → Nat} (hp : Prem K G R P0) (hf : Flag K G R P0 T0 P T N) : Prem K G R P where
  mono := hp.mono
  key := fun i h1 h2 => by
    obtain ⟨j, j1, j2, e, _⟩ := hf.mem h1 h2
    rw [e]; exact hp.key j j1 j2
  cnt := fun h hh => by rw [hf.count h]; exact hp.cnt h hh

/-! ### How far it still is -/
def rem (R N : Nat → Nat) : Nat → Nat
  | 0 => 0
  | k + 1 => rem R N k + (R (k + 1) - N k)

theorem rem_other (R N : Nat → Nat) (h v : Nat) : ∀ G, G ≤ h → rem R (upd N h v) G = rem R N G := by
  intro G
  induction G with
  | zero => intro _; rfl
  | succ k ih =>
    intro hk
    unfold rem
    rw [ih (by omega), upd_other _ _ (by omega)]

theorem rem_step (R N : Nat → Nat) (h : Nat) (hlt : N h < R (h + 1)) : ∀ G, h < G → rem R (upd N h (N h + 1)) G + 1 = rem R N G := by
  intro G
  induction G with
  | zero => intro h'; omega
  | succ k ih =>
    intro hk
    unfold rem
    by_cases e : h = k
    · subst e
      rw [rem_other R N h _ h (Nat.le_refl _), upd_same]
      omega
    · rw [upd_other _ _ (fun e' => e e'.symm)]
      have := ih (by omega)
      omega

/-! ### The carried point in hand: memory holds P, the point p is carried from i -/
theorem carry_swap {α : Type} (P : Nat → α) (i j : Nat) (p : α) (hij : j ≠ i) : upd (upd P j p) i (P j) = swp (upd P i p) i j := by
  funext k
  unfold swp
  by_cases e1 : k = i
  · rw [e1, upd_same, if_pos rfl, upd_other _ _ hij]
  · rw [upd_other _ _ e1, if_neg e1]
    by_cases e2 : k = j
    · rw [e2, upd_same, if_pos rfl, upd_same]
    · rw [upd_other _ _ e2, if_neg e2, upd_other _ _ e1]

theorem upd_self {α : Type} (P : Nat → α) (i : Nat) : upd P i (P i) = P := by
  funext k
  by_cases e : k = i
  · rw [e, upd_same]
  · rw [upd_other _ _ e]

end Go.Proofs.Qxb6600860aMods
