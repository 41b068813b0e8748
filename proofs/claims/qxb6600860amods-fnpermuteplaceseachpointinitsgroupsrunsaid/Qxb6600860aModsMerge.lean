/-
  PLAIN LAWS OF THE BOTTOM-UP MERGE SORT OF PAIRS.
-/
import Derived.Test.Qxb6600860aModsFlag
namespace Go.Proofs.Qxb6600860aMods
set_option linter.unusedVariables false
set_option linter.unusedSimpArgs false

def le2 (a b : Int × Int) : Prop := a.1 < b.1 ∨ (a.1 = b.1 ∧ a.2 ≤ b.2)
theorem le2_trans {a b c : Int × Int} (h : le2 a b) (k : le2 b c) : le2 a c := by unfold le2 at *; omega
theorem le2_antisymm {a b : Int × Int} (h : le2 a b) (k : le2 b a) : a = b := by
  unfold le2 at *
  apply Prod.ext <;> omega
theorem le2_refl (a : Int × Int) : le2 a a := by unfold le2; omega

theorem prs_snoc (A B : Nat → Int) {lo k : Nat} (h : lo ≤ k) : prs A B lo (k + 1) = prs A B lo k ++ [(A k, B k)] := by
  unfold prs
  rw [range_split lo k (k + 1) h (by omega), List.map_append, show k + 1 - k = 1 by omega]
  rfl

theorem prs_congr {A B A' B' : Nat → Int} {lo k : Nat} (h : ∀ x, lo ≤ x → x < k → A x = A' x ∧ B x = B' x) : prs A B lo k = prs A' B' lo k := by
  unfold prs
  apply List.map_congr_left
  intro x hx
  rw [List.mem_range'_1] at hx
  have := h x hx.1 (by omega)
  rw [this.1, this.2]

theorem prs_split (A B : Nat → Int) {a b c : Nat} (h1 : a ≤ b) (h2 : b ≤ c) : prs A B a c = prs A B a b ++ prs A B b c := by
  unfold prs
  rw [range_split a b c h1 h2, List.map_append]

theorem prs_nil (A B : Nat → Int) (a : Nat) : prs A B a a = [] := by unfold prs; simp

def Srt (A B : Nat → Int) (a b : Nat) : Prop := ∀ x y, a ≤ x → x < y → y < b → le2 (A x, B x) (A y, B y)

structure Mrg (A B TA TB : Nat → Int) (lo mid hi i j k : Nat) : Prop where
  i1 : lo ≤ i
  i2 : i ≤ mid
  j1 : mid ≤ j
  j2 : j ≤ hi
  k1 : k + mid = i + j
  srt : Srt TA TB lo k
  left : ∀ e x, lo ≤ e → e < k → i ≤ x → x < mid → le2 (TA e, TB e) (A x, B x)
  right : ∀ e y, lo ≤ e → e < k → j ≤ y → y < hi → le2 (TA e, TB e) (A y, B y)
  perm : (prs TA TB lo k).Perm (prs A B lo i ++ prs A B mid j)

theorem Mrg.start (A B TA TB : Nat → Int) {lo mid hi : Nat} (h1 : lo ≤ mid) (h2 : mid ≤ hi) : Mrg A B TA TB lo mid hi lo mid lo where
  i1 := Nat.le_refl _
  i2 := h1
  j1 := Nat.le_refl _
  j2 := h2
  k1 := rfl
  srt := fun x y h1 h2 h3 => by omega
  left := fun e x h1 h2 => by omega
  right := fun e x h1 h2 => by omega
  perm := by rw [prs_nil, prs_nil, prs_nil]; exact List.Perm.refl _

/-- One point more at the end of what is written. -/
theorem srt_push {TA TB : Nat → Int} {lo k : Nat} {a b : Int} (h : Srt TA TB lo k) (hle : ∀ e, lo ≤ e → e < k → le2 (TA e, TB e) (a, b)) : Srt (upd TA k a) (upd TB k b) lo (k + 1) := by
  intro x y h1 h2 h3
  rw [upd_other TA a (show x ≠ k by omega), upd_other TB b (show x ≠ k by omega)]
  by_cases e : y = k
  · rw [e, upd_same, upd_same]; exact hle x h1 (by omega)
  · rw [upd_other TA a e, upd_other TB b e]; exact h x y h1 h2 (by omega)

theorem perm_push {TA TB : Nat → Int} {lo k : Nat} {a b : Int} {l : List (Int × Int)} (hk : lo ≤ k) (h : (prs TA TB lo k).Perm l) : (prs (upd TA k a) (upd TB k b) lo (k + 1)).Perm (l ++ [(a, b)]) := by
  rw [prs_snoc _ _ hk, upd_same, upd_same]
  rw [prs_congr (A := upd TA k a) (B := upd TB k b) (A' := TA) (B' := TB) (fun x h1 h2 => ⟨upd_other TA a (by omega), upd_other TB b (by omega)⟩)]
  exact h.append_right _

theorem Mrg.takeLeft {A B TA TB : Nat → Int} {lo mid hi i j k : Nat} (h : Mrg A B TA TB lo mid hi i j k) (hl : Srt A B lo mid) (hr : Srt A B mid hi) (hi' : i < mid) (hle : j < hi → le2 (A i, B i) (A j, B j)) :
    Mrg A B (upd TA k (A i)) (upd TB k (B i)) lo mid hi (i + 1) j (k + 1) := by
  obtain ⟨i1, i2, j1, j2, k1, srt, left, right, perm⟩ := h
  have hle2 : ∀ y, j ≤ y → y < hi → le2 (A i, B i) (A y, B y) := fun y h1 h2 => by
    by_cases e : y = j
    · rw [e]; exact hle (by omega)
    · exact le2_trans (hle (by omega)) (hr j y j1 (by omega) h2)
  refine ⟨by omega, by omega, j1, j2, by omega, srt_push srt fun e h1 h2 => left e i h1 h2 (Nat.le_refl _) hi', fun e x h1 h2 h3 h4 => ?_, fun e y h1 h2 h3 h4 => ?_, ?_⟩
  · by_cases ee : e = k
    · rw [ee, upd_same, upd_same]; exact hl i x i1 (by omega) h4
    · rw [upd_other TA _ ee, upd_other TB _ ee]; exact left e x h1 (by omega) (by omega) h4
  · by_cases ee : e = k
    · rw [ee, upd_same, upd_same]; exact hle2 y h3 h4
    · rw [upd_other TA _ ee, upd_other TB _ ee]; exact right e y h1 (by omega) h3 h4
  · refine (perm_push (by omega) perm).trans ?_
    rw [prs_snoc _ _ i1, List.append_assoc, List.append_assoc]
    exact List.Perm.append_left _ List.perm_append_comm

theorem Mrg.takeRight {A B TA TB : Nat → Int} {lo mid hi i j k : Nat} (h : Mrg A B TA TB lo mid hi i j k) (hl : Srt A B lo mid) (hr : Srt A B mid hi) (hj : j < hi) (hle : i < mid → le2 (A j, B j) (A i, B i)) :
    Mrg A B (upd TA k (A j)) (upd TB k (B j)) lo mid hi i (j + 1) (k + 1) := by
  obtain ⟨i1, i2, j1, j2, k1, srt, left, right, perm⟩ := h
  have hle2 : ∀ x, i ≤ x → x < mid → le2 (A j, B j) (A x, B x) := fun x h1 h2 => by
    by_cases e : x = i
    · rw [e]; exact hle (by omega)
    · exact le2_trans (hle (by omega)) (hl i x i1 (by omega) h2)
  refine ⟨i1, i2, by omega, by omega, by omega, srt_push srt fun e h1 h2 => right e j h1 h2 (Nat.le_refl _) hj, fun e x h1 h2 h3 h4 => ?_, fun e y h1 h2 h3 h4 => ?_, ?_⟩
  · by_cases ee : e = k
    · rw [ee, upd_same, upd_same]; exact hle2 x h3 h4
    · rw [upd_other TA _ ee, upd_other TB _ ee]; exact left e x h1 (by omega) h3 h4
  · by_cases ee : e = k
    · rw [ee, upd_same, upd_same]; exact hr j y j1 (by omega) h4
    · rw [upd_other TA _ ee, upd_other TB _ ee]; exact right e y h1 (by omega) (by omega) h4
  · refine (perm_push (by omega) perm).trans ?_
    rw [prs_snoc _ _ j1, List.append_assoc]

theorem Mrg.done {A B TA TB : Nat → Int} {lo mid hi i j : Nat} (h : Mrg A B TA TB lo mid hi i j hi) : Srt TA TB lo hi ∧ (prs TA TB lo hi).Perm (prs A B lo hi) := by
  obtain ⟨i1, i2, j1, j2, k1, srt, left, right, perm⟩ := h
  obtain rfl : i = mid := by omega
  obtain rfl : j = hi := by omega
  refine ⟨srt, ?_⟩
  rw [prs_split A B i1 j1]
  exact perm

/-! ### One sweep -/
def Runs (A B : Nat → Int) (W n : Nat) : Prop := ∀ m, Srt A B (m * W) (min ((m + 1) * W) n)

structure Mid (A B TA TB : Nat → Int) (W n m : Nat) : Prop where
  srt : ∀ m', m' < m → Srt TA TB (m' * (2 * W)) (min ((m' + 1) * (2 * W)) n)
  perm : (prs TA TB 0 (min (m * (2 * W)) n)).Perm (prs A B 0 (min (m * (2 * W)) n))

theorem Mid.start (A B TA TB : Nat → Int) (W n : Nat) : Mid A B TA TB W n 0 where
  srt := fun m' h => absurd h (Nat.not_lt_zero _)
  perm := by rw [Nat.zero_mul, Nat.zero_min, prs_nil, prs_nil]

theorem runs_left {A B : Nat → Int} {W n m lo : Nat} (h : Runs A B W n) (hlo : lo = m * (2 * W)) : Srt A B lo (min (lo + W) n) := by
  have h1 := h (2 * m)
  have e1 : 2 * m * W = lo := by rw [hlo, Nat.mul_comm 2 m, Nat.mul_assoc]
  have e2 : (2 * m + 1) * W = lo + W := by rw [Nat.add_mul, e1, Nat.one_mul]
  rw [e2, e1] at h1
  exact h1

theorem runs_right {A B : Nat → Int} {W n m lo : Nat} (h : Runs A B W n) (hlo : lo = m * (2 * W)) : Srt A B (min (lo + W) n) (min (lo + 2 * W) n) := by
  have h1 := h (2 * m + 1)
  have e1 : 2 * m * W = lo := by rw [hlo, Nat.mul_comm 2 m, Nat.mul_assoc]
  have e2 : (2 * m + 1) * W = lo + W := by rw [Nat.add_mul, e1, Nat.one_mul]
  have e3 : (2 * m + 1 + 1) * W = lo + W + W := by rw [Nat.add_mul, e2, Nat.one_mul]
  rw [e3, e2] at h1
  intro x y hx hxy hy
  exact h1 x y (by omega) hxy (by omega)

theorem Mid.step {A B TA TB TA' TB' : Nat → Int} {W n m lo i j : Nat} (h : Mid A B TA TB W n m) (hlo : lo = m * (2 * W)) (hn : lo < n) (hm : Mrg A B TA' TB' lo (min (lo + W) n) (min (lo + 2 * W) n) i j (min (lo + 2 * W) n)) (hs : ∀ x, x < lo → TA' x = TA x ∧ TB' x = TB x) :
    Mid A B TA' TB' W n (m + 1) := by
  obtain ⟨d1, d2⟩ := hm.done
  have e2 : (m + 1) * (2 * W) = lo + 2 * W := by rw [Nat.succ_mul, hlo]
  refine ⟨fun m' hm' => ?_, ?_⟩
  · by_cases e : m' = m
    · rw [e, e2, ← hlo]; exact d1
    · have hle : (m' + 1) * (2 * W) ≤ lo := by rw [hlo]; exact Nat.mul_le_mul_right _ (by omega)
      intro x y h1 h2 h3
      rw [(hs x (by omega)).1, (hs x (by omega)).2, (hs y (by omega)).1, (hs y (by omega)).2]
      exact h.srt m' (by omega) x y h1 h2 h3
  · rw [e2]
    have hp := h.perm
    rw [← hlo, show min lo n = lo by omega] at hp
    rw [prs_split TA' TB' (Nat.zero_le lo) (show lo ≤ min (lo + 2 * W) n by omega), prs_split A B (Nat.zero_le lo) (show lo ≤ min (lo + 2 * W) n by omega)]
    refine List.Perm.append ?_ d2
    rw [prs_congr (A := TA') (B := TB') (A' := TA) (B' := TB) (fun x _ h2 => hs x h2)]
    exact hp

theorem Mid.done {A B TA TB : Nat → Int} {W n m : Nat} (h : Mid A B TA TB W n m) (hn : n ≤ m * (2 * W)) : Runs TA TB (2 * W) n ∧ (prs TA TB 0 n).Perm (prs A B 0 n) := by
  have hp := h.perm
  rw [show min (m * (2 * W)) n = n by omega] at hp
  refine ⟨fun m' => ?_, hp⟩
  by_cases e : m' < m
  · exact h.srt m' e
  · have hle : m * (2 * W) ≤ m' * (2 * W) := Nat.mul_le_mul_right _ (by omega)
    intro x y h1 h2 h3
    omega

theorem Runs.one (A B : Nat → Int) (n : Nat) : Runs A B 1 n := by
  intro m x y h1 h2 h3
  omega

theorem Runs.all {A B : Nat → Int} {W n : Nat} (h : Runs A B W n) (hW : n ≤ W) : Srt A B 0 n := by
  have h0 := h 0
  rw [Nat.zero_mul, Nat.zero_add, Nat.one_mul, show min W n = n by omega] at h0
  exact h0

/-! ### A sorted permutation is one -/
theorem srt_pairwise {A B : Nat → Int} {n : Nat} (h : Srt A B 0 n) : (prs A B 0 n).Pairwise le2 := by
  unfold prs
  rw [List.pairwise_iff_getElem]
  intro i j hi hj hij
  simp only [List.getElem_map, List.getElem_range', Nat.one_mul]
  simp only [List.length_map, List.length_range'] at hi hj
  exact h _ _ (by omega) (by omega) (by omega)

theorem sorted_same {A B A' B' : Nat → Int} {n : Nat} (h : Srt A B 0 n) (h' : Srt A' B' 0 n) (hp : (prs A B 0 n).Perm (prs A' B' 0 n)) {i : Nat} (hi : i < n) : A i = A' i ∧ B i = B' i := by
  have e : prs A B 0 n = prs A' B' 0 n := List.Perm.eq_of_pairwise (fun a b _ _ h1 h2 => le2_antisymm h1 h2) (srt_pairwise h) (srt_pairwise h') hp
  have e2 := congrArg (fun l => l[i]?) e
  unfold prs at e2
  simp [hi] at e2
  exact e2

end Go.Proofs.Qxb6600860aMods
