/-
  THE PLAIN LAWS OF PATHS through the table: no Go in sight.
-/
import Derived.Test.Qxb6600170aModsModel
namespace Go.Proofs.Qxb6600170aMods
set_option linter.unusedVariables false
set_option linter.unusedSimpArgs false

/-- Child after child. -/
def walkTo (M : Tab) (i : Nat) : List (List Int) → Tab × Nat
  | [] => (M, i)
  | x :: l => walkTo (child M i x).1 (child M i x).2 l

theorem walkTo_append : ∀ (l l' : List (List Int)) (M : Tab) (i : Nat), walkTo M i (l ++ l') = walkTo (walkTo M i l).1 (walkTo M i l).2 l'
  | [], _, _, _ => rfl
  | x :: l, l', M, i => by simp only [List.cons_append, walkTo]; exact walkTo_append l l' _ _

theorem walkTo_snoc (M : Tab) (i : Nat) (l : List (List Int)) (x : List Int) : walkTo M i (l ++ [x]) = child (walkTo M i l).1 (walkTo M i l).2 x := by
  rw [walkTo_append]; rfl

/-- What one child gives. -/
theorem child_facts {M : Tab} (g : Good M) {i : Nat} (hi : i ≤ M.length) (x : List Int) :
    0 < (child M i x).2 ∧ (child M i x).2 ≤ (child M i x).1.length ∧ par (child M i x).1 (child M i x).2 = i ∧ cmd (child M i x).1 (child M i x).2 = x ∧ ∃ t, (child M i x).1 = M ++ t ∧ t.length ≤ 1 := by
  unfold child
  cases hf : find M i x with
  | some j =>
    obtain ⟨a, b, c, d⟩ := find_some hf
    exact ⟨a, b, c, d, [], by simp, by simp⟩
  | none =>
    exact ⟨by simp, by simp, by rw [par_new], by rw [cmd_new], [(i, x)], rfl, by simp⟩

theorem par_ext (M t : Tab) {j : Nat} (h0 : 0 < j) (h : j ≤ M.length) : par (M ++ t) j = par M j := by
  unfold par; simp [List.getD, List.getElem?_append_left (show j - 1 < M.length by omega)]
theorem cmd_ext (M t : Tab) {j : Nat} (h0 : 0 < j) (h : j ≤ M.length) : cmd (M ++ t) j = cmd M j := by
  unfold cmd; simp [List.getD, List.getElem?_append_left (show j - 1 < M.length by omega)]

theorem dep_ext {M t : Tab} (g : Good M) (g' : Good (M ++ t)) : ∀ j, j ≤ M.length → dep (M ++ t) j = dep M j := by
  intro j
  induction j using Nat.strongRecOn with
  | _ j ih =>
    intro h
    by_cases h0 : j = 0
    · subst h0; rw [dep_zero, dep_zero]
    · have hp := par_lt g (show 0 < j by omega) h
      rw [dep_par g' (by omega) (by rw [List.length_append]; omega), dep_par g (by omega) h, par_ext M t (by omega) h, ih _ hp (by omega)]

theorem up_ext {M t : Tab} (g : Good M) {i : Nat} (hi : i ≤ M.length) : ∀ k, k ≤ dep M i → up (M ++ t) i k = up M i k := by
  intro k
  induction k with
  | zero => intro _; rfl
  | succ k ih =>
    intro hk
    obtain ⟨h1, h2⟩ := up_dep g hi k (by omega)
    show par (M ++ t) (up (M ++ t) i k) = par M (up M i k)
    rw [ih (by omega), par_ext M t (pos_of_dep (M := M) (by omega)) h1]

theorem up_add (M : Tab) (i a : Nat) : ∀ b, up M i (a + b) = up M (up M i a) b
  | 0 => rfl
  | b + 1 => by show par M (up M i (a + b)) = par M (up M (up M i a) b); rw [up_add M i a b]

structure Walked (M : Tab) (i : Nat) (l : List (List Int)) : Prop where
  good : Good (walkTo M i l).1
  ext : ∃ t, (walkTo M i l).1 = M ++ t ∧ t.length ≤ l.length
  le : (walkTo M i l).2 ≤ (walkTo M i l).1.length
  depth : dep (walkTo M i l).1 (walkTo M i l).2 = dep M i + l.length
  back : up (walkTo M i l).1 (walkTo M i l).2 l.length = i
  cmds : ∀ k, k < l.length → cmd (walkTo M i l).1 (up (walkTo M i l).1 (walkTo M i l).2 k) = l.getD (l.length - 1 - k) []

theorem walked {M : Tab} (g : Good M) {i : Nat} (hi : i ≤ M.length) (l : List (List Int)) : Walked M i l := by
  have : ∀ (n : Nat) (l : List (List Int)), l.length = n → Walked M i l := by
    intro n
    induction n with
    | zero =>
      intro l h
      obtain rfl : l = [] := List.eq_nil_of_length_eq_zero h
      exact ⟨g, ⟨[], by simp [walkTo]⟩, hi, by simp [walkTo], rfl, by simp⟩
    | succ n ih =>
      intro l h
      have hne : l ≠ [] := by intro e; subst e; simp at h
      obtain ⟨l, x, rfl⟩ : ∃ l' x, l = l' ++ [x] := ⟨l.dropLast, l.getLast hne, (List.dropLast_concat_getLast hne).symm⟩
      have hl : l.length = n := by simpa using h
      have W := ih l hl
      obtain ⟨c1, c2, c3, c4, t, c5, c6⟩ := child_facts W.good W.le x
      have gC := child_good W.good W.le x
      have hs := walkTo_snoc M i l x
      have hlt : (walkTo M i l).1.length ≤ (child (walkTo M i l).1 (walkTo M i l).2 x).1.length := by rw [c5]; simp
      have hdep : dep (child (walkTo M i l).1 (walkTo M i l).2 x).1 (child (walkTo M i l).1 (walkTo M i l).2 x).2 = dep M i + l.length + 1 := by
        rw [dep_par gC c1 c2, c3]
        have : dep (child (walkTo M i l).1 (walkTo M i l).2 x).1 (walkTo M i l).2 = dep (walkTo M i l).1 (walkTo M i l).2 := by
          have gC' := gC
          rw [c5] at gC' ⊢
          exact dep_ext W.good gC' _ W.le
        rw [this, W.depth]
      have hup : ∀ k, k ≤ l.length → up (child (walkTo M i l).1 (walkTo M i l).2 x).1 (child (walkTo M i l).1 (walkTo M i l).2 x).2 (k + 1) = up (walkTo M i l).1 (walkTo M i l).2 k := by
        intro k hk
        rw [show k + 1 = 1 + k by omega, up_add]
        have e1 : up (child (walkTo M i l).1 (walkTo M i l).2 x).1 (child (walkTo M i l).1 (walkTo M i l).2 x).2 1 = (walkTo M i l).2 := c3
        rw [e1]
        have := W.depth
        rw [c5]
        exact up_ext W.good W.le k (by omega)
      obtain ⟨t0, h1, h2⟩ := W.ext
      refine ⟨by rw [hs]; exact gC, ⟨t0 ++ t, ?_, by simp; omega⟩, by rw [hs]; exact c2, by rw [hs, hdep]; simp; omega, ?_, ?_⟩
      · rw [hs, c5, h1, List.append_assoc]
      · rw [hs, List.length_append, List.length_singleton, hup _ (Nat.le_refl _)]
        exact W.back
      · intro k hk
        rw [hs]
        rw [List.length_append, List.length_singleton] at hk ⊢
        cases k with
        | zero =>
          show cmd _ (child (walkTo M i l).1 (walkTo M i l).2 x).2 = _
          rw [c4]; simp [List.getD]
        | succ k =>
          rw [hup k (by omega)]
          have hd := W.depth
          obtain ⟨u1, u2⟩ := up_dep W.good W.le k (by omega)
          have hpos : 0 < up (walkTo M i l).1 (walkTo M i l).2 k := pos_of_dep (M := (walkTo M i l).1) (by omega)
          have e2 : cmd (child (walkTo M i l).1 (walkTo M i l).2 x).1 (up (walkTo M i l).1 (walkTo M i l).2 k) = cmd (walkTo M i l).1 (up (walkTo M i l).1 (walkTo M i l).2 k) := by
            rw [c5]; exact cmd_ext _ _ hpos u1
          rw [e2, W.cmds k (by omega)]
          rw [show l.length + 1 - 1 - (k + 1) = l.length - 1 - k by omega]
          simp [List.getD, List.getElem?_append_left (show l.length - 1 - k < l.length by omega)]
  exact this _ l rfl

theorem walkTo_length {M : Tab} (g : Good M) {i : Nat} (hi : i ≤ M.length) (l : List (List Int)) : (walkTo M i l).1.length ≤ M.length + l.length := by
  obtain ⟨t, h1, h2⟩ := (walked g hi l).ext
  rw [h1, List.length_append]; omega

/-! ### New chains -/
theorem kids_last {M : Tab} (g : Good M) : kids M M.length = [] := by
  refine List.eq_nil_iff_forall_not_mem.2 fun j hj => ?_
  obtain ⟨h1, h2, h3⟩ := mem_kids.1 hj
  have := par_lt g h1 h2
  omega

theorem child_last {M : Tab} (g : Good M) (x : List Int) : child M M.length x = (M ++ [(M.length, x)], M.length + 1) := by
  have : find M M.length x = none := by unfold find; rw [kids_last g]; rfl
  unfold child; rw [this]

theorem walkTo_last : ∀ (l : List (List Int)) {M : Tab}, Good M → (walkTo M M.length l).2 = M.length + l.length ∧ (walkTo M M.length l).1.length = M.length + l.length
  | [], _, _ => ⟨rfl, rfl⟩
  | x :: l, M, g => by
    have gC := child_good g (Nat.le_refl _) x
    simp only [walkTo]
    rw [child_last g] at gC ⊢
    have ih := walkTo_last l gC
    simp only [List.length_append, List.length_singleton] at ih
    refine ⟨?_, ?_⟩
    · show (walkTo (M ++ [(M.length, x)]) (M.length + 1) l).2 = _
      rw [ih.1]; simp; omega
    · show (walkTo (M ++ [(M.length, x)]) (M.length + 1) l).1.length = _
      rw [ih.2]; simp; omega

/-- The chain of a. -/
def chain (a : List (List Int)) : Tab := (walkTo [] 0 a).1

theorem chain_last (a : List (List Int)) : (walkTo [] 0 a).2 = a.length ∧ (chain a).length = a.length := by
  have := walkTo_last a good_nil
  simpa [chain] using this

theorem chain_good (a : List (List Int)) : Good (chain a) := (walked good_nil (Nat.le_refl _) a).good

theorem chain_snoc (a : List (List Int)) (x : List Int) : chain (a ++ [x]) = chain a ++ [(a.length, x)] := by
  unfold chain
  rw [walkTo_snoc, (chain_last a).1]
  have h := child_last (chain_good a) x
  rw [(chain_last a).2] at h
  show (child (chain a) a.length x).1 = _
  rw [h]; rfl

theorem chain_get : ∀ (n : Nat) (a : List (List Int)), a.length = n → ∀ j, j < a.length → (chain a).getD j (0, []) = (j, a.getD j [])
  | 0, a, h, j, hj => by omega
  | n + 1, a, h, j, hj => by
    have hne : a ≠ [] := by intro e; subst e; simp at h
    obtain ⟨l, x, rfl⟩ : ∃ l' x, a = l' ++ [x] := ⟨a.dropLast, a.getLast hne, (List.dropLast_concat_getLast hne).symm⟩
    have hl : l.length = n := by simpa using h
    rw [chain_snoc]
    have hcl := (chain_last l).2
    by_cases e : j = l.length
    · subst e
      have := getD_snoc_eq (chain l) (l.length, x) (0, [])
      rw [hcl] at this
      rw [this]; simp [List.getD]
    · have hj' : j < l.length := by simp at hj; omega
      rw [getD_snoc_lt _ _ _ _ (by omega), chain_get n l hl j hj', getD_snoc_lt _ _ _ _ hj']

theorem chain_par {a : List (List Int)} {j : Nat} (h0 : 0 < j) (h : j ≤ a.length) : par (chain a) j = j - 1 ∧ cmd (chain a) j = a.getD (j - 1) [] := by
  unfold par cmd
  rw [chain_get _ a rfl (j - 1) (by omega)]
  exact ⟨rfl, rfl⟩

/-- Walking the same road again makes nothing new. -/
theorem chain_again (a : List (List Int)) : ∀ k, k ≤ a.length → walkTo (chain a) 0 (a.take k) = (chain a, k) := by
  intro k
  induction k with
  | zero => intro _; simp [walkTo]
  | succ k ih =>
    intro hk
    have hlt : k < a.length := by omega
    rw [List.take_succ_eq_append_getElem hlt, walkTo_snoc, ih (by omega)]
    have hcl := (chain_last a).2
    obtain ⟨p1, p2⟩ := chain_par (a := a) (j := k + 1) (by omega) (by omega)
    have hx : a.getD k [] = a[k] := by simp [List.getD, hlt]
    show child (chain a) k a[k] = _
    cases hf : find (chain a) k a[k] with
    | none => exact absurd (by rw [p2]; exact hx) (find_none hf (k + 1) (by omega) (by omega) p1)
    | some j =>
      obtain ⟨h1, h2, h3, h4⟩ := find_some hf
      have hj : j - 1 = k := by rw [← (chain_par h1 (by omega : j ≤ a.length)).1]; exact h3
      unfold child
      rw [hf]
      simp only [Prod.mk.injEq, true_and]
      omega

/-- What the two roads' common beginning is. -/
structure Common (a b : List (List Int)) (cp : Nat) : Prop where
  la : cp ≤ a.length
  lb : cp ≤ b.length
  same : a.take cp = b.take cp
  end_ : cp < a.length → cp < b.length → a.getD cp [] ≠ b.getD cp []

theorem take_drop_len {α : Type} (l : List α) (k : Nat) (h : k ≤ l.length) : (l.drop k).length = l.length - k := by simp

/-- THE LAW OF TWO ROADS. -/
theorem two_roads {a b : List (List Int)} {cp : Nat} (c : Common a b cp) :
    walkTo (chain a) 0 b = walkTo (chain a) cp (b.drop cp) ∧
    (walkTo (chain a) 0 b).1.length = a.length + b.length - cp ∧
    ((walkTo (chain a) 0 b).2 = a.length ↔ (cp = a.length ∧ cp = b.length)) := by
  have hcl := (chain_last a).2
  have e1 : walkTo (chain a) 0 b = walkTo (chain a) cp (b.drop cp) := by
    have h := walkTo_append (b.take cp) (b.drop cp) (chain a) 0
    rw [List.take_append_drop, ← c.same, chain_again a cp c.la] at h
    exact h
  have hla := c.la
  have hlb := c.lb
  refine ⟨e1, ?_⟩
  rw [e1]
  cases hd : b.drop cp with
  | nil =>
    have hb : b.length ≤ cp := by
      have := congrArg List.length hd
      simp at this; omega
    refine ⟨?_, ?_⟩
    · show (chain a).length = _; omega
    · show cp = a.length ↔ _
      constructor
      · intro h; exact ⟨h, by omega⟩
      · intro h; exact h.1
  | cons x l =>
    have hbl : b.length - cp = l.length + 1 := by have := congrArg List.length hd; simpa using this
    have hx : b.getD cp [] = x := by
      have h0 : (b.drop cp)[0]? = some x := by rw [hd]; rfl
      simp at h0
      simp [List.getD, h0]
    have hnone : find (chain a) cp x = none := by
      cases hf : find (chain a) cp x with
      | none => rfl
      | some j =>
        obtain ⟨h1, h2, h3, h4⟩ := find_some hf
        obtain ⟨p1, p2⟩ := chain_par h1 (by omega : j ≤ a.length)
        have hj : j - 1 = cp := by rw [← p1]; exact h3
        rw [hj] at p2
        exact absurd (by rw [← p2, h4, hx]) (c.end_ (by omega) (by omega))
    have hch : child (chain a) cp x = (chain a ++ [(cp, x)], a.length + 1) := by unfold child; rw [hnone, hcl]
    have gC := child_good (chain_good a) (by omega : cp ≤ (chain a).length) x
    rw [hch] at gC
    have hl := walkTo_last l gC
    have e2 : (chain a ++ [(cp, x)]).length = a.length + 1 := by simp [hcl]
    have e3 : walkTo (chain a) cp (x :: l) = walkTo (chain a ++ [(cp, x)]) (chain a ++ [(cp, x)]).length l := by
      simp only [walkTo, hch, e2]
    simp only [e2] at hl
    rw [e3, e2]
    refine ⟨by rw [hl.2]; omega, ?_⟩
    rw [hl.1]
    constructor
    · intro h; omega
    · intro h; omega

end Go.Proofs.Qxb6600170aMods
