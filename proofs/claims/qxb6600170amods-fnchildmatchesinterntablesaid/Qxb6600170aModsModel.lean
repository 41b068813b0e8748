/-
  THE PLAIN MODEL OF THE TABLE OF SEQUENCES: no Go in sight. Node 0 is the root; entry j of the list M is node j + 1: (its parent, its command).
-/
namespace Go.Proofs.Qxb6600170aMods
set_option linter.unusedVariables false
set_option linter.unusedSimpArgs false

abbrev Tab := List (Nat × List Int)

def par (M : Tab) (i : Nat) : Nat := (M.getD (i - 1) (0, [])).1
def cmd (M : Tab) (i : Nat) : List Int := (M.getD (i - 1) (0, [])).2

/-- The nodes whose parent is i, in the order in which they came. -/
def kids (M : Tab) (i : Nat) : List Nat := ((List.range M.length).filter fun j => (M.getD j (0, [])).1 == i).map (· + 1)

/-- The depths of all nodes. -/
def deps (M : Tab) : List Nat := M.foldl (fun acc e => acc ++ [acc.getD e.1 0 + 1]) [0]
def dep (M : Tab) (i : Nat) : Nat := (deps M).getD i 0

/-- The child of i by xs, if it is there. -/
def find (M : Tab) (i : Nat) (xs : List Int) : Option Nat := (kids M i).find? fun j => decide (cmd M j = xs)

/-- What 'child' does to the table, and what it hands back. -/
def child (M : Tab) (i : Nat) (xs : List Int) : Tab × Nat :=
  match find M i xs with
  | some j => (M, j)
  | none => (M ++ [(i, xs)], M.length + 1)

/-- Each parent came before its child; no pair stands twice. -/
structure Good (M : Tab) : Prop where
  up : ∀ j, j < M.length → (M.getD j (0, [])).1 ≤ j
  once : ∀ i j, i < M.length → j < M.length → M.getD i (0, []) = M.getD j (0, []) → i = j

theorem getD_snoc_lt {α : Type} (l : List α) (x d : α) (i : Nat) (h : i < l.length) : (l ++ [x]).getD i d = l.getD i d := by
  simp [List.getD, List.getElem?_append_left h]
theorem getD_snoc_eq {α : Type} (l : List α) (x d : α) : (l ++ [x]).getD l.length d = x := by simp [List.getD]

theorem par_snoc {M : Tab} {e : Nat × List Int} {i : Nat} (h1 : 0 < i) (h : i ≤ M.length) : par (M ++ [e]) i = par M i := by
  unfold par; rw [getD_snoc_lt _ _ _ _ (by omega)]
theorem cmd_snoc {M : Tab} {e : Nat × List Int} {i : Nat} (h1 : 0 < i) (h : i ≤ M.length) : cmd (M ++ [e]) i = cmd M i := by
  unfold cmd; rw [getD_snoc_lt _ _ _ _ (by omega)]
theorem par_new (M : Tab) (e : Nat × List Int) : par (M ++ [e]) (M.length + 1) = e.1 := by unfold par; simp [getD_snoc_eq]
theorem cmd_new (M : Tab) (e : Nat × List Int) : cmd (M ++ [e]) (M.length + 1) = e.2 := by unfold cmd; simp [getD_snoc_eq]

theorem mem_kids {M : Tab} {i j : Nat} : j ∈ kids M i ↔ 0 < j ∧ j ≤ M.length ∧ par M j = i := by
  unfold kids par
  simp only [List.mem_map, List.mem_filter, List.mem_range, beq_iff_eq]
  constructor
  · rintro ⟨a, ⟨h1, h2⟩, rfl⟩; exact ⟨by omega, by omega, by simpa using h2⟩
  · rintro ⟨h1, h2, h3⟩; exact ⟨j - 1, ⟨by omega, h3⟩, by omega⟩

theorem kids_snoc (M : Tab) (e : Nat × List Int) (i : Nat) : kids (M ++ [e]) i = if e.1 = i then kids M i ++ [M.length + 1] else kids M i := by
  unfold kids
  rw [List.length_append, List.length_singleton, List.range_succ, List.filter_append, List.map_append]
  have h1 : (List.range M.length).filter (fun j => ((M ++ [e]).getD j (0, [])).1 == i) = (List.range M.length).filter (fun j => (M.getD j (0, [])).1 == i) := by
    apply List.filter_congr
    intro j hj
    rw [getD_snoc_lt _ _ _ _ (List.mem_range.1 hj)]
  rw [h1]
  by_cases h : e.1 = i
  · rw [if_pos h]
    have : ((M ++ [e]).getD M.length (0, [])).1 == i := by rw [getD_snoc_eq]; simpa using h
    simp only [List.filter_cons, this]
    simp
  · rw [if_neg h]
    have : ¬ (((M ++ [e]).getD M.length (0, [])).1 == i) = true := by rw [getD_snoc_eq]; simpa using h
    simp only [List.filter_cons, this]
    simp

theorem kids_new {M : Tab} (g : Good M) {p : Nat} (hp : p ≤ M.length) (x : List Int) : kids (M ++ [(p, x)]) (M.length + 1) = [] := by
  rw [kids_snoc, if_neg (by simp; omega)]
  refine List.eq_nil_iff_forall_not_mem.2 fun j hj => ?_
  obtain ⟨h1, h2, h3⟩ := mem_kids.1 hj
  have := g.up (j - 1) (by omega)
  unfold par at h3
  omega

theorem deps_snoc (M : Tab) (e : Nat × List Int) : deps (M ++ [e]) = deps M ++ [dep M e.1 + 1] := by
  unfold deps dep; rw [List.foldl_append]; rfl

theorem deps_length (M : Tab) : (deps M).length = M.length + 1 := by
  have : ∀ (M : Tab) (a : List Nat), (M.foldl (fun acc e => acc ++ [acc.getD e.1 0 + 1]) a).length = M.length + a.length := by
    intro M
    induction M with
    | nil => simp
    | cons e M ih => intro a; rw [List.foldl_cons, ih]; simp; omega
  unfold deps; rw [this]; simp

theorem dep_snoc {M : Tab} {e : Nat × List Int} {i : Nat} (h : i ≤ M.length) : dep (M ++ [e]) i = dep M i := by
  show (deps (M ++ [e])).getD i 0 = _
  rw [deps_snoc, getD_snoc_lt _ _ _ _ (by rw [deps_length]; omega)]; rfl
theorem dep_new (M : Tab) (e : Nat × List Int) : dep (M ++ [e]) (M.length + 1) = dep M e.1 + 1 := by
  show (deps (M ++ [e])).getD _ 0 = _
  rw [deps_snoc]
  have := getD_snoc_eq (deps M) (dep M e.1 + 1) 0
  rw [deps_length] at this
  exact this

theorem dep_zero (M : Tab) : dep M 0 = 0 := by
  have : ∀ (n : Nat) (M : Tab), M.length = n → dep M 0 = 0 := by
    intro n
    induction n with
    | zero => intro M h; obtain rfl : M = [] := List.eq_nil_of_length_eq_zero h; rfl
    | succ n ih =>
      intro M h
      have hne : M ≠ [] := by intro e; subst e; simp at h
      rw [← List.dropLast_concat_getLast hne, dep_snoc (Nat.zero_le _)]
      exact ih _ (by simp; omega)
  exact this _ M rfl

/-- A node's depth is its parent's, and one. -/
theorem dep_par : ∀ {M : Tab}, Good M → ∀ {i : Nat}, 0 < i → i ≤ M.length → dep M i = dep M (par M i) + 1 := by
  have : ∀ (n : Nat) (M : Tab), M.length = n → Good M → ∀ {i : Nat}, 0 < i → i ≤ M.length → dep M i = dep M (par M i) + 1 := by
    intro n
    induction n with
    | zero => intro M h g i h1 h2; omega
    | succ n ih =>
      intro M h g i h1 h2
      have hne : M ≠ [] := by intro e; subst e; simp at h
      have hM := List.dropLast_concat_getLast hne
      have hl : M.dropLast.length = n := by simp; omega
      have hlen : M.length = M.dropLast.length + 1 := by omega
      generalize M.dropLast = N at hM hl hlen
      generalize M.getLast hne = e at hM
      subst hM
      have gN : Good N := by
        refine ⟨fun j hj => ?_, fun i j hi hj he => ?_⟩
        · have := g.up j (by omega); rw [getD_snoc_lt _ _ _ _ hj] at this; exact this
        · exact g.once i j (by omega) (by omega) (by rw [getD_snoc_lt _ _ _ _ hi, getD_snoc_lt _ _ _ _ hj]; exact he)
      by_cases hi : i = N.length + 1
      · subst hi
        rw [dep_new, par_new]
        have hp : e.1 ≤ N.length := by
          have := g.up N.length (by omega)
          rw [getD_snoc_eq] at this
          exact this
        rw [dep_snoc hp]
      · have hi' : i ≤ N.length := by omega
        have hp : par N i ≤ N.length := by have := gN.up (i - 1) (by omega); unfold par; omega
        rw [dep_snoc hi', par_snoc h1 hi', dep_snoc hp]
        exact ih N hl gN h1 hi'
  exact fun {M} g {i} h1 h2 => this _ M rfl g h1 h2

theorem par_lt {M : Tab} (g : Good M) {i : Nat} (h1 : 0 < i) (h2 : i ≤ M.length) : par M i < i := by
  have := g.up (i - 1) (by omega); unfold par; omega

theorem find_some {M : Tab} {i j : Nat} {xs : List Int} (h : find M i xs = some j) : 0 < j ∧ j ≤ M.length ∧ par M j = i ∧ cmd M j = xs := by
  have h1 := List.mem_of_find?_eq_some h
  have h2 := List.find?_some h
  obtain ⟨a, b, c⟩ := mem_kids.1 h1
  exact ⟨a, b, c, by simpa using h2⟩

theorem find_none {M : Tab} {i : Nat} {xs : List Int} (h : find M i xs = none) : ∀ j, 0 < j → j ≤ M.length → par M j = i → cmd M j ≠ xs := by
  intro j h1 h2 h3 h4
  have := List.find?_eq_none.1 h j (mem_kids.2 ⟨h1, h2, h3⟩)
  simp [h4] at this

theorem pair_eq (M : Tab) (j : Nat) (_h : 0 < j) : M.getD (j - 1) (0, []) = (par M j, cmd M j) := rfl

theorem Good.push {M : Tab} (g : Good M) {i : Nat} {xs : List Int} (hi : i ≤ M.length) (h : find M i xs = none) : Good (M ++ [(i, xs)]) := by
  have hn := find_none h
  have key : ∀ a, a < M.length → M.getD a (0, []) ≠ (i, xs) := by
    intro a ha e
    have := pair_eq M (a + 1) (by omega)
    simp only [Nat.add_sub_cancel] at this
    rw [e] at this
    simp only [Prod.mk.injEq] at this
    exact hn (a + 1) (by omega) (by omega) this.1.symm this.2.symm
  refine ⟨fun j hj => ?_, fun a b ha hb he => ?_⟩
  · simp at hj
    by_cases e : j = M.length
    · subst e; rw [getD_snoc_eq]; exact hi
    · rw [getD_snoc_lt _ _ _ _ (by omega)]; exact g.up j (by omega)
  · simp at ha hb
    by_cases e1 : a = M.length
    · by_cases e2 : b = M.length
      · omega
      · subst e1; rw [getD_snoc_eq, getD_snoc_lt _ _ _ _ (by omega)] at he; exact absurd he.symm (key b (by omega))
    · by_cases e2 : b = M.length
      · subst e2; rw [getD_snoc_eq, getD_snoc_lt _ _ _ _ (by omega)] at he; exact absurd he (key a (by omega))
      · rw [getD_snoc_lt _ _ _ _ (by omega), getD_snoc_lt _ _ _ _ (by omega)] at he; exact g.once a b (by omega) (by omega) he

theorem good_nil : Good [] := ⟨by simp, by simp⟩

theorem child_good {M : Tab} (g : Good M) {i : Nat} (hi : i ≤ M.length) (xs : List Int) : Good (child M i xs).1 := by
  unfold child
  split
  · exact g
  · exact g.push hi ‹_›


theorem dep_le {M : Tab} (g : Good M) : ∀ i, i ≤ M.length → dep M i ≤ i := by
  intro i
  induction i using Nat.strongRecOn with
  | _ i ih =>
    intro h
    by_cases h0 : i = 0
    · subst h0; rw [dep_zero]; exact Nat.le_refl _
    · have hp := par_lt g (show 0 < i by omega) h
      have := ih _ hp (by omega)
      rw [dep_par g (by omega) h]
      omega

/-- The k-th ancestor. -/
def up (M : Tab) (i : Nat) : Nat → Nat
  | 0 => i
  | k + 1 => par M (up M i k)

theorem pos_of_dep {M : Tab} {i : Nat} (h : 0 < dep M i) : 0 < i := by
  rcases Nat.eq_zero_or_pos i with e | e
  · subst e; rw [dep_zero] at h; omega
  · exact e

theorem up_dep {M : Tab} (g : Good M) {i : Nat} (hi : i ≤ M.length) : ∀ k, k ≤ dep M i → up M i k ≤ M.length ∧ dep M (up M i k) = dep M i - k := by
  intro k
  induction k with
  | zero => intro _; exact ⟨hi, rfl⟩
  | succ k ih =>
    intro hk
    obtain ⟨h1, h2⟩ := ih (by omega)
    have hp : 0 < up M i k := pos_of_dep (M := M) (by omega)
    have hlt := par_lt g hp h1
    have hd := dep_par g hp h1
    exact ⟨by show par M (up M i k) ≤ _; omega, by show dep M (par M (up M i k)) = _; omega⟩

end Go.Proofs.Qxb6600170aMods
