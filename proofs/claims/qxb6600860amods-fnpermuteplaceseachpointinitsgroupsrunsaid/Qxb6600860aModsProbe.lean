/-
  OPEN ADDRESSING WITH LINEAR PROBING, and lists without repeats: plain lemmas, no Go in sight.
-/
namespace Go.Proofs.Qxb6600860aMods
set_option linter.unusedVariables false
set_option linter.unusedSimpArgs false

/-! ### Lists without repeats -/
def addIf (A : List Int) (x : Int) : List Int := if x ∈ A then A else x :: A
def dl (l : List Int) : List Int := l.foldl addIf []

theorem dl_snoc (l : List Int) (x : Int) : dl (l ++ [x]) = addIf (dl l) x := by simp [dl, List.foldl_append]
theorem mem_addIf {A : List Int} {x y : Int} : y ∈ addIf A x ↔ y = x ∨ y ∈ A := by
  unfold addIf
  by_cases h : x ∈ A
  · rw [if_pos h]
    constructor
    · exact fun h' => .inr h'
    · rintro (rfl | h')
      · exact h
      · exact h'
  · rw [if_neg h]; simp
theorem mem_dl (l : List Int) (y : Int) : y ∈ dl l ↔ y ∈ l := by
  have : ∀ (l A : List Int), y ∈ l.foldl addIf A ↔ y ∈ A ∨ y ∈ l := by
    intro l
    induction l with
    | nil => simp
    | cons x l ih => intro A; rw [List.foldl_cons, ih, mem_addIf, List.mem_cons, Or.comm (a := y = x), or_assoc]
  unfold dl; rw [this]; simp

theorem length_addIf (A : List Int) (x : Int) : A.length ≤ (addIf A x).length ∧ (addIf A x).length ≤ A.length + 1 := by
  unfold addIf; split <;> simp
theorem dl_take (l : List Int) (k : Nat) : (dl (l.take k)).length ≤ (dl l).length := by
  have : ∀ (l A : List Int), A.length ≤ (l.foldl addIf A).length := by
    intro l
    induction l with
    | nil => simp
    | cons x l ih => intro A; rw [List.foldl_cons]; exact Nat.le_trans (length_addIf A x).1 (ih _)
  have e : dl l = (l.drop k).foldl addIf (dl (l.take k)) := by
    unfold dl; rw [← List.foldl_append, List.take_append_drop]
  rw [e]; exact this _ _
theorem dl_length (l : List Int) : (dl l).length ≤ l.length := by
  have : ∀ (l A : List Int), (l.foldl addIf A).length ≤ A.length + l.length := by
    intro l
    induction l with
    | nil => simp
    | cons x l ih => intro A; rw [List.foldl_cons, List.length_cons]; have := ih (addIf A x); have := (length_addIf A x).2; omega
  have := this l []; simpa [dl] using this

theorem take_snoc' {l : List Int} {k : Nat} (h : k < l.length) : l.take (k + 1) = l.take k ++ [l.getD k 0] := by
  rw [List.take_succ_eq_append_getElem h]; simp [List.getD, h]
theorem dl_step {l : List Int} {k : Nat} (h : k < l.length) : dl (l.take (k + 1)) = addIf (dl (l.take k)) (l.getD k 0) := by
  rw [take_snoc' h, dl_snoc]

/-! ### Counting -/
def nz (S : List Int) : Nat := (S.filter fun x => x != 0).length

theorem nz_le (S : List Int) : nz S ≤ S.length := List.length_filter_le _ _

theorem getD_set (S : List Int) (p q : Nat) (v : Int) (hp : p < S.length) : (S.set p v).getD q 0 = if q = p then v else S.getD q 0 := by
  by_cases e : q = p
  · subst e; rw [if_pos rfl]; simp [List.getD, hp]
  · rw [if_neg e]; simp [List.getD, List.getElem?_set, Ne.symm e]

theorem nz_set : ∀ (S : List Int) (p : Nat) (v : Int), p < S.length → S.getD p 0 = 0 → v ≠ 0 → nz (S.set p v) = nz S + 1
  | [], p, v, h, _, _ => by simp at h
  | x :: S, 0, v, _, h0, hv => by
    simp at h0
    subst h0
    simp [nz, List.filter_cons, hv]
  | x :: S, p + 1, v, h, h0, hv => by
    have ih := nz_set S p v (by simpa using h) (by simpa using h0) hv
    unfold nz at ih ⊢
    simp only [List.set_cons_succ, List.filter_cons]
    split <;> simp [ih]

theorem zero_of_nz : ∀ (S : List Int), nz S < S.length → ∃ p, p < S.length ∧ S.getD p 0 = 0
  | [], h => by simp [nz] at h
  | x :: S, h => by
    by_cases hx : x = 0
    · exact ⟨0, by simp, by simp [hx]⟩
    · have : nz S < S.length := by
        unfold nz at h ⊢
        rw [List.filter_cons_of_pos (by simpa using hx)] at h
        simpa using h
      obtain ⟨p, h1, h2⟩ := zero_of_nz S this
      exact ⟨p + 1, by simpa using h1, by simpa using h2⟩

theorem nz_zeros (N : Nat) : nz (List.replicate N 0) = 0 := by simp [nz]

/-! ### The table -/
structure NS (N : Nat) (hsh : Int → Nat) (S A : List Int) : Prop where
  len : S.length = N
  nonneg : ∀ a ∈ A, 0 ≤ a
  mem : ∀ p, p < N → S.getD p 0 ≠ 0 → S.getD p 0 - 1 ∈ A
  road : ∀ a ∈ A, ∃ t, t < N ∧ S.getD ((hsh a + t) % N) 0 = a + 1 ∧ ∀ t', t' < t → S.getD ((hsh a + t') % N) 0 ≠ 0
  once : ∀ p q, p < N → q < N → S.getD p 0 = S.getD q 0 → S.getD p 0 ≠ 0 → p = q
  cnt : nz S = A.length

theorem NS.start (N : Nat) (hsh : Int → Nat) : NS N hsh (List.replicate N 0) [] := by
  have h0 : ∀ p, (List.replicate N (0 : Int)).getD p 0 = 0 := fun p => by simp [List.getD, List.getElem?_replicate]; split <;> rfl
  exact ⟨by simp, by simp, fun p _ h => absurd (h0 p) h, by simp, fun p q _ _ _ h => absurd (h0 p) h, by rw [nz_zeros]; rfl⟩

theorem mod_inj {h N t t' : Nat} (ht : t < N) (ht' : t' < N) (e : (h + t) % N = (h + t') % N) : t = t' := by
  have h1 := Nat.div_add_mod (h + t) N
  have h2 := Nat.div_add_mod (h + t') N
  rw [e] at h1
  rcases Nat.lt_trichotomy ((h + t) / N) ((h + t') / N) with hq | hq | hq
  · have : N * ((h + t) / N) + N ≤ N * ((h + t') / N) := by rw [← Nat.mul_succ]; exact Nat.mul_le_mul_left _ hq
    omega
  · rw [hq] at h1; omega
  · have : N * ((h + t') / N) + N ≤ N * ((h + t) / N) := by rw [← Nat.mul_succ]; exact Nat.mul_le_mul_left _ hq
    omega

theorem reach {h N p : Nat} (hh : h < N) (hp : p < N) : ∃ t, t < N ∧ (h + t) % N = p := by
  by_cases hle : h ≤ p
  · exact ⟨p - h, by omega, by rw [show h + (p - h) = p by omega]; exact Nat.mod_eq_of_lt hp⟩
  · refine ⟨p + N - h, by omega, ?_⟩
    rw [show h + (p + N - h) = p + N by omega, Nat.add_mod_right]
    exact Nat.mod_eq_of_lt hp

theorem least_lt {P : Nat → Prop} (n : Nat) (h : P n) : ∃ m, m ≤ n ∧ P m ∧ ∀ k, k < m → ¬ P k := by
  induction n using Nat.strongRecOn with
  | _ n ih =>
    by_cases hm : ∃ m, m < n ∧ P m
    · obtain ⟨m, h1, h2⟩ := hm
      obtain ⟨m', h3, h4, h5⟩ := ih m h1 h2
      exact ⟨m', by omega, h4, h5⟩
    · exact ⟨n, Nat.le_refl _, h, fun k hk hp => hm ⟨k, hk, hp⟩⟩

/-- WHERE THE PROBE STOPS: the first place that is free or holds the id; which of the two it is. -/
theorem NS.stop {N : Nat} {hsh : Int → Nat} {S A : List Int} (h : NS N hsh S A) {id : Int} (hid : 0 ≤ id) (hh : hsh id < N) (hA : A.length < N) :
    ∃ t, t < N ∧ (∀ t', t' < t → S.getD ((hsh id + t') % N) 0 ≠ 0 ∧ S.getD ((hsh id + t') % N) 0 ≠ id + 1) ∧
      ((id ∈ A ∧ S.getD ((hsh id + t) % N) 0 = id + 1) ∨ (id ∉ A ∧ S.getD ((hsh id + t) % N) 0 = 0)) := by
  have hN : 0 < N := by omega
  by_cases hm : id ∈ A
  · obtain ⟨t, h1, h2, h3⟩ := h.road id hm
    refine ⟨t, h1, fun t' ht' => ⟨h3 t' ht', fun e => ?_⟩, .inl ⟨hm, h2⟩⟩
    have := h.once _ _ (Nat.mod_lt (hsh id + t') hN) (Nat.mod_lt (hsh id + t) hN) (by rw [e, h2]) (h3 t' ht')
    have := mod_inj (by omega) h1 this
    omega
  · obtain ⟨p, hp, hz⟩ := zero_of_nz S (by rw [h.cnt, h.len]; exact hA)
    rw [h.len] at hp
    obtain ⟨t, h1, h2⟩ := reach hh hp
    obtain ⟨m, h3, h4, h5⟩ := least_lt (P := fun t => S.getD ((hsh id + t) % N) 0 = 0) t (by rw [h2]; exact hz)
    refine ⟨m, by omega, fun t' ht' => ⟨h5 t' ht', fun e => ?_⟩, .inr ⟨hm, h4⟩⟩
    have := h.mem _ (Nat.mod_lt (hsh id + t') hN) (h5 t' ht')
    rw [e, show id + 1 - 1 = id by omega] at this
    exact hm this

/-- A new id is stored. -/
theorem NS.push {N : Nat} {hsh : Int → Nat} {S A : List Int} (h : NS N hsh S A) {id : Int} (hid : 0 ≤ id) (hN : 0 < N) (hm : id ∉ A) {t : Nat} (ht : t < N) (hz : S.getD ((hsh id + t) % N) 0 = 0) (hb : ∀ t', t' < t → S.getD ((hsh id + t') % N) 0 ≠ 0) :
    NS N hsh (S.set ((hsh id + t) % N) (id + 1)) (id :: A) := by
  have hp : (hsh id + t) % N < S.length := by rw [h.len]; exact Nat.mod_lt _ hN
  generalize hpp : (hsh id + t) % N = p at hp hz
  have hv : id + 1 ≠ 0 := by omega
  have hg := fun q => getD_set S p q (id + 1) hp
  refine ⟨by simp [h.len], fun a ha => ?_, fun q hq hne => ?_, fun a ha => ?_, fun q r hq hr he hne => ?_, ?_⟩
  · rcases List.mem_cons.1 ha with rfl | ha
    · exact hid
    · exact h.nonneg a ha
  · rw [hg] at hne ⊢
    by_cases e : q = p
    · rw [if_pos e]; exact List.mem_cons.2 (.inl (by omega))
    · rw [if_neg e] at hne ⊢; exact List.mem_cons_of_mem _ (h.mem q hq hne)
  · rcases List.mem_cons.1 ha with rfl | ha
    · refine ⟨t, ht, by rw [hg, if_pos hpp], fun t' ht' => ?_⟩
      rw [hg]
      split
      · exact hv
      · exact hb t' ht'
    · obtain ⟨t0, h1, h2, h3⟩ := h.road a ha
      refine ⟨t0, h1, ?_, fun t' ht' => ?_⟩
      · rw [hg, if_neg]
        · exact h2
        · intro e
          rw [e, hz] at h2
          have := h.nonneg a ha
          omega
      · rw [hg]
        split
        · exact hv
        · exact h3 t' ht'
  · rw [hg, hg] at he
    rw [hg] at hne
    by_cases e1 : q = p
    · by_cases e2 : r = p
      · omega
      · rw [if_pos e1, if_neg e2] at he
        exfalso
        have := h.mem r hr (by rw [← he]; exact hv)
        rw [← he, show id + 1 - 1 = id by omega] at this
        exact hm this
    · by_cases e2 : r = p
      · rw [if_neg e1, if_pos e2] at he
        exfalso
        have := h.mem q hq (by rw [he]; exact hv)
        rw [he, show id + 1 - 1 = id by omega] at this
        exact hm this
      · rw [if_neg e1, if_neg e2] at he
        rw [if_neg e1] at hne
        exact h.once q r hq hr he hne
  · rw [nz_set S p _ hp hz hv, h.cnt]; simp

end Go.Proofs.Qxb6600860aMods
