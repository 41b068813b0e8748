/-
  Plain lemmas on lists: no Go in sight.
-/
namespace Go.Proofs.Qxb6600170aMods
set_option linter.unusedVariables false
set_option linter.unusedSimpArgs false

theorem dec_ne {xs ys : List Int} {k : Nat} (h : (xs[k]?.getD 0 != ys[k]?.getD 0) = true) : decide (xs = ys) = false := by
  simp at h ⊢
  intro e
  subst e
  exact h rfl

theorem take_step {xs ys : List Int} {n k : Nat} (hx : xs.length = n) (hy : ys.length = n) (hk : k < n) (ht : xs.take k = ys.take k) (h : (xs[k]?.getD 0 != ys[k]?.getD 0) = false) :
    xs.take (k + 1) = ys.take (k + 1) := by
  have h1 : k < xs.length := by omega
  have h2 : k < ys.length := by omega
  rw [List.take_succ_eq_append_getElem h1, List.take_succ_eq_append_getElem h2, ht]
  simp [h1, h2] at h
  rw [h]

theorem dec_eq {xs ys : List Int} {n k : Nat} (hx : xs.length = n) (hy : ys.length = n) (hk : n ≤ k) (ht : xs.take k = ys.take k) : decide (xs = ys) = true := by
  rw [List.take_of_length_le (by omega), List.take_of_length_le (by omega)] at ht
  simp [ht]

end Go.Proofs.Qxb6600170aMods
