/-
  What a row's opening of an argument '[][]byte' hands to the walks.
-/
import Derived.Test.Qxb6600170aModsLast
namespace Go.Proofs.Qxb6600170aMods
set_option linter.unusedVariables false
set_option linter.unusedSimpArgs false
open Go.RowKit

/-- WHAT THE WALK IS TOLD OF A LIST OF BYTE SLICES THAT CAME IN. -/
def ArgIs (w : World) (p : Option Addr) (n c : Nat) (A : Nat → Option Addr) (L C : Nat → Nat) (Z : Nat → List Int) : Prop :=
  (p = none ∧ n = 0 ∧ c = 0) ∨ ∃ a : Addr, p = some a ∧ n ≤ c ∧ c ≤ maxLen ∧ ∀ r, r < c → w.cell? (a.add r) = some (.slice (A r) (L r) (C r)) ∧ L r ≤ C r ∧ C r ≤ maxLen ∧ (Z r).length = C r ∧ (∀ n ∈ Z r, (Lit.int .u8 n).wf = true) ∧
    (A r = none → C r = 0) ∧ ∀ a', A r = some a' → ∀ j, j < C r → w.cell? (a'.add j) = some (.int .u8 ((Z r).getD j 0))

def argData (n : Nat) (L : Nat → Nat) (Z : Nat → List Int) : List (List Int) := (List.range n).map fun i => (Z i).take (L i)
theorem argData_length (n : Nat) (L : Nat → Nat) (Z : Nat → List Int) : (argData n L Z).length = n := by simp [argData]
theorem argData_get {n : Nat} {L : Nat → Nat} {Z : Nat → List Int} {i : Nat} (h : i < n) : (argData n L Z).getD i [] = (Z i).take (L i) := by simp [argData, List.getD, h]

theorem byte_wf {x : Int} (h : (Lit.int .u8 x).wf = true) : 0 ≤ x ∧ x < 256 := by
  have h1 : IntKind.u8.min = 0 := rfl
  have h2 : IntKind.u8.max = 255 := rfl
  simp only [Lit.wf, Bool.and_eq_true, decide_eq_true_eq] at h
  omega

theorem addr_plain {w : World} {a : Addr} {v : Value} (h : w.cell? (a.add 0) = some v) : a = ⟨a.block, a.off, none⟩ := by
  obtain ⟨b, o, s⟩ := a
  have : s = none := by simpa [Addr.add] using World.cell?_spot h
  subst this; rfl
theorem add_at (b o j : Nat) : (⟨b, o, none⟩ : Addr).add j = ⟨b, o + j, none⟩ := by unfold Addr.add; split <;> simp_all

section
variable {w : World} {p : Option Addr} {n c : Nat} {A : Nat → Option Addr} {L C : Nat → Nat} {Z : Nat → List Int}

theorem ArgIs.n_le (h : ArgIs w p n c A L C Z) : n ≤ 9223372036854775807 := by
  rcases h with ⟨_, rfl, _⟩ | ⟨a, _, h1, h2, _⟩
  · omega
  · unfold maxLen at h2; omega

theorem ArgIs.raw (h : ArgIs w p n c A L C Z) : Raw w p n A L C := by
  intro hn
  rcases h with ⟨_, rfl, _⟩ | ⟨a, rfl, h1, h2, h3⟩
  · omega
  · have ha := addr_plain (h3 0 (by omega)).1
    refine ⟨a.block, a.off, congrArg some ha, fun i hi => ?_⟩
    obtain ⟨q1, q2, q3, _⟩ := h3 i (by omega)
    rw [ha, add_at] at q1
    unfold maxLen at q3
    exact ⟨q1, by omega⟩

theorem ArgIs.cmds (h : ArgIs w p n c A L C Z) (hn : n ≤ 1048576) (hL : ∀ i, i < n → L i ≤ 1048576) : Cmds w (.slice p n c) (fun i => .slice (A i) (L i) (C i)) (argData n L Z) := by
  rcases h with ⟨rfl, rfl, rfl⟩ | ⟨a, rfl, h1, h2, h3⟩
  · exact ⟨none, 0, rfl, by simp [argData], fun _ => rfl, by simp [argData], by simp [argData]⟩
  · refine ⟨some a, c, by rw [argData_length], by rw [argData_length]; exact hn, (fun e => by cases e), fun hne => ?_, fun i hi => ?_⟩
    · have hpos : 0 < n := by
        rcases Nat.eq_zero_or_pos n with e | e
        · subst e; simp [argData] at hne
        · exact e
      have ha := addr_plain (h3 0 (by omega)).1
      refine ⟨a.block, a.off, congrArg some ha, fun i hi => ?_⟩
      rw [argData_length] at hi
      have q := (h3 i (by omega)).1
      rw [ha, add_at] at q
      exact q
    · rw [argData_length] at hi
      obtain ⟨q1, q2, q3, q4, q5, q6, q7⟩ := h3 i (by omega)
      rw [argData_get hi]
      have hl : ((Z i).take (L i)).length = L i := by rw [List.length_take]; omega
      refine ⟨A i, C i, by rw [hl], by rw [hl]; exact hL i hi, fun x hx => byte_wf (q5 x (List.mem_of_mem_take hx)), fun hne => ?_⟩
      have hpos : 0 < L i := by
        rcases Nat.eq_zero_or_pos (L i) with e | e
        · rw [e] at hne; simp at hne
        · exact e
      cases hA : A i with
      | none => have := q6 hA; omega
      | some a' =>
        have q := q7 a' hA
        have ha := addr_plain (q 0 (by omega))
        refine ⟨a'.block, a'.off, congrArg some ha, fun j hj => ?_⟩
        rw [hl] at hj
        have qj := q j (by omega)
        rw [ha, add_at] at qj
        rw [qj]
        have hjz : j < (Z i).length := by omega
        simp [List.getD, List.getElem?_take, hj]
end

end Go.Proofs.Qxb6600170aMods
