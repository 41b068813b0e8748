/-
  Two roads through one table: the plain law of where they meet; what the loop that builds the second road carries.
-/
import Derived.Test.Qxb6600170aModsHave
import Derived.LaidEqlPtr
namespace Go.Proofs.Qxb6600170aMods
set_option linter.unusedVariables false
set_option linter.unusedSimpArgs false
open Go.RowKit

theorem chain_up (a : List (List Int)) : ∀ k, k ≤ a.length → up (chain a) a.length k = a.length - k := by
  intro k
  induction k with
  | zero => intro _; rfl
  | succ k ih =>
    intro hk
    show par (chain a) (up (chain a) a.length k) = _
    rw [ih (by omega), (chain_par (a := a) (j := a.length - k) (by omega) (by omega)).1]
    omega

structure Roads (a b : List (List Int)) (cp : Nat) (M : Tab) (s : Nat) : Prop where
  good : Good M
  na : a.length ≤ M.length
  ns : s ≤ M.length
  len : M.length = a.length + b.length - cp
  da : dep M a.length = a.length
  ds : dep M s = b.length
  ua : up M a.length (a.length - cp) = cp
  us : up M s (b.length - cp) = cp
  same : s = a.length ↔ (cp = a.length ∧ cp = b.length)

theorem roads {a b : List (List Int)} {cp : Nat} (c : Common a b cp) : Roads a b cp (walkTo (chain a) 0 b).1 (walkTo (chain a) 0 b).2 := by
  obtain ⟨e1, e2, e3⟩ := two_roads c
  have hcl := (chain_last a).2
  have g := chain_good a
  have W := walked g (Nat.zero_le _) b
  have W2 := walked g (show cp ≤ (chain a).length by rw [hcl]; exact c.la) (b.drop cp)
  have hda : dep (chain a) a.length = a.length := by
    have h := (walked good_nil (Nat.le_refl 0) a).depth
    rw [(chain_last a).1, dep_zero, Nat.zero_add] at h
    exact h
  obtain ⟨t, h1, _⟩ := W.ext
  have hla := c.la
  have hlb := c.lb
  refine ⟨W.good, by rw [h1, List.length_append]; omega, W.le, e2, ?_, ?_, ?_, ?_, e3⟩
  · have gW := W.good
    rw [h1] at gW ⊢
    rw [dep_ext g gW _ (by omega), hda]
  · rw [W.depth, dep_zero, Nat.zero_add]
  · rw [h1, up_ext g (by omega) _ (by rw [hda]; omega), chain_up a _ (by omega)]
    omega
  · have := W2.back
    rw [← e1] at this
    simpa using this

/-- What the loop that builds a second road carries. -/
def Building2 (w1 : World) (B sb : Nat) (M0 : Tab) (nb0 : Nat → Nat) (xss : List (List Int)) (k : Nat) (s : Value) (wr : World) : Prop :=
  ∃ nb, Table wr B sb (walkTo M0 0 (xss.take k)).1 nb ∧ s = .pointer (some ⟨nb (walkTo M0 0 (xss.take k)).2, 0, none⟩) ∧ (∀ j, j ≤ M0.length → nb j = nb0 j) ∧ Below B w1 wr

theorem building2_step {w1 wr w' : World} {B sb : Nat} {M0 : Tab} {nb0 : Nat → Nat} {xss : List (List Int)} {k : Nat} {nb : Nat → Nat} {e : Ending} (hk : k < xss.length) (g : Good M0)
    (hb : Below B w1 wr) (h0 : ∀ j, j ≤ M0.length → nb j = nb0 j) (h : ChildPost wr B sb (walkTo M0 0 (xss.take k)).1 nb (walkTo M0 0 (xss.take k)).2 (xss.getD k []) e w') :
    ∃ b, e = .returned (.pointer (some ⟨b, 0, none⟩)) ∧ Building2 w1 B sb M0 nb0 xss (k + 1) (.pointer (some ⟨b, 0, none⟩)) w' := by
  obtain ⟨nb', h1, h2, h3, h4, h5⟩ := h
  rw [← walkTo_snoc, ← take_snoc xss [] hk] at h1 h2
  refine ⟨_, h1, nb', h2, rfl, fun j hj => ?_, hb.trans h4⟩
  obtain ⟨t, ht, _⟩ := (walked g (Nat.zero_le _) (xss.take k)).ext
  rw [h3 j (by rw [ht, List.length_append]; omega)]
  exact h0 j hj

theorem equal_yes {w : World} {u v : Value} {xs ys : List Int} (hu : Bytes w u xs) (hv : Bytes w v ys) (h : xs = ys) :
    Calls Trym.prog 14 #[u, v] w fun e w' => e = .returned (.bool true) ∧ ∃ q, w' = w.drewN q :=
  (equal_any hu hv).mono fun e w' ⟨h1, h2⟩ => ⟨by rw [h1, decide_eq_true h], h2⟩
theorem equal_no {w : World} {u v : Value} {xs ys : List Int} (hu : Bytes w u xs) (hv : Bytes w v ys) (h : xs ≠ ys) :
    Calls Trym.prog 14 #[u, v] w fun e w' => e = .returned (.bool false) ∧ ∃ q, w' = w.drewN q :=
  (equal_any hu hv).mono fun e w' ⟨h1, h2⟩ => ⟨by rw [h1, decide_eq_false h], h2⟩


/-! ### '==' and '!=' between pointers to nodes -/
theorem Trym.info50 : (Trym.prog.info? 50).map (·.size) = some 5 := by kernel_rfl

theorem equalIn_node {w : World} {B sb : Nat} {M : Tab} {nb : Nat → Nat} (h : Table w B sb M nb) {i j : Nat} (hi : i ≤ M.length) (hj : j ≤ M.length) (d : Nat) :
    (Op.equalIn (d + 1) 28 (.pointer (some ⟨nb i, 0, none⟩)) (.pointer (some ⟨nb j, 0, none⟩))).run Trym.prog w = .ok (decide (i = j)) w := by
  obtain ⟨inf, hinf, hsz⟩ := Option.map_eq_some_iff.1 Trym.info50
  have hp := Trym.underlying28
  by_cases e : i = j
  · subst e
    simp [Op.equalIn, run_underlying hp, sizeOf, typeInfo, hinf, run_sameAddr_same]
  · obtain ⟨cv, hv, av, S⟩ := h
    have hne : (⟨nb i, 0, none⟩ : Addr) ≠ ⟨nb j, 0, none⟩ := fun h => e (S.inj i j hi hj (by simpa using h))
    simp [Op.equalIn, run_underlying hp, sizeOf, typeInfo, hinf, hsz, run_sameAddr_other w hne (S.node i hi) (S.node j hj), e]

theorem eql_node {w : World} {B sb : Nat} {M : Tab} {nb : Nat → Nat} (h : Table w B sb M nb) {i j : Nat} (hi : i ≤ M.length) (hj : j ≤ M.length) :
    (binOp .eql 28 (.pointer (some ⟨nb i, 0, none⟩)) (.pointer (some ⟨nb j, 0, none⟩))).run Trym.prog w = .ok (.bool (decide (i = j))) w := by
  simp only [binOp]
  simp [Op.equal, Op.maxDepth, equalIn_node h hi hj 9999]

theorem neq_node {w : World} {B sb : Nat} {M : Tab} {nb : Nat → Nat} (h : Table w B sb M nb) {i j : Nat} (hi : i ≤ M.length) (hj : j ≤ M.length) :
    (binOp .neq 28 (.pointer (some ⟨nb i, 0, none⟩)) (.pointer (some ⟨nb j, 0, none⟩))).run Trym.prog w = .ok (.bool (!decide (i = j))) w := by
  simp only [binOp]
  simp [Op.equal, Op.maxDepth, equalIn_node h hi hj 9999]

end Go.Proofs.Qxb6600170aMods
