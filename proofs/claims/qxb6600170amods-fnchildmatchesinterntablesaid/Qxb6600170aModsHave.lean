/-
  What the laws' walks carry: lists of byte slices in memory of the call's own; the contracts in the laws' words.
-/
import Derived.Test.Qxb6600170aModsArgs
import Derived.Test.Qxb6600170aModsPaths
namespace Go.Proofs.Qxb6600170aMods
set_option linter.unusedVariables false
set_option linter.unusedSimpArgs false
open Go.RowKit

/-- THE SLICE OF n ELEMENTS AT p HOLDS BYTE SLICES: element i the bytes xss[i]. -/
def Have (w : World) (p : Option Addr) (n : Nat) (xss : List (List Int)) : Prop :=
  xss.length = n ∧ n ≤ 1048576 ∧ ∀ i, i < n → ∃ g pa ca, p = some ⟨g, 0, none⟩ ∧ w.cell? ⟨g, i, none⟩ = some (.slice pa (xss.getD i []).length ca) ∧ Bytes w (.slice pa (xss.getD i []).length ca) (xss.getD i [])

theorem Have.below {B : Nat} {w w' : World} {p : Option Addr} {n : Nat} {xss : List (List Int)} (h : Have w p n xss) (hb : Below B w w') (hB : w.heap.size ≤ B) : Have w' p n xss := by
  refine ⟨h.1, h.2.1, fun i hi => ?_⟩
  obtain ⟨g, pa, ca, h1, h2, h3⟩ := h.2.2 i hi
  have := World.block_lt_of_cell? _ _ h2
  exact ⟨g, pa, ca, h1, by rw [hb.cell (p := ⟨g, i, none⟩) (by simp at this ⊢; omega)]; exact h2, h3.below hb hB⟩

theorem Have.drewN {w : World} {p : Option Addr} {n : Nat} {xss : List (List Int)} (h : Have w p n xss) (q : Nat) : Have (w.drewN q) p n xss :=
  h.below (B := w.heap.size) ⟨rfl, rfl, rfl, Nat.le_refl _, fun _ _ => rfl⟩ (Nat.le_refl _)

theorem Cloned.have_ {w : World} {B : Nat} {v : Value} {V : Nat → Value} {xss : List (List Int)} (h : Cloned w B v V xss) (hl : xss.length ≤ 1048576) : ∃ p, v = .slice p xss.length xss.length ∧ Have w p xss.length xss := by
  rcases h.outer with ⟨rfl, rfl⟩ | ⟨g, rfl, hg, hr⟩
  · exact ⟨none, rfl, rfl, by simp, by simp⟩
  · refine ⟨_, rfl, rfl, hl, fun i hi => ?_⟩
    have hb := (h.inner i hi).bytes
    have hf := hb.form
    have hc := hr.cell hi
    rw [hf] at hb hc
    exact ⟨g, _, _, rfl, hc, hb⟩

/-- cloneList, in the laws' words. -/
theorem clone_have {w : World} {v : Value} {V : Nat → Value} {xss : List (List Int)} (h : Cmds w v V xss) :
    Calls Trym.prog 10 #[v] w fun e w' => ∃ p', e = .returned (.slice p' xss.length xss.length) ∧ Have w' p' xss.length xss ∧ Below w.heap.size w w' := by
  have hl : xss.length ≤ 1048576 := by obtain ⟨_, _, _, hl, _⟩ := h; exact hl
  refine (cloneList_any h).mono fun e w' ⟨v', V', h1, h2, h3⟩ => ?_
  obtain ⟨p', hv, hh⟩ := h2.have_ hl
  rw [hv] at h1
  exact ⟨p', h1, hh, h3⟩

/-- The last m commands of node i. -/
def lastList (M : Tab) (i m : Nat) : List (List Int) := (List.range m).map (lastAt M i m)
theorem lastList_length (M : Tab) (i m : Nat) : (lastList M i m).length = m := by simp [lastList]
theorem lastList_get {M : Tab} {i m k : Nat} (h : k < m) : (lastList M i m).getD k [] = lastAt M i m k := by simp [lastList, List.getD, h]

theorem LastPost.have_ {w w' : World} {M : Tab} {i m : Nat} {e : Ending} (h : LastPost w M i m e w') (hm : m ≤ 1048576) : Have w' (some ⟨w.heap.size, 0, none⟩) m (lastList M i m) := by
  obtain ⟨_, _, V, hr, hb⟩ := h
  refine ⟨lastList_length _ _ _, hm, fun k hk => ?_⟩
  have hbk := hb k hk
  have hf := hbk.form
  have hc := hr.cell hk
  rw [hf] at hbk hc
  rw [lastList_get hk]
  exact ⟨_, _, _, rfl, hc, hbk⟩

/-- last, in the laws' words. -/
theorem zzlast_have {w : World} {B sb : Nat} {M : Tab} {nb : Nat → Nat} (h : Table w B sb M nb) {i : Nat} (hi : i ≤ M.length) (hM : M.length ≤ 1000000) (n : Nat) (hn : n ≤ 9223372036854775807) (b m : Nat) (hb : nb i = b) (hm : m = min n (dep M i)) :
    Calls Trym.prog 17 #[.pointer (some ⟨b, 0, none⟩), .int .i64 n] w fun e w' => e = .returned (.slice (some ⟨w.heap.size, 0, none⟩) m m) ∧ Have w' (some ⟨w.heap.size, 0, none⟩) m (lastList M i m) ∧ Below w.heap.size w w' := by
  subst hb; subst hm
  have hdl := dep_le h.good i hi
  exact (zzlast_any h hi hM n hn).mono fun e w' hp => ⟨hp.1, hp.have_ (by omega), hp.2.1⟩

theorem minint_nat (a b m : Nat) (w : World) (h : m = min a b) : Calls Trym.prog 23 #[.int .i64 a, .int .i64 b] w fun e w' => e = .returned (.int .i64 m) ∧ w' = w :=
  (minint_any a b w).mono fun e w' ⟨h1, h2⟩ => ⟨by rw [h1, h, show min (a : Int) (b : Int) = ((min a b : Nat) : Int) by omega], h2⟩

/-- THE LAW HOLDS: true is handed back; nothing that was there has turned. -/
def Truth (w : World) (e : Ending) (w' : World) : Prop := e = .returned (.bool true) ∧ Below w.heap.size w w'
theorem Truth.mk {w w' : World} (h : Below w.heap.size w w') : Truth w (.returned (.bool true)) w' := ⟨rfl, h⟩

/-- What the loop that builds a sequence carries: the table after the first k commands of xss, begun in table M0 at node 0. -/
def Building (w1 : World) (B sb : Nat) (M0 : Tab) (xss : List (List Int)) (root : Nat) (k : Nat) (s : Value) (wr : World) : Prop :=
  ∃ nb, Table wr B sb (walkTo M0 0 (xss.take k)).1 nb ∧ s = .pointer (some ⟨nb (walkTo M0 0 (xss.take k)).2, 0, none⟩) ∧ nb 0 = root ∧ Below B w1 wr

theorem take_snoc {α : Type} (l : List α) (d : α) {k : Nat} (h : k < l.length) : l.take (k + 1) = l.take k ++ [l.getD k d] := by
  rw [List.take_succ_eq_append_getElem h]; simp [List.getD, h]

/-- One round of it. -/
theorem building_step {w1 wr w' : World} {B sb : Nat} {M0 : Tab} {xss : List (List Int)} {root k : Nat} {nb : Nat → Nat} {e : Ending} (hk : k < xss.length)
    (hb : Below B w1 wr) (h0 : nb 0 = root) (h : ChildPost wr B sb (walkTo M0 0 (xss.take k)).1 nb (walkTo M0 0 (xss.take k)).2 (xss.getD k []) e w') :
    ∃ b, e = .returned (.pointer (some ⟨b, 0, none⟩)) ∧ Building w1 B sb M0 xss root (k + 1) (.pointer (some ⟨b, 0, none⟩)) w' := by
  obtain ⟨nb', h1, h2, h3, h4, h5⟩ := h
  rw [← walkTo_snoc, ← take_snoc xss [] hk] at h1 h2
  exact ⟨_, h1, nb', h2, rfl, by rw [h3 0 (Nat.zero_le _)]; exact h0, hb.trans h4⟩

end Go.Proofs.Qxb6600170aMods
