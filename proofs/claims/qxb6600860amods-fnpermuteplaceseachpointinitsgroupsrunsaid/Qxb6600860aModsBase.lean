/-
  Slices of integers in memory; sets of uint32 (map[uint32]bool); the guards zzBytes_..
-/
import Derived.Test.Qxb6600860aModsProg
import Derived.WalkKit
import Derived.WalkSpells
import Derived.WalkLawsBesides
import Derived.Deep.QuietTactic
import Derived.BigQuiet
import Derived.Deep.LoopGhost
import Derived.Deep.OwnRows
import Derived.Maps.OwnSet
import Derived.Maps.OwnOps
namespace Go.Proofs.Qxb6600860aMods
set_option linter.unusedVariables false
set_option linter.unusedSimpArgs false
open Go.RowKit

theorem hide {p : Prop} (h : p) : Hid p := h

/-- THE SLICE OF n ELEMENTS AT p HOLDS THE NUMBERS xs. -/
def Ints (w : World) (k : IntKind) (p : Option Addr) (n : Nat) (xs : List Int) : Prop :=
  xs.length = n ∧ n ≤ 9223372036854775807 ∧ (∀ x ∈ xs, (Lit.int k x).wf = true) ∧ (0 < n → ∃ b o, p = some ⟨b, o, none⟩ ∧ ∀ i, i < n → w.cell? ⟨b, o + i, none⟩ = some (.int k (xs.getD i 0)))

theorem Ints.below {B : Nat} {w w' : World} {k : IntKind} {p : Option Addr} {n : Nat} {xs : List Int} (h : Ints w k p n xs) (hb : Below B w w') (hB : w.heap.size ≤ B) : Ints w' k p n xs := by
  refine ⟨h.1, h.2.1, h.2.2.1, fun hn => ?_⟩
  obtain ⟨b, o, h1, h2⟩ := h.2.2.2 hn
  refine ⟨b, o, h1, fun i hi => ?_⟩
  have := World.block_lt_of_cell? _ _ (h2 i hi)
  rw [hb.cell (p := ⟨b, o + i, none⟩) (by simp at this ⊢; omega)]
  exact h2 i hi

/-! ### Sets of uint32 -/
theorem law27 : Maps.Keyed Trym.prog 27 := Maps.int_keyed Trym.underlying27
theorem zero4 (w : World) : (zeroValue 4).run Trym.prog w = .ok (.bool false) w := by kernel_rfl

/-- BLOCK b IS A MAP OF AT MOST n ENTRIES, TRUE JUST AT THE KEYS OF A. -/
def SetIs (w : World) (b n : Nat) (A : List Int) : Prop :=
  ∃ D : DataW Unit, w.ownsMap Trym.prog 27 (plainElem Trym.prog 4) b n D ∧ ∀ x : Int, (Lit.int .u32 x).wf = true → D.atKey (.int .u32 x) (.lit (.bool false)) = .lit (.bool (decide (x ∈ A)))

theorem plainElem_bool_inv {v : Value} {z : DataW Unit × List MemPlace} (h : plainElem Trym.prog 4 v = some z) : ∃ x, v = .bool x ∧ z = (.lit (.bool x), []) := by
  unfold plainElem at h
  rw [Trym.underlying4] at h
  cases v with
  | bool x => simp at h; exact ⟨x, rfl, h.symm⟩
  | _ => simp at h

theorem SetIs.made (w : World) : SetIs (w.alloc (.map #[] 0)) w.heap.size 0 [] :=
  ⟨.map [], World.ownsMap_made _ _ _ _, fun x _ => by simp [DataW.atKey]⟩

theorem SetIs.look {w : World} {b n : Nat} {A : List Int} (h : SetIs w b n A) {x : Int} (hx : (Lit.int .u32 x).wf = true) :
    (Instr.lookup 26 (.map (some b)) (.int .u32 x) false).run Trym.prog w = .ok (.bool (decide (x ∈ A))) w := by
  obtain ⟨D, ho, hA⟩ := h
  obtain ⟨v, ps, hr, hv⟩ := ho.lookup law27 Trym.underlying26 (zero4 w) (plainElem_bool Trym.underlying4 false) (Maps.keyOf_int_mk Trym.underlying27 hx)
  rw [hA x hx] at hv
  obtain ⟨y, rfl, hy⟩ := plainElem_bool_inv hv
  simp only [Prod.mk.injEq, DataW.lit.injEq, Lit.bool.injEq] at hy
  rw [hr, hy.1]

theorem SetIs.store {w : World} {b n : Nat} {A : List Int} (h : SetIs w b n A) (hn : n < maxLen) {x : Int} (hx : (Lit.int .u32 x).wf = true) :
    ∃ w', (Instr.mapUpdate 26 (.map (some b)) (.int .u32 x) (.bool true)).run Trym.prog w = .ok () w' ∧ SetIs w' b (n + 1) (x :: A) ∧ w.grownBy w' (some b) := by
  obtain ⟨D, ho, hA⟩ := h
  obtain ⟨w', hr, ho', hg⟩ := ho.update law27 Trym.underlying26 hn (Maps.keyOf_int_mk Trym.underlying27 hx) (plainElem_bool Trym.underlying4 true)
  refine ⟨w', hr, ⟨_, ho', fun y hy => ?_⟩, hg⟩
  by_cases e : y = x
  · subst e
    rw [Maps.atKey_put_same ho.isMap (by trivial)]
    simp
  · rw [Maps.atKey_put_other (by simpa using e), hA y hy]
    simp [e]

theorem SetIs.keep {w w' : World} {b n : Nat} {A : List Int} (h : SetIs w b n A) {row : Option Nat} (hg : w.grownBy w' row) (hne : some b ≠ row) : SetIs w' b n A := by
  obtain ⟨D, ho, hA⟩ := h
  exact ⟨D, ho.kept hg hne, hA⟩

theorem SetIs.block {w w' : World} {b n : Nat} {A : List Int} (h : SetIs w b n A) (hb : w'.heap[b]? = w.heap[b]?) : SetIs w' b n A := by
  obtain ⟨D, ⟨es, cl, h1, h2⟩, hA⟩ := h
  exact ⟨D, ⟨es, cl, hb.trans h1, h2⟩, hA⟩

theorem SetIs.lt {w : World} {b n : Nat} {A : List Int} (h : SetIs w b n A) : b < w.heap.size := by
  obtain ⟨D, ho, hA⟩ := h
  exact ho.lt

theorem SetIs.isMap {w : World} {b n : Nat} {A : List Int} (h : SetIs w b n A) : ∃ es cl, w.heap[b]? = some (.map es cl) := by
  obtain ⟨D, ⟨es, cl, h1, h2⟩, hA⟩ := h
  exact ⟨es, cl, h1⟩

/-! ### Guards -/
set_option maxHeartbeats 400000 in
theorem bytes9 (p : Option Addr) (n c : Nat) (x : Int) (w : World) (hn : n ≤ 9223372036854775807) :
    Calls Trym.prog 9 #[.slice p n c, .int .u64 x] w fun e w' => e = .returned (.bool (decide (n ≤ 1048576))) ∧ w' = w := by
  by_cases h : 1048576 < n
  · rw [decide_eq_false (by omega)]
    go_enter Trym.func9, Trym.ntmps9
    go_wp2
    go_ret
    exact ⟨rfl, rfl⟩
  · rw [decide_eq_true (by omega)]
    go_enter Trym.func9, Trym.ntmps9
    go_wp2
    go_ret
    exact ⟨rfl, rfl⟩

set_option maxHeartbeats 400000 in
theorem bytes12 (p : Option Addr) (n c : Nat) (x : Int) (w : World) (hn : n ≤ 9223372036854775807) :
    Calls Trym.prog 12 #[.slice p n c, .int .u64 x] w fun e w' => e = .returned (.bool (decide (n ≤ 1048576))) ∧ w' = w := by
  by_cases h : 1048576 < n
  · rw [decide_eq_false (by omega)]
    go_enter Trym.func12, Trym.ntmps12
    go_wp2
    go_ret
    exact ⟨rfl, rfl⟩
  · rw [decide_eq_true (by omega)]
    go_enter Trym.func12, Trym.ntmps12
    go_wp2
    go_ret
    exact ⟨rfl, rfl⟩

end Go.Proofs.Qxb6600860aMods
