/-
  SLICES OF INTEGERS BY THE INDEX; THE CLONES, THE GUARDS, zzNextAtRunEnds.
-/
import Derived.Test.Qxb6600860aModsFirst
import Derived.Test.Qxb6600860aModsFlag
namespace Go.Proofs.Qxb6600860aMods
set_option linter.unusedVariables false
set_option linter.unusedSimpArgs false
open Go.RowKit

theorem Trym.info35 : (Trym.prog.info? 35).map (fun i => (i.zero, i.size, i.bytes)) = some (some (.int .u64 0), 1, 8) := by kernel_rfl

/-- THE SLICE OF n ELEMENTS AT p HOLDS f 0 .. f (n - 1). -/
def IntsF (w : World) (k : IntKind) (p : Option Addr) (n : Nat) (f : Nat → Int) : Prop :=
  n ≤ 9223372036854775807 ∧ (∀ i, (Lit.int k (f i)).wf = true) ∧ (0 < n → ∃ b o, p = some ⟨b, o, none⟩ ∧ ∀ i, i < n → w.cell? ⟨b, o + i, none⟩ = some (.int k (f i)))

theorem Ints.fn {w : World} {k : IntKind} {p : Option Addr} {n : Nat} {xs : List Int} (h : Ints w k p n xs) (hk : (Lit.int k 0).wf = true) : IntsF w k p n (fun i => xs.getD i 0) := by
  refine ⟨h.2.1, fun i => ?_, h.2.2.2⟩
  by_cases hi : i < xs.length
  · exact h.2.2.1 _ (mem_getD hi)
  · show (Lit.int k (xs.getD i 0)).wf = true
    rw [show xs.getD i 0 = 0 by simp [List.getD, List.getElem?_eq_none (Nat.le_of_not_lt hi)]]
    exact hk

theorem IntsF.below {B : Nat} {w w' : World} {k : IntKind} {p : Option Addr} {n : Nat} {f : Nat → Int} (h : IntsF w k p n f) (hb : Below B w w') (hB : w.heap.size ≤ B) : IntsF w' k p n f := by
  refine ⟨h.1, h.2.1, fun hn => ?_⟩
  obtain ⟨b, o, h1, h2⟩ := h.2.2 hn
  refine ⟨b, o, h1, fun i hi => ?_⟩
  have := World.block_lt_of_cell? _ _ (h2 i hi)
  rw [hb.cell (p := ⟨b, o + i, none⟩) (by simp at this ⊢; omega)]
  exact h2 i hi

/-- A SLICE OF OUR OWN: nil; or block b, whole. -/
def Row (w : World) (b : Nat) (ty : TypeId) (k : IntKind) (p : Option Addr) (n : Nat) (f : Nat → Int) : Prop :=
  (p = none ∧ n = 0) ∨ (p = some ⟨b, 0, none⟩ ∧ w.rowIs b ty n (fun i => .int k (f i)))

theorem Row.keep {w w' : World} {b : Nat} {ty : TypeId} {k : IntKind} {p : Option Addr} {n : Nat} {f : Nat → Int} (h : Row w b ty k p n f) (hb : p = some ⟨b, 0, none⟩ → b < w.heap.size → w'.heap[b]? = w.heap[b]?) : Row w' b ty k p n f := by
  rcases h with h | ⟨h1, h2⟩
  · exact .inl h
  · exact .inr ⟨h1, h2.of_block (hb h1 h2.lt)⟩

theorem Row.ints {w : World} {b : Nat} {ty : TypeId} {k : IntKind} {p : Option Addr} {n : Nat} {f : Nat → Int} (h : Row w b ty k p n f) (hn : n ≤ 9223372036854775807) (hw : ∀ i, (Lit.int k (f i)).wf = true) : IntsF w k p n f := by
  rcases h with ⟨h1, h2⟩ | ⟨h1, h2⟩
  · exact ⟨hn, hw, fun h => by omega⟩
  · exact ⟨hn, hw, fun _ => ⟨b, 0, h1, fun i hi => by rw [Nat.zero_add]; exact h2.cell hi⟩⟩

/-- WHAT A CLONE LEAVES. -/
def ClonePost (ty : TypeId) (k : IntKind) (n : Nat) (f : Nat → Int) (w : World) (e : Ending) (w' : World) : Prop :=
  ∃ p', e = .returned (.slice p' n n) ∧ Below w.heap.size w w' ∧ Row w' w.heap.size ty k p' n f

def CloneRelF (w : World) (e : TypeId) (q : IntKind) (n : Nat) (xs : Nat → Int) (k : Nat) (wr : World) : Prop :=
  Below w.heap.size w wr ∧ ∃ f, wr.rowIs w.heap.size e n f ∧ ∀ i, i < k → f i = .int q (xs i)

theorem cloneRelF_step {w wr : World} {e : TypeId} {q : IntKind} {n k : Nat} {xs : Nat → Int} {z : Int} (h : CloneRelF w e q n xs k wr) (hz : xs k = z) : CloneRelF w e q n xs (k + 1) (wr.setCell ⟨w.heap.size, k, none⟩ (.int q z)) := by
  obtain ⟨b, f, r, hf⟩ := h
  refine ⟨b.setCell (Nat.le_refl _) _, _, r.set k _, fun i hi => ?_⟩
  by_cases e : i = k
  · subst e; rw [if_pos rfl, hz]
  · rw [if_neg e]; exact hf i (by omega)

set_option maxHeartbeats 1000000 in
theorem clone32_any (p : Option Addr) (n c : Nat) (f : Nat → Int) (w : World) (hn1 : n ≤ 1048576) (h : IntsF w .u32 p n f) :
    Calls Trym.prog 13 #[.slice p n c] w fun e w' => ClonePost 27 .u32 n f w e w' := by
  have q22 : ∀ (w : World) (a : Option Addr) (n c n' c' : Nat), (binOp .eql 22 (.slice a n c) (.slice none n' c')).run Trym.prog w = .ok (.bool a.isNone) w := fun w a n c n' c' => Lib.run_eql_slice_nil w _ _ a n c n' c' Trym.underlying22
  have hmk := fun w => run_make_row' (P := Trym.prog) 22 27 (.int .u32 0) 4 Trym.underlying22 Trym.info27 rfl .i64 .i64 n (by omega) (by omega) w
  have HC := hide h.2.2
  clear h
  cases p with
  | none =>
    obtain rfl : n = 0 := by
      by_cases h0 : n = 0
      · exact h0
      · obtain ⟨b, o, h1, _⟩ := HC.out (by omega)
        cases h1
    clear hmk
    go_enter Trym.func13, Trym.ntmps13
    go_wp2
    go_ret
    exact ⟨none, rfl, Below.refl _ _, .inl ⟨rfl, rfl⟩⟩
  | some a =>
    go_enter Trym.func13, Trym.ntmps13
    go_wp2
    go_loopg [4] n (fun gk i wr => ∃ k : Nat, k ≤ n ∧ gk = n - k ∧ i = .int .i64 k ∧ CloneRelF w 27 .u32 n f k wr)
    case atStart =>
      exact ⟨0, Nat.zero_le _, rfl, rfl, (Below.refl _ _).alloc (Nat.le_refl _) _, _, World.rowIs_made w _ n 27, fun i hi => absurd hi (Nat.not_lt_zero i)⟩
    case round =>
      obtain ⟨k, hk, hgk, rfl, hrel⟩ := hrel
      have HG := hide hgk
      have HR := hide hrel
      clear hgk
      by_cases hlt : k < n
      · obtain ⟨z, hzz⟩ : ∃ z, f k = z := ⟨_, rfl⟩
        obtain ⟨b, o, hab, hcell⟩ := HC.out (by omega)
        obtain rfl : a = ⟨b, o, none⟩ := by injection hab
        have hblt : b < w.heap.size := World.block_lt_of_cell? _ _ (hcell k hlt)
        have hz := hcell k hlt
        rw [hzz] at hz
        obtain ⟨hbel, f', hrow, _⟩ := hrel
        have hck : wr.cell? ⟨b, o + k, none⟩ = some (.int .u32 z) := (hbel.cell (p := ⟨b, o + k, none⟩) hblt).trans hz
        have g1 : wr.cell? ⟨w.heap.size, k, none⟩ = some (f' k) := hrow.cell hlt
        have g2 : wr.frozen? ⟨w.heap.size, k, none⟩ = false := hrow.frozen k
        have HS := hide (cloneRelF_step HR.out hzz)
        clear hbel hrow hz hzz hab hcell
        go_wp2
        go_roundg (n - (k + 1))
        case measure => rw [HG.out]; omega
        case rel => exact ⟨k + 1, by omega, rfl, by go_num, HS.out⟩
      · clear hrel
        go_wp2
        go_ret
        obtain rfl : k = n := by omega
        obtain ⟨hb, f', hr, hf⟩ := HR.out
        exact ⟨_, rfl, hb, .inr ⟨rfl, hr.congr hf⟩⟩

set_option maxHeartbeats 1000000 in
theorem clone64_any (p : Option Addr) (n c : Nat) (f : Nat → Int) (w : World) (hn1 : n ≤ 1048576) (h : IntsF w .u64 p n f) :
    Calls Trym.prog 23 #[.slice p n c] w fun e w' => ClonePost 35 .u64 n f w e w' := by
  have q30 : ∀ (w : World) (a : Option Addr) (n c n' c' : Nat), (binOp .eql 30 (.slice a n c) (.slice none n' c')).run Trym.prog w = .ok (.bool a.isNone) w := fun w a n c n' c' => Lib.run_eql_slice_nil w _ _ a n c n' c' Trym.underlying30
  have hmk := fun w => run_make_row' (P := Trym.prog) 30 35 (.int .u64 0) 8 Trym.underlying30 Trym.info35 rfl .i64 .i64 n (by omega) (by omega) w
  have HC := hide h.2.2
  clear h
  cases p with
  | none =>
    obtain rfl : n = 0 := by
      by_cases h0 : n = 0
      · exact h0
      · obtain ⟨b, o, h1, _⟩ := HC.out (by omega)
        cases h1
    clear hmk
    go_enter Trym.func23, Trym.ntmps23
    go_wp2
    go_ret
    exact ⟨none, rfl, Below.refl _ _, .inl ⟨rfl, rfl⟩⟩
  | some a =>
    go_enter Trym.func23, Trym.ntmps23
    go_wp2
    go_loopg [4] n (fun gk i wr => ∃ k : Nat, k ≤ n ∧ gk = n - k ∧ i = .int .i64 k ∧ CloneRelF w 35 .u64 n f k wr)
    case atStart =>
      exact ⟨0, Nat.zero_le _, rfl, rfl, (Below.refl _ _).alloc (Nat.le_refl _) _, _, World.rowIs_made w _ n 35, fun i hi => absurd hi (Nat.not_lt_zero i)⟩
    case round =>
      obtain ⟨k, hk, hgk, rfl, hrel⟩ := hrel
      have HG := hide hgk
      have HR := hide hrel
      clear hgk
      by_cases hlt : k < n
      · obtain ⟨z, hzz⟩ : ∃ z, f k = z := ⟨_, rfl⟩
        obtain ⟨b, o, hab, hcell⟩ := HC.out (by omega)
        obtain rfl : a = ⟨b, o, none⟩ := by injection hab
        have hblt : b < w.heap.size := World.block_lt_of_cell? _ _ (hcell k hlt)
        have hz := hcell k hlt
        rw [hzz] at hz
        obtain ⟨hbel, f', hrow, _⟩ := hrel
        have hck : wr.cell? ⟨b, o + k, none⟩ = some (.int .u64 z) := (hbel.cell (p := ⟨b, o + k, none⟩) hblt).trans hz
        have g1 : wr.cell? ⟨w.heap.size, k, none⟩ = some (f' k) := hrow.cell hlt
        have g2 : wr.frozen? ⟨w.heap.size, k, none⟩ = false := hrow.frozen k
        have HS := hide (cloneRelF_step HR.out hzz)
        clear hbel hrow hz hzz hab hcell
        go_wp2
        go_roundg (n - (k + 1))
        case measure => rw [HG.out]; omega
        case rel => exact ⟨k + 1, by omega, rfl, by go_num, HS.out⟩
      · clear hrel
        go_wp2
        go_ret
        obtain rfl : k = n := by omega
        obtain ⟨hb, f', hr, hf⟩ := HR.out
        exact ⟨_, rfl, hb, .inr ⟨rfl, hr.congr hf⟩⟩

/-! ### Guards -/
def BytesPost (n : Nat) (w : World) (e : Ending) (w' : World) : Prop := ∃ r : Bool, e = .returned (.bool r) ∧ w' = w ∧ (r = true → n ≤ 1048576)

set_option maxHeartbeats 1000000 in
theorem bytes27 (p0 p1 p2 p5 : Option Addr) (n0 n1 n2 n5 c0 c1 c2 c5 : Nat) (x s : Int) (w : World) (h0 : n0 ≤ 9223372036854775807) (h1 : n1 ≤ 9223372036854775807) (h2 : n2 ≤ 9223372036854775807) (h5 : n5 ≤ 9223372036854775807) :
    Calls Trym.prog 27 #[.slice p0 n0 c0, .slice p1 n1 c1, .slice p2 n2 c2, .int .u64 x, .int .u64 s, .slice p5 n5 c5] w fun e w' => BytesPost (n0 + n1 + n2 + n5) w e w' := by
  go_enter Trym.func27, Trym.ntmps27
  go_wp2
  all_goals
    go_ret
    exact ⟨_, rfl, rfl, fun h => by first | (cases h; done) | omega⟩

set_option maxHeartbeats 1000000 in
theorem bytes21 (p0 p1 p2 p5 : Option Addr) (n0 n1 n2 n5 c0 c1 c2 c5 : Nat) (x s : Int) (w : World) (h0 : n0 ≤ 9223372036854775807) (h1 : n1 ≤ 9223372036854775807) (h2 : n2 ≤ 9223372036854775807) (h5 : n5 ≤ 9223372036854775807) :
    Calls Trym.prog 21 #[.slice p0 n0 c0, .slice p1 n1 c1, .slice p2 n2 c2, .int .u64 x, .int .u64 s, .slice p5 n5 c5] w fun e w' => BytesPost (n0 + n1 + n2 + n5) w e w' := by
  go_enter Trym.func21, Trym.ntmps21
  go_wp2
  all_goals
    go_ret
    exact ⟨_, rfl, rfl, fun h => by first | (cases h; done) | omega⟩

/-! ### zzNextAtRunEnds, where it is so -/
set_option maxHeartbeats 1000000 in
theorem ends_any (p q : Option Addr) (G c d : Nat) (f g : Nat → Int) (w : World) (hG : G ≤ 1048576) (hp : IntsF w .u32 p G f) (hq : IntsF w .u32 q (G + 1) g) (he : ∀ h, h < G → f h = g (h + 1)) :
    Calls Trym.prog 25 #[.slice p G c, .slice q (G + 1) d] w fun e w' => e = .returned (.bool true) ∧ ∃ z, w' = w.drewN z := by
  have t1 : ((G : Int) != ((G + 1 : Nat) : Int) - 1) = false := by simp
  have HP := hide hp
  have HQ := hide hq
  have HE := hide he
  clear hp hq he
  go_enter Trym.func25, Trym.ntmps25
  go_wp2_with fail
  go_loopg [5] G (fun gk i wr => ∃ (k z : Nat), k ≤ G ∧ gk = G - k ∧ i = .int .i64 k ∧ wr = w.drewN z)
  case atStart => exact ⟨0, 0, Nat.zero_le _, rfl, rfl, rfl⟩
  case round =>
    obtain ⟨k, z, hk, hgk, rfl, hwz⟩ := hrel
    have HG := hide hgk
    have HW := hide hwz
    clear hgk
    by_cases hlt : k < G
    · obtain ⟨b, o, rfl, hc1⟩ := HP.out.2.2 (by omega)
      obtain ⟨b', o', rfl, hc2⟩ := HQ.out.2.2 (by omega)
      obtain ⟨v, hv⟩ : ∃ v, f k = v := ⟨_, rfl⟩
      have c1 : wr.cell? ⟨b, o + k, none⟩ = some (.int .u32 v) := by rw [hwz, World.cell?_drewN, hc1 k hlt, hv]
      have c2 : wr.cell? ⟨b', o' + (k + 1), none⟩ = some (.int .u32 v) := by rw [hwz, World.cell?_drewN, hc2 (k + 1) (by omega), ← HE.out k hlt, hv]
      have i1 : (0 : Int) ≤ (k : Int) := by omega
      have i2 : (k : Int) < (G : Int) := by omega
      have e1 : (v != v) = false := by simp
      clear hv hwz hc1 hc2
      go_wp2_with fail
      go_quiet (fail)
      go_wp2_with fail
      go_roundg (G - (k + 1))
      case measure => rw [HG.out]; omega
      case rel => exact ⟨k + 1, z + nq, by omega, rfl, by go_num, by rw [HW.out]; exact World.drewN_drewN ..⟩
    · clear hwz
      go_wp2_with fail
      go_ret
      exact ⟨rfl, z, HW.out⟩

end Go.Proofs.Qxb6600860aMods
