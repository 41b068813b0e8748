/-
  Contracts for the parents' list: cloneU16; the guard zzBytes_FnChildMatchesInternTable.
-/
import Derived.Test.Qxb6600170aModsHave
namespace Go.Proofs.Qxb6600170aMods
set_option linter.unusedVariables false
set_option linter.unusedSimpArgs false
open Go.RowKit

theorem Trym.info34 : (Trym.prog.info? 34).map (fun i => (i.zero, i.size, i.bytes)) = some (some (.int .u16 0), 1, 2) := by kernel_rfl

/-- What the walk is told of a slice of uint16 that came in. -/
def U16Arg (w : World) (p : Option Addr) (n c : Nat) : Prop :=
  (p = none ∧ n = 0 ∧ c = 0) ∨ ∃ a : Addr, p = some a ∧ n ≤ maxLen ∧ ∀ i, i < n → ∃ z : Int, w.cell? (a.add i) = some (.int .u16 z) ∧ 0 ≤ z ∧ z ≤ 65535

/-- A slice of uint16 of the call's own. -/
def Nums (w : World) (p : Option Addr) (n : Nat) : Prop :=
  n ≤ 1048576 ∧ ∀ i, i < n → ∃ (g : Nat) (z : Int), p = some ⟨g, 0, none⟩ ∧ w.cell? ⟨g, i, none⟩ = some (.int .u16 z) ∧ 0 ≤ z ∧ z ≤ 65535

theorem Nums.below {B : Nat} {w w' : World} {p : Option Addr} {n : Nat} (h : Nums w p n) (hb : Below B w w') (hB : w.heap.size ≤ B) : Nums w' p n := by
  refine ⟨h.1, fun i hi => ?_⟩
  obtain ⟨g, z, h1, h2, h3⟩ := h.2 i hi
  have := World.block_lt_of_cell? _ _ h2
  exact ⟨g, z, h1, by rw [hb.cell (p := ⟨g, i, none⟩) (by simp at this ⊢; omega)]; exact h2, h3⟩

def NumsRel (w : World) (n k : Nat) (wr : World) : Prop :=
  Below w.heap.size w wr ∧ ∃ f, wr.rowIs w.heap.size 34 n f ∧ ∀ i, i < k → ∃ z : Int, f i = .int .u16 z ∧ 0 ≤ z ∧ z ≤ 65535

theorem numsRel_step {w wr : World} {n k : Nat} {z : Int} (h : NumsRel w n k wr) (h1 : 0 ≤ z) (h2 : z ≤ 65535) : NumsRel w n (k + 1) (wr.setCell ⟨w.heap.size, k, none⟩ (.int .u16 z)) := by
  obtain ⟨b, f, r, hf⟩ := h
  refine ⟨b.setCell (Nat.le_refl _) _, _, r.set k _, fun i hi => ?_⟩
  by_cases e : i = k
  · rw [if_pos e]; exact ⟨z, rfl, h1, h2⟩
  · rw [if_neg e]; exact hf i (by omega)

set_option maxHeartbeats 1000000 in
theorem cloneU16_some (b o n c : Nat) (w : World) (hn1 : n ≤ 1048576) (hpos : 0 < n) (hcell : ∀ i, i < n → ∃ z : Int, w.cell? ⟨b, o + i, none⟩ = some (.int .u16 z) ∧ 0 ≤ z ∧ z ≤ 65535) :
    Calls Trym.prog 9 #[.slice (some ⟨b, o, none⟩) n c] w fun e w' => e = .returned (.slice (some ⟨w.heap.size, 0, none⟩) n n) ∧ NumsRel w n n w' := by
  have q22 : ∀ (w : World) (a : Option Addr) (n c n' c' : Nat), (binOp .eql 22 (.slice a n c) (.slice none n' c')).run Trym.prog w = .ok (.bool a.isNone) w := fun w a n c n' c' => Lib.run_eql_slice_nil w _ _ a n c n' c' Trym.underlying22
  have hmk := fun w => run_make_row' (P := Trym.prog) 22 34 (.int .u16 0) 2 Trym.underlying22 Trym.info34 rfl .i64 .i64 n (by omega) (by omega) w
  have hblt : b < w.heap.size := by obtain ⟨z, hz, _⟩ := hcell 0 hpos; exact World.block_lt_of_cell? _ _ hz
  have HC := hide hcell
  clear hcell
  go_enter Trym.func9, Trym.ntmps9
  go_wp2
  go_loopg [4] n (fun gk i wr => ∃ k : Nat, k ≤ n ∧ gk = n - k ∧ i = .int .i64 k ∧ NumsRel w n k wr)
  case atStart =>
    exact ⟨0, Nat.zero_le _, rfl, rfl, (Below.refl _ _).alloc (Nat.le_refl _) _, _, World.rowIs_made w _ n 34, fun i hi => absurd hi (Nat.not_lt_zero i)⟩
  case round =>
    obtain ⟨k, hk, hgk, rfl, hrel⟩ := hrel
    have HG := hide hgk
    have HR := hide hrel
    clear hgk
    by_cases hlt : k < n
    · obtain ⟨z, hz, hz0, hz1⟩ := HC.out k hlt
      obtain ⟨hbel, f, hrow, _⟩ := hrel
      have hck : wr.cell? ⟨b, o + k, none⟩ = some (.int .u16 z) := (hbel.cell (p := ⟨b, o + k, none⟩) hblt).trans hz
      have g1 : wr.cell? ⟨w.heap.size, k, none⟩ = some (f k) := hrow.cell hlt
      have g2 : wr.frozen? ⟨w.heap.size, k, none⟩ = false := hrow.frozen k
      have HS := hide (numsRel_step HR.out hz0 hz1)
      clear hbel hrow hz
      go_wp2
      go_roundg (n - (k + 1))
      case measure => rw [HG.out]; omega
      case rel => exact ⟨k + 1, by omega, rfl, by go_num, HS.out⟩
    · clear hrel
      go_wp2
      go_ret
      obtain rfl : k = n := by omega
      exact ⟨rfl, HR.out⟩

set_option maxHeartbeats 400000 in
theorem cloneU16_empty (a : Addr) (c : Nat) (w : World) :
    Calls Trym.prog 9 #[.slice (some a) 0 c] w fun e w' => e = .returned (.slice (some ⟨w.heap.size, 0, none⟩) 0 0) ∧ w' = w.alloc (.cells (madeCells #[.int .u16 0] 0) 34) := by
  have q22 : ∀ (w : World) (a : Option Addr) (n c n' c' : Nat), (binOp .eql 22 (.slice a n c) (.slice none n' c')).run Trym.prog w = .ok (.bool a.isNone) w := fun w a n c n' c' => Lib.run_eql_slice_nil w _ _ a n c n' c' Trym.underlying22
  have hmk := fun w => run_make_row' (P := Trym.prog) 22 34 (.int .u16 0) 2 Trym.underlying22 Trym.info34 rfl .i64 .i64 0 (by omega) (by omega) w
  simp only [Int.ofNat_eq_natCast, Int.natCast_zero] at hmk
  go_enter Trym.func9, Trym.ntmps9
  go_wp2
  refine wp_loop_rounds 1 ?_; rw [rounds_succ]
  go_wp2
  go_ret
  exact ⟨rfl, rfl⟩

set_option maxHeartbeats 400000 in
theorem cloneU16_nil (w : World) :
    Calls Trym.prog 9 #[.slice none 0 0] w fun e w' => e = .returned (.slice none 0 0) ∧ w' = w := by
  have q22 : ∀ (w : World) (a : Option Addr) (n c n' c' : Nat), (binOp .eql 22 (.slice a n c) (.slice none n' c')).run Trym.prog w = .ok (.bool a.isNone) w := fun w a n c n' c' => Lib.run_eql_slice_nil w _ _ a n c n' c' Trym.underlying22
  go_enter Trym.func9, Trym.ntmps9
  go_wp2
  go_ret
  exact ⟨rfl, rfl⟩

theorem cloneU16_any {w : World} {p : Option Addr} {n c : Nat} (h : U16Arg w p n c) (hn : n ≤ 1048576) :
    Calls Trym.prog 9 #[.slice p n c] w fun e w' => ∃ p', e = .returned (.slice p' n n) ∧ Nums w' p' n ∧ Below w.heap.size w w' := by
  rcases h with ⟨rfl, rfl, rfl⟩ | ⟨a, rfl, hm, hc⟩
  · exact (cloneU16_nil w).mono fun e w' ⟨h1, h2⟩ => by subst h1; subst h2; exact ⟨_, rfl, ⟨by omega, by simp⟩, Below.refl _ _⟩
  · rcases Nat.eq_zero_or_pos n with h0 | h0
    · subst h0
      exact (cloneU16_empty a c w).mono fun e w' ⟨h1, h2⟩ => by subst h1; subst h2; exact ⟨_, rfl, ⟨by omega, by simp⟩, (Below.refl _ _).alloc (Nat.le_refl _) _⟩
    · have ha : a = ⟨a.block, a.off, none⟩ := by obtain ⟨z, hz, _⟩ := hc 0 h0; exact addr_plain hz
      rw [ha]
      refine (cloneU16_some a.block a.off n c w hn h0 (fun i hi => ?_)).mono fun e w' ⟨h1, b, f, hr, hf⟩ => ⟨_, h1, ⟨hn, fun i hi => ?_⟩, b⟩
      · obtain ⟨z, hz, h3⟩ := hc i hi
        rw [ha, add_at] at hz
        exact ⟨z, hz, h3⟩
      · obtain ⟨z, hz, h3, h4⟩ := hf i hi
        exact ⟨_, z, rfl, by rw [hr.cell hi, hz], h3, h4⟩

def Fits3 (m n : Nat) (L : Nat → Nat) (w : World) (e : Ending) (w' : World) : Prop := ∃ t, e = .returned (.bool t) ∧ w' = w ∧ (t = true → m ≤ 1048576 ∧ n ≤ 1048576 ∧ ∀ i, i < n → L i ≤ 1048576)
theorem Fits3.no (m n : Nat) (L : Nat → Nat) (w : World) : Fits3 m n L w (.returned (.bool false)) w := ⟨false, rfl, rfl, by simp⟩
theorem Fits3.yes {m n : Nat} {L : Nat → Nat} {w : World} (h0 : m ≤ 1048576) (h : n ≤ 1048576) (h2 : ∀ i, i < n → L i ≤ 1048576) : Fits3 m n L w (.returned (.bool true)) w := ⟨true, rfl, rfl, fun _ => ⟨h0, h, h2⟩⟩

set_option maxHeartbeats 1600000 in
theorem bytes7 (q : Option Addr) (m d : Nat) (p : Option Addr) (n c : Nat) (A : Nat → Option Addr) (L C : Nat → Nat) (w : World) (hm : m ≤ 9223372036854775807) (hn : n ≤ 9223372036854775807) (h : Raw w p n A L C) :
    Calls Trym.prog 7 #[.slice q m d, .slice p n c] w fun e w' => Fits3 m n L w e w' := by
  by_cases hbm : 1048576 < m
  · go_enter Trym.func7, Trym.ntmps7
    go_wp2
    go_ret
    exact Fits3.no _ _ _ _
  by_cases hbig : 1048576 < n
  · go_enter Trym.func7, Trym.ntmps7
    go_wp2
    go_ret
    exact Fits3.no _ _ _ _
  by_cases hsum : 1048576 < m + n
  · go_enter Trym.func7, Trym.ntmps7
    go_wp2
    go_ret
    exact Fits3.no _ _ _ _
  go_enter Trym.func7, Trym.ntmps7
  go_wp2
  go_loop [5, 6] (fun t i => ∃ k s : Nat, k ≤ n ∧ s ≤ 1048576 ∧ i = .int .i64 k ∧ t = .int .i64 s ∧ ∀ i, i < k → L i ≤ 1048576) (fun _ i => n - (intOf i).toNat)
  case atStart => exact ⟨0, m + n, Nat.zero_le _, by omega, rfl, by go_num, fun i hi => absurd hi (Nat.not_lt_zero i)⟩
  case round =>
    obtain ⟨k, s, hk, hs, rfl, rfl, hL⟩ := hrel
    have HL : Hid (∀ i, i < k → L i ≤ 1048576) := hL
    clear hL
    by_cases hlt : k < n
    · obtain ⟨b, o, rfl, hc⟩ := h (by omega)
      obtain ⟨hck, hLk⟩ := hc k hlt
      clear hc h
      go_wp2
      · go_ret
        exact Fits3.no _ _ _ _
      · go_ret
        exact Fits3.no _ _ _ _
      · go_round
        case rel => exact ⟨k + 1, s + L k, by omega, by omega, by go_num, by go_num, fun i hi => by by_cases e : i = k; (· subst e; omega); (· exact HL.out i (by omega))⟩
        case measure => simp [intOf]; omega
    · go_wp2
      go_ret
      exact Fits3.yes (by omega) (by omega) fun i hi => HL.out i (by omega)

end Go.Proofs.Qxb6600170aMods
