/-
  THE WALKS OF zzDistinct AND zzCloneU32.
-/
import Derived.Test.Qxb6600860aModsAdd
namespace Go.Proofs.Qxb6600860aMods
set_option linter.unusedVariables false
set_option linter.unusedSimpArgs false
open Go.RowKit

def DistPost (w : World) (ids : List Int) (e : Ending) (w' : World) : Prop :=
  ∃ d : Int, e = .returned (.int .i64 d) ∧ Below w.heap.size w w' ∧ (d = -1 ∨ (d = ((dl ids).length : Int) ∧ ∀ x ∈ ids, x ≠ 4294967295))

def DistRel (w : World) (ids : List Int) (k : Nat) (wr : World) : Prop :=
  SetIs wr w.heap.size k (dl (ids.take k)) ∧ Below w.heap.size w wr ∧ ∀ x ∈ ids.take k, x ≠ 4294967295

theorem DistRel.none {w : World} {ids : List Int} {k : Nat} {wr : World} (h : DistRel w ids k wr) {id : Int} (hk : k < ids.length) (he : ids.getD k 0 = id) (hm : id ∈ dl (ids.take k)) (hne : id ≠ 4294967295) :
    DistRel w ids (k + 1) wr ∧ (dl (ids.take (k + 1))).length = (dl (ids.take k)).length := by
  obtain ⟨h1, h2, h3⟩ := h
  have e : dl (ids.take (k + 1)) = dl (ids.take k) := by rw [dl_step hk, he]; unfold addIf; rw [if_pos hm]
  refine ⟨⟨?_, h2, fun x hx => ?_⟩, by rw [e]⟩
  · rw [e]
    obtain ⟨D, ho, hA⟩ := h1
    exact ⟨D, ho.mono (Nat.le_succ _), hA⟩
  · rw [take_snoc' hk, he] at hx
    rcases List.mem_append.1 hx with hx | hx
    · exact h3 x hx
    · rw [List.mem_singleton.1 hx]; exact hne

theorem DistRel.push {w : World} {ids : List Int} {k : Nat} {wr w1 : World} (h : DistRel w ids k wr) {id : Int} (hk : k < ids.length) (he : ids.getD k 0 = id) (hm : id ∉ dl (ids.take k)) (hne : id ≠ 4294967295)
    (hs : SetIs w1 w.heap.size (k + 1) (id :: dl (ids.take k))) (hg : wr.grownBy w1 (some w.heap.size)) :
    DistRel w ids (k + 1) w1 ∧ (dl (ids.take (k + 1))).length = (dl (ids.take k)).length + 1 := by
  obtain ⟨h1, h2, h3⟩ := h
  have e : dl (ids.take (k + 1)) = id :: dl (ids.take k) := by rw [dl_step hk, he]; unfold addIf; rw [if_neg hm]
  refine ⟨⟨by rw [e]; exact hs, h2.grown hg h2.size (fun k hk => by cases hk; exact Nat.le_refl _), fun x hx => ?_⟩, by rw [e]; simp⟩
  rw [take_snoc' hk, he] at hx
  rcases List.mem_append.1 hx with hx | hx
  · exact h3 x hx
  · rw [List.mem_singleton.1 hx]; exact hne

theorem mem_getD {l : List Int} {k : Nat} (h : k < l.length) : l.getD k 0 ∈ l := by simp [List.getD, h]

set_option maxHeartbeats 1000000 in
theorem distinct_any (p : Option Addr) (n c : Nat) (ids : List Int) (w : World) (hn : n ≤ 1048576) (h : Ints w .u32 p n ids) :
    Calls Trym.prog 10 #[.slice p n c] w fun e w' => DistPost w ids e w' := by
  have hmm := @run_makeMap Trym.prog
  obtain ⟨hl, _, hwf, hc⟩ := h
  have HL := hide hl
  have HWF := hide hwf
  have HC := hide hc
  clear hl hwf hc
  go_enter Trym.func10, Trym.ntmps10
  go_wp2
  go_loopg [4, 5] n (fun gk cn i wr => ∃ k : Nat, k ≤ n ∧ gk = n - k ∧ i = .int .i64 k ∧ cn = .int .i64 ((dl (ids.take k)).length : Int) ∧ DistRel w ids k wr)
  case atStart => exact ⟨0, Nat.zero_le _, rfl, rfl, rfl, SetIs.made w, (Below.refl _ _).alloc (Nat.le_refl _) _, by simp⟩
  case round =>
    obtain ⟨k, hk, hgk, rfl, rfl, hrel⟩ := hrel
    have HG := hide hgk
    have HR := hide hrel
    clear hgk hrel
    have hdl : (dl (ids.take k)).length ≤ 1048576 := by have := dl_length (ids.take k); rw [List.length_take] at this; omega
    by_cases hlt : k < n
    · obtain ⟨b, o, rfl, hcell⟩ := HC.out (by omega)
      have hkl : k < ids.length := by rw [HL.out]; exact hlt
      have hb0 : b < w.heap.size := World.block_lt_of_cell? _ _ (hcell k hlt)
      obtain ⟨id, hid⟩ : ∃ id, ids.getD k 0 = id := ⟨_, rfl⟩
      have hck : wr.cell? ⟨b, o + k, none⟩ = some (.int .u32 id) := by rw [HR.out.2.1.cell (p := ⟨b, o + k, none⟩) hb0, hcell k hlt, hid]
      have hwid : (Lit.int .u32 id).wf = true := by rw [← hid]; exact HWF.out _ (mem_getD hkl)
      have HID := hide hid
      have HWI := hide hwid
      clear hid hcell hwid
      by_cases hmax : id = 4294967295
      · have e1 : (id == 4294967295) = true := by simpa using hmax
        have HB := hide HR.out.2.1
        clear hmax
        go_wp2
        go_ret
        exact ⟨-1, rfl, HB.out, .inl rfl⟩
      · have e1 : (id == 4294967295) = false := by simpa using hmax
        have HMX := hide hmax
        clear hmax
        by_cases hm : id ∈ dl (ids.take k)
        · have hlk := HR.out.1.look HWI.out
          rw [decide_eq_true hm] at hlk
          have HS := hide (HR.out.none hkl HID.out hm HMX.out)
          clear hm
          generalize dl (ids.take k) = A at *
          go_wp2
          go_roundg (n - (k + 1))
          case measure => rw [HG.out]; omega
          case rel => exact ⟨k + 1, by omega, rfl, by go_num, by rw [HS.out.2], HS.out.1⟩
        · have hlk := HR.out.1.look HWI.out
          rw [decide_eq_false hm] at hlk
          obtain ⟨w1, hup, hs1, hg1⟩ := HR.out.1.store (by unfold maxLen; omega) HWI.out
          have HS := hide (HR.out.push hkl HID.out hm HMX.out hs1 hg1)
          have hb1 : w1.cell? ⟨b, o + k, none⟩ = some (.int .u32 id) := (hg1.cell hck (by simp; omega))
          clear hm hs1 hg1
          generalize dl (ids.take k) = A at *
          go_wp2
          go_roundg (n - (k + 1))
          case measure => rw [HG.out]; omega
          case rel => exact ⟨k + 1, by omega, rfl, by go_num, by rw [HS.out.2]; go_num, HS.out.1⟩
    · have htk : ids.take k = ids := List.take_of_length_le (by rw [HL.out]; omega)
      have hrr := HR.out
      unfold DistRel at hrr
      rw [htk] at hrr hdl ⊢
      have HRR := hide hrr
      clear hrr htk
      go_wp2
      go_ret
      exact ⟨_, rfl, HRR.out.2.1, .inr ⟨rfl, HRR.out.2.2⟩⟩

/-! ### zzCloneU32 -/
def CloneRel (w : World) (e : TypeId) (q : IntKind) (n : Nat) (xs : List Int) (k : Nat) (wr : World) : Prop :=
  Below w.heap.size w wr ∧ ∃ f, wr.rowIs w.heap.size e n f ∧ ∀ i, i < k → f i = .int q (xs.getD i 0)

theorem cloneRel_step {w wr : World} {e : TypeId} {q : IntKind} {n k : Nat} {xs : List Int} {z : Int} (h : CloneRel w e q n xs k wr) (hz : xs.getD k 0 = z) : CloneRel w e q n xs (k + 1) (wr.setCell ⟨w.heap.size, k, none⟩ (.int q z)) := by
  obtain ⟨b, f, r, hf⟩ := h
  refine ⟨b.setCell (Nat.le_refl _) _, _, r.set k _, fun i hi => ?_⟩
  by_cases e : i = k
  · subst e; rw [if_pos rfl, hz]
  · rw [if_neg e]; exact hf i (by omega)

set_option maxHeartbeats 1000000 in
theorem clone32_some (b o n c : Nat) (xs : List Int) (w : World) (hn1 : n ≤ 1048576) (hpos : 0 < n) (hcell : ∀ i, i < n → w.cell? ⟨b, o + i, none⟩ = some (.int .u32 (xs.getD i 0))) :
    Calls Trym.prog 13 #[.slice (some ⟨b, o, none⟩) n c] w fun e w' => e = .returned (.slice (some ⟨w.heap.size, 0, none⟩) n n) ∧ CloneRel w 27 .u32 n xs n w' := by
  have q22 : ∀ (w : World) (a : Option Addr) (n c n' c' : Nat), (binOp .eql 22 (.slice a n c) (.slice none n' c')).run Trym.prog w = .ok (.bool a.isNone) w := fun w a n c n' c' => Lib.run_eql_slice_nil w _ _ a n c n' c' Trym.underlying22
  have hmk := fun w => run_make_row' (P := Trym.prog) 22 27 (.int .u32 0) 4 Trym.underlying22 Trym.info27 rfl .i64 .i64 n (by omega) (by omega) w
  have hblt : b < w.heap.size := World.block_lt_of_cell? _ _ (hcell 0 hpos)
  have HC := hide hcell
  clear hcell
  go_enter Trym.func13, Trym.ntmps13
  go_wp2
  go_loopg [4] n (fun gk i wr => ∃ k : Nat, k ≤ n ∧ gk = n - k ∧ i = .int .i64 k ∧ CloneRel w 27 .u32 n xs k wr)
  case atStart =>
    exact ⟨0, Nat.zero_le _, rfl, rfl, (Below.refl _ _).alloc (Nat.le_refl _) _, _, World.rowIs_made w _ n 27, fun i hi => absurd hi (Nat.not_lt_zero i)⟩
  case round =>
    obtain ⟨k, hk, hgk, rfl, hrel⟩ := hrel
    have HG := hide hgk
    have HR := hide hrel
    clear hgk
    by_cases hlt : k < n
    · obtain ⟨z, hzz⟩ : ∃ z, xs.getD k 0 = z := ⟨_, rfl⟩
      have hz := HC.out k hlt
      rw [hzz] at hz
      obtain ⟨hbel, f, hrow, _⟩ := hrel
      have hck : wr.cell? ⟨b, o + k, none⟩ = some (.int .u32 z) := (hbel.cell (p := ⟨b, o + k, none⟩) hblt).trans hz
      have g1 : wr.cell? ⟨w.heap.size, k, none⟩ = some (f k) := hrow.cell hlt
      have g2 : wr.frozen? ⟨w.heap.size, k, none⟩ = false := hrow.frozen k
      have HS := hide (cloneRel_step HR.out hzz)
      clear hbel hrow hz hzz
      go_wp2
      go_roundg (n - (k + 1))
      case measure => rw [HG.out]; omega
      case rel => exact ⟨k + 1, by omega, rfl, by go_num, HS.out⟩
    · clear hrel
      go_wp2
      go_ret
      obtain rfl : k = n := by omega
      exact ⟨rfl, HR.out⟩

set_option maxHeartbeats 400000 in
theorem clone32_empty (a : Addr) (c : Nat) (w : World) :
    Calls Trym.prog 13 #[.slice (some a) 0 c] w fun e w' => e = .returned (.slice (some ⟨w.heap.size, 0, none⟩) 0 0) ∧ w' = w.alloc (.cells (madeCells #[.int .u32 0] 0) 27) := by
  have q22 : ∀ (w : World) (a : Option Addr) (n c n' c' : Nat), (binOp .eql 22 (.slice a n c) (.slice none n' c')).run Trym.prog w = .ok (.bool a.isNone) w := fun w a n c n' c' => Lib.run_eql_slice_nil w _ _ a n c n' c' Trym.underlying22
  have hmk := fun w => run_make_row' (P := Trym.prog) 22 27 (.int .u32 0) 4 Trym.underlying22 Trym.info27 rfl .i64 .i64 0 (by omega) (by omega) w
  simp only [Int.ofNat_eq_natCast, Int.natCast_zero] at hmk
  go_enter Trym.func13, Trym.ntmps13
  go_wp2
  refine wp_loop_rounds 1 ?_; rw [rounds_succ]
  go_wp2
  go_ret
  exact ⟨rfl, rfl⟩

set_option maxHeartbeats 400000 in
theorem clone32_nil (w : World) :
    Calls Trym.prog 13 #[.slice none 0 0] w fun e w' => e = .returned (.slice none 0 0) ∧ w' = w := by
  have q22 : ∀ (w : World) (a : Option Addr) (n c n' c' : Nat), (binOp .eql 22 (.slice a n c) (.slice none n' c')).run Trym.prog w = .ok (.bool a.isNone) w := fun w a n c n' c' => Lib.run_eql_slice_nil w _ _ a n c n' c' Trym.underlying22
  go_enter Trym.func13, Trym.ntmps13
  go_wp2
  go_ret
  exact ⟨rfl, rfl⟩

end Go.Proofs.Qxb6600860aMods
