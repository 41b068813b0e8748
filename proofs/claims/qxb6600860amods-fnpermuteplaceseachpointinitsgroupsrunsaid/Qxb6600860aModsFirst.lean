/-
  THE WALK OF 'FnNodeSetAddReportsFirstSighting'.
-/
import Derived.Test.Qxb6600860aModsDist
namespace Go.Proofs.Qxb6600860aMods
set_option linter.unusedVariables false
set_option linter.unusedSimpArgs false
open Go.RowKit

/-- THE LAW HOLDS: true is handed back; nothing that was there has turned. -/
def Truth (w : World) (e : Ending) (w' : World) : Prop := e = .returned (.bool true) ∧ Below w.heap.size w w'
theorem Truth.mk {w w' : World} (h : Below w.heap.size w w') : Truth w (.returned (.bool true)) w' := ⟨rfl, h⟩

theorem SetIs.congr {w : World} {b n : Nat} {A A' : List Int} (h : SetIs w b n A) (hA : ∀ x, x ∈ A ↔ x ∈ A') : SetIs w b n A' := by
  obtain ⟨D, ho, h'⟩ := h
  refine ⟨D, ho, fun x hx => ?_⟩
  rw [h' x hx]
  congr 2
  exact decide_eq_decide.2 (hA x)

theorem bounds_u32 {n : Int} (h : (Lit.int .u32 n).wf = true) : 0 ≤ n ∧ n ≤ 4294967295 := by
  have h1 : IntKind.u32.min = 0 := rfl
  have h2 : IntKind.u32.max = 4294967295 := rfl
  simp only [Lit.wf, Bool.and_eq_true, decide_eq_true_eq] at h
  omega

structure AddState (w wr : World) (g bm N sh : Nat) (S ids : List Int) (k : Nat) : Prop where
  slots : Slots wr g N S
  set : SetIs wr bm k (dl (ids.take k))
  ns : NS N (hashN sh) S (dl (ids.take k))
  below : Below w.heap.size w wr

set_option maxHeartbeats 2000000 in
theorem walk3 (p : Option Addr) (n c : Nat) (ids : List Int) (x : Int) (w : World) (h : Ints w .u32 p n ids) (hx : 0 ≤ x) (hx2 : x ≤ 18446744073709551615) :
    Calls Trym.prog 3 #[.slice p n c, .int .u64 x] w fun e w' => Truth w e w' := by
  have hmm := @run_makeMap Trym.prog
  have hn := h.2.1
  have HI := hide h
  clear h
  by_cases h1 : 1048576 < n
  · go_enter Trym.func3, Trym.ntmps3
    go_wp2_with fail
    refine (bytes9 p n c x w hn).mono ?_
    rintro e w' ⟨rfl, hw⟩
    rw [hw, decide_eq_false (by omega)]; clear hw w'
    go_wp2_with fail
    go_ret
    exact Truth.mk (Below.refl _ _)
  go_enter Trym.func3, Trym.ntmps3
  go_wp2_with fail
  refine (bytes9 p n c x w hn).mono ?_
  rintro e w' ⟨rfl, hw⟩
  rw [hw, decide_eq_true (by omega)]; clear hw w'
  by_cases h2 : 262144 < n
  · go_wp2_with fail
    go_ret
    exact Truth.mk (Below.refl _ _)
  by_cases h3 : 16 < x
  · go_wp2_with fail
    go_ret
    exact Truth.mk (Below.refl _ _)
  obtain ⟨bits, rfl⟩ : ∃ b : Nat, x = b := ⟨x.toNat, by omega⟩
  have hbits : bits ≤ 16 := by omega
  go_wp2_with fail
  refine (distinct_any p n c ids w (by omega) HI.out).mono ?_
  rintro e w1 ⟨d, rfl, hb1, hd⟩
  have HB1 := hide hb1
  clear hb1
  rcases hd with rfl | ⟨rfl, hmax⟩
  · go_wp2_with fail
    go_ret
    exact Truth.mk HB1.out
  have HMAX := hide hmax
  clear hmax
  obtain ⟨D, hD⟩ : ∃ D, (dl ids).length = D := ⟨_, rfl⟩
  have hDn : D ≤ n := by rw [← hD, ← HI.out.1]; exact dl_length ids
  rw [hD]
  have HD := hide hD
  clear hD
  obtain ⟨N, hN⟩ : ∃ N, N = 2 ^ bits := ⟨_, rfl⟩
  have hN2 : N ≤ 65536 := by
    rw [hN]
    calc 2 ^ bits ≤ 2 ^ 16 := Nat.pow_le_pow_right (by decide) hbits
      _ = 65536 := by decide
  have hNi : (2 : Int) ^ bits = (N : Int) := by rw [hN]; simp
  have HN := hide hN
  clear hN
  by_cases hbig : N < 2 * D
  · go_wp2_with fail
    go_ret
    exact Truth.mk HB1.out
  have hmk := fun w => run_make_row' (P := Trym.prog) 22 27 (.int .u32 0) 4 Trym.underlying22 Trym.info27 rfl .i64 .i64 N (by omega) (by omega) w
  have hN1 : 1 ≤ N := by rw [HN.out]; exact Nat.one_le_two_pow
  go_wp2_with fail
  have hst : AddState w ((w1.alloc (.cells (madeCells #[.int .u32 0] N) 27)).alloc (.map #[] 0)) w1.heap.size (w1.heap.size + 1) N (32 - bits) (List.replicate N 0) ids 0 := by
    refine ⟨⟨by simp, ?_⟩, ?_, NS.start N _, ((HB1.out).alloc HB1.out.size _).alloc (by have := HB1.out.size; simp; omega) _⟩
    · exact ((World.rowIs_made w1 (.int .u32 0) N 27).alloc _).congr fun i hi => by simp [List.getD, List.getElem?_replicate, hi]
    · have := SetIs.made (w1.alloc (.cells (madeCells #[.int .u32 0] N) 27))
      rw [World.size_alloc] at this
      exact this
  have HST := hide hst
  clear hst hmk hmm
  go_loopg [8] n (fun gk i wr => ∃ (k : Nat) (S : List Int), k ≤ n ∧ gk = n - k ∧ i = .int .i64 k ∧ AddState w wr w1.heap.size (w1.heap.size + 1) N (32 - bits) S ids k)
  case atStart => exact ⟨0, _, Nat.zero_le _, rfl, rfl, HST.out⟩
  case round =>
    obtain ⟨k, S, hk, hgk, rfl, hS⟩ := hrel
    have HG := hide hgk
    have HS := hide hS
    clear hgk hS
    by_cases hlt : k < n
    · obtain ⟨b, o, rfl, hcell⟩ := HI.out.2.2.2 (by omega)
      have hkl : k < ids.length := by rw [HI.out.1]; exact hlt
      have hb0 : b < w.heap.size := World.block_lt_of_cell? _ _ (hcell k hlt)
      obtain ⟨id, hid⟩ : ∃ id, ids.getD k 0 = id := ⟨_, rfl⟩
      have hck : wr.cell? ⟨b, o + k, none⟩ = some (.int .u32 id) := by rw [HS.out.below.cell (p := ⟨b, o + k, none⟩) hb0, hcell k hlt, hid]
      have hwid : (Lit.int .u32 id).wf = true := by rw [← hid]; exact HI.out.2.2.1 _ (mem_getD hkl)
      have hne : id ≠ 4294967295 := by rw [← hid]; exact HMAX.out _ (mem_getD hkl)
      have hr := bounds_u32 hwid
      have hAN : (dl (ids.take k)).length < N := by have := dl_take ids k; have := HD.out; omega
      have hstep : dl (ids.take (k + 1)) = addIf (dl (ids.take k)) id := by rw [dl_step hkl, hid]
      have HID := hide hid
      have HWI := hide hwid
      have HAN := hide hAN
      have HSP := hide hstep
      have hi0 : 0 ≤ id := hr.1
      have hi1 : id < 4294967295 := by omega
      clear hid hwid hAN hstep hcell hne hr
      go_wp2_with fail
      rw [show (32 : Int) - (bits : Int) = ((32 - bits : Nat) : Int) by omega]
      refine (zzadd_any w1.heap.size N bits S (dl (ids.take k)) id wr hi0 hi1 hbits HN.out HAN.out HS.out.slots HS.out.ns).mono ?_
      rintro e w2 ⟨S', rfl, hs2, hn2, _, hg2⟩
      have hset2 := HS.out.set.keep hg2 (by simp)
      have hlk := hset2.look HWI.out
      obtain ⟨w3, hup, hset3, hg3⟩ := hset2.store (by unfold maxLen; omega) HWI.out
      have hgne : w1.heap.size ≠ w1.heap.size + 1 := by omega
      have hfin : AddState w w3 w1.heap.size (w1.heap.size + 1) N (32 - bits) S' ids (k + 1) := by
        refine ⟨hs2.keep (hg3.block _ hs2.2.lt (by simp)), ?_, by rw [HSP.out]; exact hn2, ?_⟩
        · refine hset3.congr fun y => ?_
          rw [HSP.out, mem_addIf, List.mem_cons]
        · have b1 := HB1.out.size
          have s1 := HS.out.below.size
          have b2 := HS.out.below.grown hg2 s1 (fun j hj => by cases hj; exact b1)
          exact b2.grown hg3 b2.size (fun j hj => by cases hj; omega)
      have HF := hide hfin
      clear hs2 hn2 hg2 hset2 hset3 hg3 hfin hgne
      by_cases hm : id ∈ dl (ids.take k)
      · rw [decide_eq_true hm] at hlk ⊢
        clear hm
        go_wp2_with fail
        go_roundg (n - (k + 1))
        case measure => rw [HG.out]; omega
        case rel => exact ⟨k + 1, S', by omega, rfl, by go_num, HF.out⟩
      · rw [decide_eq_false hm] at hlk ⊢
        clear hm
        go_wp2_with fail
        go_roundg (n - (k + 1))
        case measure => rw [HG.out]; omega
        case rel => exact ⟨k + 1, S', by omega, rfl, by go_num, HF.out⟩
    · go_wp2_with fail
      go_ret
      exact Truth.mk HS.out.below

end Go.Proofs.Qxb6600860aMods
