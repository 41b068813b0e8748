/-
  THE WALK OF zzSamePairs, where the pairs are the same.
-/
import Derived.Test.Qxb6600860aModsSort
namespace Go.Proofs.Qxb6600860aMods
set_option linter.unusedVariables false
set_option linter.unusedSimpArgs false
open Go.RowKit

theorem prs_shift (A B : Nat → Int) (lo m : Nat) : prs (fun i => A (lo + i)) (fun i => B (lo + i)) 0 m = prs A B lo (lo + m) := by
  unfold prs
  rw [Nat.sub_zero, show lo + m - lo = m by omega]
  apply List.ext_getElem
  · simp
  · intro i h1 h2
    simp

set_option maxRecDepth 100000 in
set_option maxHeartbeats 2000000 in
theorem same_any (p0 p1 p2 p3 : Option Addr) (n c0 c1 c2 c3 : Nat) (A B A' B' : Nat → Int) (w : World) (hn : n ≤ 1048576) (h0 : IntsF w .u64 p0 n A) (h1 : IntsF w .u32 p1 n B) (h2 : IntsF w .u64 p2 n A') (h3 : IntsF w .u32 p3 n B') (hp : (prs A B 0 n).Perm (prs A' B' 0 n)) :
    Calls Trym.prog 26 #[.slice p0 n c0, .slice p1 n c1, .slice p2 n c2, .slice p3 n c3] w fun e w' => Truth w e w' := by
  have t1 : ((n : Int) != (n : Int)) = false := by simp
  have H0 := hide h0
  have H1 := hide h1
  have H2 := hide h2
  have H3 := hide h3
  have HP := hide hp
  clear h0 h1 h2 h3 hp
  go_enter Trym.func26, Trym.ntmps26
  go_wp2_with fail
  refine (sort_any p0 p1 n c0 c1 A B w hn H0.out H1.out).mono ?_
  rintro e w1 ⟨ba, bb, X, Y, rfl, hb1, ra1, rb1, hs1, hp1⟩
  have HB1 := hide hb1
  have RA1 := hide ra1
  have RB1 := hide rb1
  have HS1 := hide hs1
  have HP1 := hide hp1
  clear hb1 ra1 rb1 hs1 hp1
  go_wp2_with fail
  refine (sort_any p2 p3 n c2 c3 A' B' w1 hn (H2.out.below HB1.out (Nat.le_refl _)) (H3.out.below HB1.out (Nat.le_refl _))).mono ?_
  rintro e w2 ⟨ba', bb', X', Y', rfl, hb2, ra2, rb2, hs2, hp2⟩
  have hsame : ∀ i, i < n → X i = X' i ∧ Y i = Y' i := fun i hi => sorted_same HS1.out hs2 ((HP1.out.trans HP.out).trans hp2.symm) hi
  have HSA := hide hsame
  have ra1' := RA1.out.of_block (hb2.block _ RA1.out.lt)
  have rb1' := RB1.out.of_block (hb2.block _ RB1.out.lt)
  have RA := hide ra1'
  have RB := hide rb1'
  have RA2 := hide ra2
  have RB2 := hide rb2
  have HB2 := hide (HB1.out.trans (hb2.mono HB1.out.size))
  clear hb2 ra2 rb2 hs2 hp2 hsame ra1' rb1' RA1 RB1 HP1 HS1 HB1 H0 H1 H2 H3 HP
  go_wp2_with fail
  go_loopg [13] n (fun gk i wr => ∃ (k z : Nat), k ≤ n ∧ gk = n - k ∧ i = .int .i64 k ∧ wr = w2.drewN z)
  case atStart => exact ⟨0, 0, Nat.zero_le _, rfl, rfl, rfl⟩
  case round =>
    obtain ⟨k, z, hk, hgk, rfl, hwz⟩ := hrel
    have HG := hide hgk
    have HW := hide hwz
    clear hgk
    by_cases hlt : k < n
    · obtain ⟨v, hv⟩ : ∃ v, X' k = v := ⟨_, rfl⟩
      obtain ⟨u, hu⟩ : ∃ u, Y' k = u := ⟨_, rfl⟩
      have hs := HSA.out k hlt
      have y1 : wr.cell? ⟨ba, k, none⟩ = some (.int .u64 v) := by rw [hwz, World.cell?_drewN, RA.out.cell hlt, hs.1, hv]
      have y2 : wr.cell? ⟨ba', k, none⟩ = some (.int .u64 v) := by rw [hwz, World.cell?_drewN, RA2.out.cell hlt, hv]
      have y3 : wr.cell? ⟨bb, k, none⟩ = some (.int .u32 u) := by rw [hwz, World.cell?_drewN, RB.out.cell hlt, hs.2, hu]
      have y4 : wr.cell? ⟨bb', k, none⟩ = some (.int .u32 u) := by rw [hwz, World.cell?_drewN, RB2.out.cell hlt, hu]
      have i1 : (0 : Int) ≤ (k : Int) := by omega
      have i2 : (k : Int) < (n : Int) := by omega
      have e1 : (v != v) = false := by simp
      have e2 : (u != u) = false := by simp
      clear hv hu hwz hs
      go_wp2_with fail
      go_quiet (fail)
      go_wp2_with fail
      go_roundg (n - (k + 1))
      case measure => rw [HG.out]; omega
      case rel => exact ⟨k + 1, z + nq, by omega, rfl, by go_num, by rw [HW.out]; exact World.drewN_drewN ..⟩
    · clear hwz
      go_wp2_with fail
      go_ret
      rw [HW.out]
      exact Truth.mk (HB2.out.trans (below_drewN _ _ _))

end Go.Proofs.Qxb6600860aMods
