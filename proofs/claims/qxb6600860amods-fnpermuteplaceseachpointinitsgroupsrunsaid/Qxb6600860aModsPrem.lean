/-
  THE WALK OF zzPermutePremise.
-/
import Derived.Test.Qxb6600860aModsClone
namespace Go.Proofs.Qxb6600860aMods
set_option linter.unusedVariables false
set_option linter.unusedSimpArgs false
open Go.RowKit

theorem bounds_u64' {n : Int} (h : (Lit.int .u64 n).wf = true) : 0 ≤ n ∧ n ≤ 18446744073709551615 := by
  have h1 : IntKind.u64.min = 0 := rfl
  have h2 : IntKind.u64.max = 18446744073709551615 := rfl
  simp only [Lit.wf, Bool.and_eq_true, decide_eq_true_eq] at h
  omega

/-- THE GROUP OF A POINT. -/
def keyOf (x : Int) (s : Nat) (p : Int) : Int := IntKind.u64.wrap (p / 2 ^ min s 64 - x)

theorem keyOf_nonneg (x : Int) (s : Nat) (p : Int) : 0 ≤ keyOf x s p := by
  unfold keyOf
  generalize p / 2 ^ min s 64 - x = y
  simp only [IntKind.wrap]
  have h1 : IntKind.u64.bits = 64 := rfl
  have h2 : IntKind.u64.signed = false := rfl
  simp only [h1, h2]
  have := Int.emod_nonneg y (show (2 : Int) ^ 64 ≠ 0 by decide)
  simpa using this

def cntTo (K : Int → Int) (P : Nat → Int) (lo k h : Nat) : Nat := (List.range' lo (k - lo)).countP (fun i => decide (K (P i) = (h : Int)))

theorem cntTo_succ (K : Int → Int) (P : Nat → Int) {lo k : Nat} (h : Nat) (hk : lo ≤ k) : cntTo K P lo (k + 1) h = cntTo K P lo k h + if K (P k) = (h : Int) then 1 else 0 := by
  unfold cntTo
  rw [range_split lo k (k + 1) hk (by omega), List.countP_append, show k + 1 - k = 1 by omega]
  simp [List.countP_cons]

theorem cntTo_le (K : Int → Int) (P : Nat → Int) (lo k h : Nat) : cntTo K P lo k h ≤ k - lo := by
  unfold cntTo
  have := List.countP_le_length (p := fun i => decide (K (P i) = (h : Int))) (l := List.range' lo (k - lo))
  rwa [List.length_range'] at this

def PremPost (K : Int → Int) (P : Nat → Int) (R : Nat → Nat) (n0 n1 n2 : Nat) (w : World) (e : Ending) (w' : World) : Prop :=
  ∃ r : Bool, e = .returned (.bool r) ∧ Below w.heap.size w w' ∧ (r = true → 0 < n2 ∧ R (n2 - 1) ≤ n0 ∧ R (n2 - 1) ≤ n1 ∧ Prem K (n2 - 1) R P)

/-- The counts so far. -/
def CntRel (w wr : World) (K : Int → Int) (P : Nat → Int) (lo G k : Nat) : Prop :=
  Below w.heap.size w wr ∧ wr.rowIs w.heap.size 27 G (fun h => .int .u32 ((cntTo K P lo k h : Nat) : Int)) ∧ ∀ i, lo ≤ i → i < k → ∃ h : Nat, h < G ∧ K (P i) = (h : Int)

theorem below_drewN (B : Nat) (w : World) (z : Nat) : Below B w (w.drewN z) := ⟨rfl, rfl, rfl, Nat.le_refl _, fun _ _ => rfl⟩

set_option maxHeartbeats 2000000 in
theorem prem_any (p0 p1 p2 : Option Addr) (n0 n1 n2 c0 c1 c2 : Nat) (P T : Nat → Int) (R : Nat → Nat) (x : Int) (s : Nat) (w : World) (b0 : n0 ≤ 1048576) (b1 : n1 ≤ 1048576) (b2 : n2 ≤ 1048576)
    (h0 : IntsF w .u64 p0 n0 P) (h1 : IntsF w .u32 p1 n1 T) (h2 : IntsF w .u32 p2 n2 (fun i => (R i : Int))) (hx : 0 ≤ x) (hx2 : x ≤ 18446744073709551615) (hs : s ≤ 65536) :
    Calls Trym.prog 22 #[.slice p0 n0 c0, .slice p1 n1 c1, .slice p2 n2 c2, .int .u64 x, .int .u64 s] w fun e w' => PremPost (keyOf x s) P R n0 n1 n2 w e w' := by
  have H0 := hide h0
  have H2 := hide h2
  clear h0 h1 h2
  obtain rfl | ⟨G, rfl⟩ : n2 = 0 ∨ ∃ G, n2 = G + 1 := by
    cases n2 with
    | zero => exact .inl rfl
    | succ G => exact .inr ⟨G, rfl⟩
  · go_enter Trym.func22, Trym.ntmps22
    go_wp2_with fail
    go_ret
    exact ⟨false, rfl, Below.refl _ _, fun h => by cases h⟩
  obtain ⟨b, o, rfl, hrc⟩ := H2.out.2.2 (by omega)
  have HRC := hide hrc
  clear hrc
  have HRB := hide (fun i => (bounds_u32 (H2.out.2.1 i)).2)
  have hmk := fun w => run_make_row' (P := Trym.prog) 22 27 (.int .u32 0) 4 Trym.underlying22 Trym.info27 rfl .i64 .i64 G (by omega) (by omega) w
  have hblt : b < w.heap.size := World.block_lt_of_cell? _ _ (HRC.out 0 (by omega))
  go_enter Trym.func22, Trym.ntmps22
  go_wp2_with fail
  go_loopg [12] G (fun gk i wr => ∃ (k z : Nat), k ≤ G ∧ gk = G - k ∧ i = .int .i64 k ∧ wr = w.drewN z ∧ ∀ h, h < k → R h ≤ R (h + 1))
  case atStart => exact ⟨0, 0, Nat.zero_le _, rfl, rfl, rfl, fun h hh => absurd hh (Nat.not_lt_zero h)⟩
  case round =>
    obtain ⟨k, z, hk, hgk, rfl, hwz, hmono⟩ := hrel
    have HG := hide hgk
    have HW := hide hwz
    have HMO := hide hmono
    clear hgk hmono
    by_cases hlt : k < G
    · obtain ⟨u, hu⟩ : ∃ u, R k = u := ⟨_, rfl⟩
      obtain ⟨v, hv⟩ : ∃ v, R (k + 1) = v := ⟨_, rfl⟩
      have c1 : wr.cell? ⟨b, o + k, none⟩ = some (.int .u32 u) := by rw [hwz, World.cell?_drewN, HRC.out k (by omega), hu]
      have c2 : wr.cell? ⟨b, o + (k + 1), none⟩ = some (.int .u32 v) := by rw [hwz, World.cell?_drewN, HRC.out (k + 1) (by omega), hv]
      have i1 : (0 : Int) ≤ (k : Int) := by omega
      have i2 : (k : Int) < (G : Int) := by omega
      by_cases huv : v < u
      · have HB : Hid (Below w.heap.size w wr) := hide (by rw [hwz]; exact below_drewN _ _ _)
        clear hu hv hwz
        go_wp2_with fail
        go_quiet (fail)
        go_wp2_with fail
        go_ret
        exact ⟨false, rfl, HB.out.trans (below_drewN _ _ _), fun h => by cases h⟩
      · have HST : Hid (∀ h, h < k + 1 → R h ≤ R (h + 1)) := hide (fun h hh => by
          by_cases e : h = k
          · subst e; omega
          · exact HMO.out h (by omega))
        clear hu hv hwz
        go_wp2_with fail
        go_quiet (fail)
        go_wp2_with fail
        go_roundg (G - (k + 1))
        case measure => rw [HG.out]; omega
        case rel => exact ⟨k + 1, z + nq, by omega, rfl, by go_num, by rw [HW.out]; exact World.drewN_drewN .., HST.out⟩
    · obtain rfl : k = G := by omega
      obtain ⟨lo, hlo⟩ : ∃ lo, R 0 = lo := ⟨_, rfl⟩
      obtain ⟨hi, hhi⟩ : ∃ hi, R k = hi := ⟨_, rfl⟩
      have hle : lo ≤ hi := by rw [← hlo, ← hhi]; exact mono_le HMO.out (Nat.zero_le _) (Nat.le_refl _)
      have c1 : wr.cell? ⟨b, o + k, none⟩ = some (.int .u32 hi) := by rw [hwz, World.cell?_drewN, HRC.out k (by omega), hhi]
      have c0 : wr.cell? ⟨b, o, none⟩ = some (.int .u32 lo) := by rw [hwz, World.cell?_drewN]; have := HRC.out 0 (by omega); rw [hlo] at this; exact this
      have HB : Hid (Below w.heap.size w wr) := hide (by rw [hwz]; exact below_drewN _ _ _)
      have hsz : wr.heap.size = w.heap.size := by rw [hwz]; rfl
      have HLO := hide hlo
      have HHI := hide hhi
      have hhb : hi ≤ 4294967295 := by have := HRB.out k; omega
      clear hlo hhi hwz
      by_cases t0 : n0 < hi
      · go_wp2_with fail
        go_ret
        exact ⟨false, rfl, HB.out, fun h => by cases h⟩
      by_cases t1 : n1 < hi
      · go_wp2_with fail
        go_ret
        exact ⟨false, rfl, HB.out, fun h => by cases h⟩
      have hst : CntRel w (wr.alloc (.cells (madeCells #[.int .u32 0] k) 27)) (keyOf x s) P lo k lo := by
        refine ⟨HB.out.alloc (by rw [hsz]; exact Nat.le_refl _) _, ?_, fun i h1 h2 => absurd h2 (by omega)⟩
        have := World.rowIs_made wr (.int .u32 0) k 27
        rw [hsz] at this
        exact this.congr fun i hi => by simp [cntTo]
      have HST := hide hst
      clear hst
      obtain ⟨wA, rfl⟩ : ∃ wA, wA = wr := ⟨_, rfl⟩
      go_wp2_with fail
      go_loopg [14] (hi - lo) (fun gk i wr => ∃ (j : Nat), lo ≤ j ∧ j ≤ hi ∧ gk = hi - j ∧ i = .int .u32 j ∧ CntRel w wr (keyOf x s) P lo k j)
      case atStart => exact ⟨lo, Nat.le_refl _, hle, rfl, rfl, HST.out⟩
      case round =>
        obtain ⟨j, hj1, hj2, hgk2, rfl, hcr⟩ := hrel
        have HG2 := hide hgk2
        have HCR := hide hcr
        clear hgk2 hcr
        have c1' : wr.cell? ⟨b, o + k, none⟩ = some (.int .u32 hi) := (HCR.out.1.cell (p := ⟨b, o + k, none⟩) hblt).trans ((HB.out.cell (p := ⟨b, o + k, none⟩) hblt).symm.trans c1)
        clear c0 c1
        by_cases hj : j < hi
        · obtain ⟨b0', o0, rfl, hpc⟩ := H0.out.2.2 (by omega)
          obtain ⟨v, hv⟩ : ∃ v, P j = v := ⟨_, rfl⟩
          have hb0 : b0' < w.heap.size := World.block_lt_of_cell? _ _ (hpc j (by omega))
          have c2 : wr.cell? ⟨b0', o0 + j, none⟩ = some (.int .u64 v) := by rw [HCR.out.1.cell (p := ⟨b0', o0 + j, none⟩) hb0, hpc j (by omega), hv]
          have hvb := bounds_u64' (H0.out.2.1 j)
          rw [hv] at hvb
          obtain ⟨hv0, hv1⟩ := hvb
          clear hpc
          obtain ⟨h, hh⟩ : ∃ h : Nat, keyOf x s v = (h : Int) := ⟨(keyOf x s v).toNat, by have := keyOf_nonneg x s v; omega⟩
          have hkey : IntKind.u64.wrap (v / 2 ^ min s 64 - x) = (h : Int) := hh
          have hKP : keyOf x s (P j) = (h : Int) := by rw [hv]; exact hh
          have HKP := hide hKP
          clear hh hKP hv
          by_cases hhk : h < k
          · obtain ⟨cv, hcv⟩ : ∃ cv, cntTo (keyOf x s) P lo j h = cv := ⟨_, rfl⟩
            have hcb := cntTo_le (keyOf x s) P lo j h
            rw [hcv] at hcb
            have g1 : wr.cell? ⟨w.heap.size, h, none⟩ = some (.int .u32 cv) := by rw [HCR.out.2.1.cell hhk, hcv]
            have g2 : wr.frozen? ⟨w.heap.size, h, none⟩ = false := HCR.out.2.1.frozen h
            have hstep : CntRel w (wr.setCell ⟨w.heap.size, h, none⟩ (.int .u32 ((cv : Int) + 1))) (keyOf x s) P lo k (j + 1) := by
              refine ⟨HCR.out.1.setCell (Nat.le_refl _) _, (HCR.out.2.1.set h _).congr fun i hi => ?_, fun i h1 h2 => ?_⟩
              · rw [cntTo_succ _ _ _ hj1, HKP.out]
                by_cases e : i = h
                · subst e; rw [if_pos rfl, if_pos rfl, hcv]; simp
                · rw [if_neg e, if_neg (by omega), Nat.add_zero]
              · by_cases e : i = j
                · subst e; exact ⟨h, hhk, HKP.out⟩
                · exact HCR.out.2.2 i h1 (by omega)
            have HSP := hide hstep
            clear hstep hcv
            go_wp2_with fail
            go_roundg (hi - (j + 1))
            case measure => rw [HG2.out]; omega
            case rel => exact ⟨j + 1, by omega, by omega, rfl, by go_num, HSP.out⟩
          · have HBF := hide HCR.out.1
            go_wp2_with fail
            go_ret
            exact ⟨false, rfl, HBF.out, fun h => by cases h⟩
        · obtain rfl : j = hi := by omega
          obtain ⟨wC, rfl⟩ : ∃ wC, wC = wr := ⟨_, rfl⟩
          go_wp2_with fail
          go_loopg [16] k (fun gk i wr => ∃ (g z : Nat), g ≤ k ∧ gk = k - g ∧ i = .int .i64 g ∧ wr = wC.drewN z ∧ ∀ h, h < g → cntTo (keyOf x s) P lo j h = R (h + 1) - R h)
          case atStart => exact ⟨0, 0, Nat.zero_le _, rfl, rfl, rfl, fun h hh => absurd hh (Nat.not_lt_zero h)⟩
          case round =>
            obtain ⟨g, z3, hg, hgk3, rfl, hwz3, hcs⟩ := hrel
            have HG3 := hide hgk3
            have HW3 := hide hwz3
            have HCS := hide hcs
            clear hgk3 hcs c1'
            by_cases hgl : g < k
            · obtain ⟨u, hu⟩ : ∃ u, R g = u := ⟨_, rfl⟩
              obtain ⟨v, hv⟩ : ∃ v, R (g + 1) = v := ⟨_, rfl⟩
              obtain ⟨cv, hcv⟩ : ∃ cv, cntTo (keyOf x s) P lo j g = cv := ⟨_, rfl⟩
              have huv : u ≤ v := by rw [← hu, ← hv]; exact HMO.out g hgl
              have hvb : v ≤ 4294967295 := by have := HRB.out (g + 1); omega
              have d1 : wr.cell? ⟨b, o + g, none⟩ = some (.int .u32 u) := by rw [hwz3, World.cell?_drewN, HCR.out.1.cell (p := ⟨b, o + g, none⟩) hblt, HRC.out g (by omega), hu]
              have d2 : wr.cell? ⟨b, o + (g + 1), none⟩ = some (.int .u32 v) := by rw [hwz3, World.cell?_drewN, HCR.out.1.cell (p := ⟨b, o + (g + 1), none⟩) hblt, HRC.out (g + 1) (by omega), hv]
              have d3 : wr.cell? ⟨w.heap.size, g, none⟩ = some (.int .u32 cv) := by rw [hwz3, World.cell?_drewN, HCR.out.2.1.cell hgl, hcv]
              have i1 : (0 : Int) ≤ (g : Int) := by omega
              have i2 : (g : Int) < (k : Int) := by omega
              have HBF : Hid (Below w.heap.size w wr) := hide (by rw [hwz3]; exact HCR.out.1.trans (below_drewN _ _ _))
              by_cases hne : cv = v - u
              · have e1 : ((cv : Int) != (v : Int) - (u : Int)) = false := by simp; omega
                have HSP : Hid (∀ h, h < g + 1 → cntTo (keyOf x s) P lo j h = R (h + 1) - R h) := hide (fun h hh => by
                  by_cases e : h = g
                  · subst e; omega
                  · exact HCS.out h (by omega))
                clear hu hv hcv hwz3 hne
                go_wp2_with fail
                go_quiet (fail)
                go_wp2_with fail
                go_roundg (k - (g + 1))
                case measure => rw [HG3.out]; omega
                case rel => exact ⟨g + 1, z3 + nq, by omega, rfl, by go_num, by rw [HW3.out]; exact World.drewN_drewN .., HSP.out⟩
              · have e1 : ((cv : Int) != (v : Int) - (u : Int)) = true := by simp; omega
                clear hu hv hcv hwz3 hne
                go_wp2_with fail
                go_quiet (fail)
                go_wp2_with fail
                go_ret
                exact ⟨false, rfl, HBF.out.trans (below_drewN _ _ _), fun h => by cases h⟩
            · have HBF : Hid (Below w.heap.size w wr) := hide (by rw [hwz3]; exact HCR.out.1.trans (below_drewN _ _ _))
              clear hwz3
              go_wp2_with fail
              go_ret
              refine ⟨true, rfl, HBF.out, fun _ => ⟨by omega, ?_, ?_, HMO.out, ?_, ?_⟩⟩
              · show R (k + 1 - 1) ≤ n0
                rw [Nat.add_sub_cancel, HHI.out]; omega
              · show R (k + 1 - 1) ≤ n1
                rw [Nat.add_sub_cancel, HHI.out]; omega
              · intro i h1 h2
                rw [HLO.out] at h1
                rw [Nat.add_sub_cancel, HHI.out] at h2
                exact HCR.out.2.2 i h1 h2
              · intro h hh
                rw [Nat.add_sub_cancel] at hh ⊢
                rw [HLO.out, HHI.out]
                exact HCS.out h (by omega)

end Go.Proofs.Qxb6600860aMods
