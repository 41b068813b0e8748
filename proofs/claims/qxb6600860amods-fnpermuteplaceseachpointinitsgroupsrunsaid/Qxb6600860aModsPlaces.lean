/-
  THE WALK OF 'FnPermutePlacesEachPointInItsGroupsRun'.
-/
import Derived.Test.Qxb6600860aModsLaid
import Derived.Test.Qxb6600860aModsSame
import Derived.Deep.RegionHeld3
namespace Go.Proofs.Qxb6600860aMods
set_option linter.unusedVariables false
set_option linter.unusedSimpArgs false
open Go.RowKit

theorem wf_u32_nat' {n : Nat} (h : n ≤ 4294967295) : (Lit.int .u32 (n : Int)).wf = true := by
  have h1 : IntKind.u32.min = 0 := rfl
  have h2 : IntKind.u32.max = 4294967295 := rfl
  simp only [Lit.wf, Bool.and_eq_true, decide_eq_true_eq]
  omega

theorem Row.cut {w : World} {b : Nat} {ty : TypeId} {k : IntKind} {p : Option Addr} {n lo hi : Nat} {f : Nat → Int} (h : Row w b ty k p n f) (h1 : lo ≤ hi) (h2 : hi ≤ n) (hn : n ≤ 9223372036854775807) (hw : ∀ i, (Lit.int k (f i)).wf = true)
    (q : Option Addr) (hq : ¬ n = lo → q = Option.map (fun x => x.add lo) p) : IntsF w k q (hi - lo) (fun i => f (lo + i)) := by
  refine ⟨by omega, fun i => hw _, fun h0 => ?_⟩
  rcases h with ⟨_, h3⟩ | ⟨h3, h4⟩
  · omega
  · rw [hq (by omega), h3]
    refine ⟨b, lo, ?_, fun i hi => h4.cell (by omega)⟩
    show some ((⟨b, 0, none⟩ : Addr).add lo) = some ⟨b, lo, none⟩
    congr 1
    unfold Addr.add
    split <;> simp_all

theorem IntsF.drawn {w w' : World} {z : Nat} {k : IntKind} {p : Option Addr} {n : Nat} {f : Nat → Int} (h : IntsF w k p n f) (hw : w' = w.drewN z) : IntsF w'.drew k p n f := by
  subst hw
  exact h

set_option maxRecDepth 100000 in
set_option maxHeartbeats 4000000 in
theorem walk7 (p0 p1 p2 p5 : Option Addr) (n0 n1 n2 n5 c0 c1 c2 c5 : Nat) (P T X : Nat → Int) (R : Nat → Nat) (x y : Int) (w : World)
    (h0 : IntsF w .u64 p0 n0 P) (h1 : IntsF w .u32 p1 n1 T) (h2 : IntsF w .u32 p2 n2 (fun i => (R i : Int))) (h5 : IntsF w .u32 p5 n5 X) (hx : 0 ≤ x) (hx2 : x ≤ 18446744073709551615) (hy : 0 ≤ y) (hy2 : y ≤ 18446744073709551615) :
    Calls Trym.prog 7 #[.slice p0 n0 c0, .slice p1 n1 c1, .slice p2 n2 c2, .int .u64 x, .int .u64 y, .slice p5 n5 c5] w fun e w' => Truth w e w' := by
  have m0 := h0.1
  have m1 := h1.1
  have m2 := h2.1
  have m5 := h5.1
  have H0 := hide h0
  have H1 := hide h1
  have H2 := hide h2
  have H5 := hide h5
  clear h0 h1 h2 h5
  go_enter Trym.func7, Trym.ntmps7
  go_wp2_with fail
  refine (bytes21 p0 p1 p2 p5 n0 n1 n2 n5 c0 c1 c2 c5 x y w m0 m1 m2 m5).mono ?_
  rintro e w' ⟨r, rfl, hw, hsum⟩
  rw [hw]; clear hw w'
  cases r with
  | false =>
    clear hsum
    go_wp2_with fail
    go_ret
    exact Truth.mk (Below.refl _ _)
  | true =>
  have hsum := hsum rfl
  by_cases t0 : 131072 < n0
  · go_wp2_with fail
    go_ret
    exact Truth.mk (Below.refl _ _)
  by_cases t1 : 262144 < n1
  · go_wp2_with fail
    go_ret
    exact Truth.mk (Below.refl _ _)
  by_cases t2 : 262144 < n2
  · go_wp2_with fail
    go_ret
    exact Truth.mk (Below.refl _ _)
  by_cases t5 : 262144 < n5
  · go_wp2_with fail
    go_ret
    exact Truth.mk (Below.refl _ _)
  by_cases tt : 1048576 < 8 * n0 + 4 * (n1 + n2 + n5)
  · go_wp2_with fail
    go_ret
    exact Truth.mk (Below.refl _ _)
  by_cases ty : 65536 < y
  · go_wp2_with fail
    go_ret
    exact Truth.mk (Below.refl _ _)
  obtain ⟨s, rfl⟩ : ∃ s : Nat, y = s := ⟨y.toNat, by omega⟩
  have hs : s ≤ 65536 := by omega
  go_wp2_with fail
  refine (prem_any p0 p1 p2 n0 n1 n2 c0 c1 c2 P T R x s w (by omega) (by omega) (by omega) H0.out H1.out H2.out hx hx2 hs).mono ?_
  rintro e w1 ⟨r, rfl, hb1, hprem⟩
  have HB1 := hide hb1
  have HPR := hide hprem
  clear hb1 hprem
  cases r with
  | false =>
    go_wp2_with fail
    go_ret
    exact Truth.mk HB1.out
  | true =>
  obtain ⟨hn2, hr0, hr1, hp⟩ := HPR.out rfl
  obtain ⟨G, rfl⟩ : ∃ G, n2 = G + 1 := ⟨n2 - 1, by omega⟩
  rw [Nat.add_sub_cancel] at hr0 hr1 hp
  have HP := hide hp
  have HR0 := hide hr0
  have HR1 := hide hr1
  have HRB : Hid (∀ i, R i ≤ 4294967295) := hide (fun i => by have h : ((R i : Nat) : Int) ≤ 4294967295 := (bounds_u32 (H2.out.2.1 i)).2; omega)
  clear hp HPR hr0 hr1 hn2
  go_wp2_with fail
  refine (clone64_any p0 n0 c0 P w1 (by omega) (H0.out.below HB1.out (Nat.le_refl _))).mono ?_
  rintro e w2 ⟨q0, rfl, hb2, hr0⟩
  have HB2 := hide hb2
  have HR2 := hide hr0
  clear hb2 hr0
  go_wp2_with fail
  refine (clone32_any p1 n1 c1 T w2 (by omega) ((H1.out.below HB1.out (Nat.le_refl _)).below HB2.out (Nat.le_refl _))).mono ?_
  rintro e w3 ⟨q1, rfl, hb3, hr1⟩
  have HB3 := hide hb3
  have HR3 := hide hr1
  clear hb3 hr1
  go_wp2_with fail
  refine (clone32_any p2 (G + 1) c2 (fun i => (R i : Int)) w3 (by omega) (((H2.out.below HB1.out (Nat.le_refl _)).below HB2.out (Nat.le_refl _)).below HB3.out (Nat.le_refl _))).mono ?_
  rintro e w4 ⟨q2, rfl, hb4, hr2⟩
  have HB4 := hide hb4
  have HR4 := hide hr2
  clear hb4 hr2
  go_wp2_with fail
  refine (clone32_any p5 n5 c5 X w4 (by omega) ((((H5.out.below HB1.out (Nat.le_refl _)).below HB2.out (Nat.le_refl _)).below HB3.out (Nat.le_refl _)).below HB4.out (Nat.le_refl _))).mono ?_
  rintro e w5 ⟨q5, rfl, hb5, hr5⟩
  obtain ⟨rfl, hlaid⟩ := Laid.start HB1.out HB2.out HR2.out HB3.out HR3.out HB4.out HR4.out hb5 hr5
  have hs4 : w.heap.size ≤ w4.heap.size := by have := HB1.out.size; have := HB2.out.size; have := HB3.out.size; have := HB4.out.size; omega
  obtain ⟨ys, hys⟩ := hr5.owns hs4 (show n5 ≤ 1048576 by omega)
  obtain ⟨a0, ha0⟩ : ∃ a, a = w1.heap.size := ⟨_, rfl⟩
  obtain ⟨a1, ha1⟩ : ∃ a, a = w2.heap.size := ⟨_, rfl⟩
  obtain ⟨a2, ha2⟩ : ∃ a, a = w3.heap.size := ⟨_, rfl⟩
  rw [← ha0, ← ha1, ← ha2] at hlaid
  rw [← ha2]
  have HLA := hide hlaid
  have HYS := hide hys
  clear hlaid hys hb5 hr5 ha0 ha1 ha2 hs4 HB1 HB2 HB3 HB4 HR2 HR3 HR4
  have WP : Hid (∀ i, (Lit.int .u64 (P i)).wf = true) := hide H0.out.2.1
  have WT : Hid (∀ i, (Lit.int .u32 (T i)).wf = true) := hide H1.out.2.1
  clear H0 H1 H2 H5
  go_wp2_with fail
  refine (clone64_any q0 n0 n0 P w5 (by omega) (HLA.out.pos.ints m0 WP.out)).mono ?_
  rintro e w6 ⟨o0, rfl, hb6, hr6⟩
  have hl6 := HLA.out.keep hb6
  have HL6 := hide hl6
  have HB6 := hide hb6
  have HR6 := hide hr6
  clear hl6 hb6 hr6
  go_wp2_with fail
  refine (clone32_any q1 n1 n1 T w6 (by omega) (HL6.out.tags.ints m1 WT.out)).mono ?_
  rintro e w7 ⟨o1, rfl, hb7, hr7⟩
  have hl7 := HL6.out.keep hb7
  have HL7 := hide hl7
  have HB7 := hide hb7
  have HR7 := hide hr7
  clear hl7 hb7 hr7
  have hown7 := owns_keep (owns_keep HYS.out (fun g _ hg => HB6.out.block g hg)) (fun g _ hg => HB7.out.block g hg)
  have HO7 := hide hown7
  clear hown7
  go_wp2_with fail
  refine (zzpermute_any a0 a1 a2 w.heap.size q0 q1 n0 n1 G P T R x s q5 n5 n5 ys w7 (by omega) (by omega) (by omega) hx hx2 hs HL7.out.below.size HP.out HR0.out HR1.out WP.out WT.out HRB.out HL7.out.pos HL7.out.tags HL7.out.runs HO7.out HL7.out.d1 HL7.out.d2 HL7.out.d3).mono ?_
  intro e w8 hpost
  obtain ⟨p8, cap8, P', T', N', rfl, hown8, hlaid8, hfl8, hN8, hsz8, hblk8⟩ := HL7.out.after (base := 0) HO7.out hpost
  have hlt5 : ∀ {b : Nat}, (Value.slice q5 n5 n5).ownBlock = some b → b < w5.heap.size := fun h => (owns_lt HYS.out h).2
  have hs56 := HB6.out.size
  have hs67 := HB7.out.size
  have hin0 : Row w8 w5.heap.size 35 .u64 o0 n0 P := by
    refine (HR6.out.below HB7.out (Nat.le_refl _)).keep fun _ hb => hblk8 _ hb (fun hq => ?_) (fun hq => ?_) (fun h => ?_)
    · have := HLA.out.pos.lt hq; omega
    · have := HLA.out.tags.lt hq; omega
    · have := hlt5 h; omega
  have hin1 : Row w8 w6.heap.size 27 .u32 o1 n1 T := by
    refine HR7.out.keep fun _ hb => hblk8 _ hb (fun hq => ?_) (fun hq => ?_) (fun h => ?_)
    · have := HLA.out.pos.lt hq; omega
    · have := HLA.out.tags.lt hq; omega
    · have := hlt5 h; omega
  obtain ⟨u0, hu0⟩ : ∃ u, u = w5.heap.size := ⟨_, rfl⟩
  obtain ⟨u1, hu1⟩ : ∃ u, u = w6.heap.size := ⟨_, rfl⟩
  rw [← hu0] at hin0
  rw [← hu1] at hin1
  have HL8 := hide hlaid8
  have HU0 := hide hin0
  have HU1 := hide hin1
  have HF := hide hfl8
  have HIP := hide (hfl8.done hN8)
  have HALL := hide (hfl8.all (fun z => (Lit.int .u64 z).wf = true) (fun z => (Lit.int .u32 z).wf = true) WP.out WT.out)
  have he1 := owns_ints hown8 (by omega) (fun i => wf_u32_nat' (HRB.out (i + 1)))
  have he2 : IntsF w8 .u32 (some ⟨a2, 0, none⟩) (G + 1) (fun i => (R i : Int)) := ⟨by omega, fun i => wf_u32_nat' (HRB.out i), fun _ => ⟨a2, 0, rfl, fun i hi => by rw [Nat.zero_add]; exact hlaid8.runs.cell hi⟩⟩
  have HE1 := hide he1
  have HE2 := hide he2
  clear hin0 hin1 hown8 hlaid8 hfl8 hN8 hsz8 hblk8 hpost he1 he2 hu0 hu1 hs56 hs67 HLA HL6 HL7 HB6 HB7 HR6 HR7 HYS HO7
  go_wp2_with fail
  refine (ends_any p8 (some ⟨a2, 0, none⟩) G cap8 (G + 1) (fun i => ((R (i + 1) : Nat) : Int)) (fun i => (R i : Int)) w8 (by omega) HE1.out HE2.out (fun h _ => rfl)).mono ?_
  rintro e wA ⟨rfl, z, hz⟩
  obtain ⟨lo, hlo⟩ : ∃ lo, R 0 = lo := ⟨_, rfl⟩
  obtain ⟨hi, hhi⟩ : ∃ hi, R G = hi := ⟨_, rfl⟩
  have r0 : wA.cell? ⟨a2, 0, none⟩ = some (.int .u32 lo) := by rw [hz, World.cell?_drewN, HL8.out.runs.cell (by omega), hlo]
  have r1 : wA.cell? ⟨a2, G, none⟩ = some (.int .u32 hi) := by rw [hz, World.cell?_drewN, HL8.out.runs.cell (by omega), hhi]
  have hle : lo ≤ hi := by rw [← hlo, ← hhi]; exact mono_le HP.out.mono (Nat.zero_le _) (Nat.le_refl _)
  have hh0 : hi ≤ n0 := by rw [← hhi]; exact HR0.out
  have hh1 : hi ≤ n1 := by rw [← hhi]; exact HR1.out
  have HLO := hide hlo
  have HHI := hide hhi
  have HZ := hide hz
  clear hz HE1 HE2 hlo hhi
  go_wp2_with fail
  go_loopg [19] n0 (fun gk i wr => ∃ (k z : Nat), k ≤ n0 ∧ gk = n0 - k ∧ i = .int .i64 k ∧ wr = w8.drewN z)
  case atStart => exact ⟨0, z, Nat.zero_le _, rfl, rfl, HZ.out⟩
  case round =>
    clear r0 r1
    obtain ⟨k, z1, hk, hgk, rfl, hwz⟩ := hrel
    have HG := hide hgk
    have HW := hide hwz
    clear hgk
    by_cases hlt : k < n0
    · obtain ⟨b, o, hq0, hc1⟩ := (HL8.out.pos.ints m0 (fun i => (HALL.out i).1)).2.2 (by omega)
      obtain ⟨b', o', ho0, hc2⟩ := (HU0.out.ints m0 WP.out).2.2 (by omega)
      subst hq0 ho0
      obtain ⟨v, hv⟩ : ∃ v, P k = v := ⟨_, rfl⟩
      by_cases hout : k < lo ∨ hi ≤ k
      · have hsm := (HF.out.out k (by rw [HLO.out, HHI.out]; exact hout)).1
        have e1' : wr.cell? ⟨b, o + k, none⟩ = some (.int .u64 v) := by rw [hwz, World.cell?_drewN, hc1 k hlt, hsm, hv]
        have e2' : wr.cell? ⟨b', o' + k, none⟩ = some (.int .u64 v) := by rw [hwz, World.cell?_drewN, hc2 k hlt, hv]
        have i1 : (0 : Int) ≤ (k : Int) := by omega
        have i2 : (k : Int) < (n0 : Int) := by omega
        have e1 : (v != v) = false := by simp
        clear hv hwz hc1 hc2 hsm
        by_cases hkl : k < lo
        · clear hout
          go_wp2_with fail
          go_quiet (fail)
          go_wp2_with fail
          go_roundg (n0 - (k + 1))
          case measure => rw [HG.out]; omega
          case rel => exact ⟨k + 1, z1 + nq, by omega, rfl, by go_num, by rw [HW.out]; exact World.drewN_drewN ..⟩
        · have hkh : hi ≤ k := by omega
          clear hout
          go_wp2_with fail
          go_quiet (fail)
          go_wp2_with fail
          go_roundg (n0 - (k + 1))
          case measure => rw [HG.out]; omega
          case rel => exact ⟨k + 1, z1 + nq, by omega, rfl, by go_num, by rw [HW.out]; exact World.drewN_drewN ..⟩
      · have hkl : ¬ k < lo := by omega
        have hkh : ¬ hi ≤ k := by omega
        clear hv hwz hc1 hc2 hout
        go_wp2_with fail
        go_quiet (fail)
        go_wp2_with fail
        go_roundg (n0 - (k + 1))
        case measure => rw [HG.out]; omega
        case rel => exact ⟨k + 1, z1 + nq, by omega, rfl, by go_num, by rw [HW.out]; exact World.drewN_drewN ..⟩
    · clear hwz
      go_wp2_with fail
      go_loopg [20] n1 (fun gk i wr => ∃ (k z : Nat), k ≤ n1 ∧ gk = n1 - k ∧ i = .int .i64 k ∧ wr = w8.drewN z)
      case atStart => exact ⟨0, z1, Nat.zero_le _, rfl, rfl, HW.out⟩
      case round =>
        clear HW HG hlt hk
        obtain ⟨k, z1, hk, hgk, rfl, hwz⟩ := hrel
        have HG := hide hgk
        have HW := hide hwz
        clear hgk
        by_cases hlt : k < n1
        · obtain ⟨b, o, hq1, hc1⟩ := (HL8.out.tags.ints m1 (fun i => (HALL.out i).2)).2.2 (by omega)
          obtain ⟨b', o', ho1, hc2⟩ := (HU1.out.ints m1 WT.out).2.2 (by omega)
          subst hq1 ho1
          obtain ⟨v, hv⟩ : ∃ v, T k = v := ⟨_, rfl⟩
          by_cases hout : k < lo ∨ hi ≤ k
          · have hsm := (HF.out.out k (by rw [HLO.out, HHI.out]; exact hout)).2
            have e1' : wr.cell? ⟨b, o + k, none⟩ = some (.int .u32 v) := by rw [hwz, World.cell?_drewN, hc1 k hlt, hsm, hv]
            have e2' : wr.cell? ⟨b', o' + k, none⟩ = some (.int .u32 v) := by rw [hwz, World.cell?_drewN, hc2 k hlt, hv]
            have i1 : (0 : Int) ≤ (k : Int) := by omega
            have i2 : (k : Int) < (n1 : Int) := by omega
            have e1 : (v != v) = false := by simp
            clear hv hwz hc1 hc2 hsm
            by_cases hkl : k < lo
            · clear hout
              go_wp2_with fail
              go_quiet (fail)
              go_wp2_with fail
              go_roundg (n1 - (k + 1))
              case measure => rw [HG.out]; omega
              case rel => exact ⟨k + 1, z1 + nq, by omega, rfl, by go_num, by rw [HW.out]; exact World.drewN_drewN ..⟩
            · have hkh : hi ≤ k := by omega
              clear hout
              go_wp2_with fail
              go_quiet (fail)
              go_wp2_with fail
              go_roundg (n1 - (k + 1))
              case measure => rw [HG.out]; omega
              case rel => exact ⟨k + 1, z1 + nq, by omega, rfl, by go_num, by rw [HW.out]; exact World.drewN_drewN ..⟩
          · have hkl : ¬ k < lo := by omega
            have hkh : ¬ hi ≤ k := by omega
            clear hv hwz hc1 hc2 hout
            go_wp2_with fail
            go_quiet (fail)
            go_wp2_with fail
            go_roundg (n1 - (k + 1))
            case measure => rw [HG.out]; omega
            case rel => exact ⟨k + 1, z1 + nq, by omega, rfl, by go_num, by rw [HW.out]; exact World.drewN_drewN ..⟩
        · clear hwz
          obtain ⟨wQ, rfl⟩ : ∃ wQ, wQ = wr := ⟨_, rfl⟩
          have HWQ : Hid (wQ = w8.drewN z1) := HW
          clear HW HG
          go_wp2_with fail
          go_loopg [21] G (fun gk i wr => ∃ (g : Nat), g ≤ G ∧ gk = G - g ∧ i = .int .i64 g ∧ wr = wQ)
          case atStart => exact ⟨0, Nat.zero_le _, rfl, rfl, rfl⟩
          case round =>
            obtain ⟨g, hg, hgk, rfl, hwr⟩ := hrel
            rw [hwr]
            clear hwr
            have HG := hide hgk
            clear hgk
            by_cases hgG : g < G
            · obtain ⟨c, hc⟩ : ∃ c, R g = c := ⟨_, rfl⟩
              obtain ⟨d, hd⟩ : ∃ d, R (g + 1) = d := ⟨_, rfl⟩
              have y1 : wQ.cell? ⟨a2, g, none⟩ = some (.int .u32 c) := by rw [HWQ.out, World.cell?_drewN, HL8.out.runs.cell (by omega), hc]
              have y2 : wQ.cell? ⟨a2, g + 1, none⟩ = some (.int .u32 d) := by rw [HWQ.out, World.cell?_drewN, HL8.out.runs.cell (by omega), hd]
              have hcd : c ≤ d := by rw [← hc, ← hd]; exact HP.out.mono g hgG
              have hdh : d ≤ hi := by rw [← hd, ← HHI.out]; exact mono_le HP.out.mono (by omega) (Nat.le_refl _)
              have HC := hide hc
              have HD := hide hd
              clear hc hd
              go_wp2_with fail
              go_loopg [22] (d - c) (fun gk i wr => ∃ (j : Nat), c ≤ j ∧ j ≤ d ∧ gk = d - j ∧ i = .int .u32 j ∧ wr = wQ)
              case atStart => exact ⟨c, Nat.le_refl _, hcd, rfl, rfl, rfl⟩
              case round =>
                obtain ⟨j, hj1, hj2, hgk2, rfl, hwr⟩ := hrel
                rw [hwr]
                clear hwr y1
                have HG2 := hide hgk2
                clear hgk2
                by_cases hjd : j < d
                · obtain ⟨b, o, hq0, hc1⟩ := (HL8.out.pos.ints m0 (fun i => (HALL.out i).1)).2.2 (by omega)
                  obtain ⟨v, hv⟩ : ∃ v, P' j = v := ⟨_, rfl⟩
                  have e1' : wQ.cell? ⟨b, o + j, none⟩ = some (.int .u64 v) := by rw [HWQ.out, World.cell?_drewN, hc1 j (by omega), hv]
                  have hvb := bounds_u64' (HALL.out j).1
                  rw [hv] at hvb
                  obtain ⟨hv0, hv1⟩ := hvb
                  have hkk := HIP.out g hgG j (by rw [HC.out]; exact hj1) (by rw [HD.out]; exact hjd)
                  rw [hv] at hkk
                  have hkey : IntKind.u64.wrap (v / 2 ^ min s 64 - x) = (g : Int) := hkk
                  have e1 : ((g : Int) != (g : Int)) = false := by simp
                  have hjn : j < n0 := by omega
                  subst hq0
                  clear hv hkk hc1
                  go_wp2_with fail
                  go_roundg (d - (j + 1))
                  case measure => rw [HG2.out]; omega
                  case rel => exact ⟨j + 1, by omega, by omega, rfl, by go_num, rfl⟩
                · go_wp2_with fail
                  go_roundg (G - (g + 1))
                  case measure => rw [HG.out]; omega
                  case rel => exact ⟨g + 1, by omega, rfl, by go_num, rfl⟩
            · have k1 : (0 : Int) ≤ (lo : Int) := by omega
              have k2 : (lo : Int) ≤ (hi : Int) := by omega
              have k3 : (hi : Int) ≤ (n0 : Int) := by omega
              have k4 : (hi : Int) ≤ (n1 : Int) := by omega
              have hel : lo + (hi - lo) = hi := by omega
              obtain ⟨r0, hr0⟩ : ∃ r, (if n0 = lo then o0 else Option.map (fun x => x.add lo) o0) = r := ⟨_, rfl⟩
              have C0 : Hid (IntsF wQ.drew .u64 r0 (hi - lo) (fun i => P (lo + i))) := hide ((HU0.out.cut hle hh0 m0 WP.out r0 (fun h => by rw [← hr0, if_neg h])).drawn HWQ.out)
              obtain ⟨r1, hr1⟩ : ∃ r, (if n1 = lo then o1 else Option.map (fun x => x.add lo) o1) = r := ⟨_, rfl⟩
              have C1 : Hid (IntsF wQ.drew .u32 r1 (hi - lo) (fun i => T (lo + i))) := hide ((HU1.out.cut hle hh1 m1 WT.out r1 (fun h => by rw [← hr1, if_neg h])).drawn HWQ.out)
              obtain ⟨r2, hr2⟩ : ∃ r, (if n0 = lo then q0 else Option.map (fun x => x.add lo) q0) = r := ⟨_, rfl⟩
              have C2 : Hid (IntsF wQ.drew .u64 r2 (hi - lo) (fun i => P' (lo + i))) := hide ((HL8.out.pos.cut hle hh0 m0 (fun i => (HALL.out i).1) r2 (fun h => by rw [← hr2, if_neg h])).drawn HWQ.out)
              obtain ⟨r3, hr3⟩ : ∃ r, (if n1 = lo then q1 else Option.map (fun x => x.add lo) q1) = r := ⟨_, rfl⟩
              have C3 : Hid (IntsF wQ.drew .u32 r3 (hi - lo) (fun i => T' (lo + i))) := hide ((HL8.out.tags.cut hle hh1 m1 (fun i => (HALL.out i).2) r3 (fun h => by rw [← hr3, if_neg h])).drawn HWQ.out)
              have CP : Hid ((prs (fun i => P (lo + i)) (fun i => T (lo + i)) 0 (hi - lo)).Perm (prs (fun i => P' (lo + i)) (fun i => T' (lo + i)) 0 (hi - lo))) := hide (by
                rw [prs_shift, prs_shift, hel]
                have h := HF.out.perm
                rw [HLO.out, HHI.out] at h
                exact h.symm)
              have HBQ : Hid (Below w.heap.size w wQ.drew) := hide (HL8.out.below.trans (by rw [HWQ.out]; exact ⟨rfl, rfl, rfl, Nat.le_refl _, fun _ _ => rfl⟩))
              have CM : Hid (hi - lo ≤ 1048576) := hide (by omega)
              clear hel
              go_wp2_with fail
              go_region_with (go_at_call 26; refine Calls.mono (same_any r0 r1 r2 r3 (hi - lo) _ _ _ _ (fun i => P (lo + i)) (fun i => T (lo + i)) (fun i => P' (lo + i)) (fun i => T' (lo + i)) _ CM.out C0.out C1.out C2.out C3.out CP.out) ?_; rintro e wZ ⟨rfl, hbz⟩; have HBZ : Hid (Below w.heap.size w wZ) := hide (HBQ.out.trans (hbz.mono HBQ.out.size)); clear hbz)
              go_wp2_with fail
              go_ret
              exact Truth.mk HBZ.out

end Go.Proofs.Qxb6600860aMods
