/-
  THE WALK OF 'FnPermuteAgainMovesNothing'.
-/
import Derived.Test.Qxb6600860aModsLaid
namespace Go.Proofs.Qxb6600860aMods
set_option linter.unusedVariables false
set_option linter.unusedSimpArgs false
open Go.RowKit

theorem wf_u32_nat {n : Nat} (h : n ≤ 4294967295) : (Lit.int .u32 (n : Int)).wf = true := by
  have h1 : IntKind.u32.min = 0 := rfl
  have h2 : IntKind.u32.max = 4294967295 := rfl
  simp only [Lit.wf, Bool.and_eq_true, decide_eq_true_eq]
  omega

set_option maxRecDepth 100000 in
set_option maxHeartbeats 4000000 in
theorem walk8 (p0 p1 p2 p5 : Option Addr) (n0 n1 n2 n5 c0 c1 c2 c5 : Nat) (P T X : Nat → Int) (R : Nat → Nat) (x y : Int) (w : World)
    (h0 : IntsF w .u64 p0 n0 P) (h1 : IntsF w .u32 p1 n1 T) (h2 : IntsF w .u32 p2 n2 (fun i => (R i : Int))) (h5 : IntsF w .u32 p5 n5 X) (hx : 0 ≤ x) (hx2 : x ≤ 18446744073709551615) (hy : 0 ≤ y) (hy2 : y ≤ 18446744073709551615) :
    Calls Trym.prog 8 #[.slice p0 n0 c0, .slice p1 n1 c1, .slice p2 n2 c2, .int .u64 x, .int .u64 y, .slice p5 n5 c5] w fun e w' => Truth w e w' := by
  have m0 := h0.1
  have m1 := h1.1
  have m2 := h2.1
  have m5 := h5.1
  have H0 := hide h0
  have H1 := hide h1
  have H2 := hide h2
  have H5 := hide h5
  clear h0 h1 h2 h5
  go_enter Trym.func8, Trym.ntmps8
  go_wp2_with fail
  refine (bytes27 p0 p1 p2 p5 n0 n1 n2 n5 c0 c1 c2 c5 x y w m0 m1 m2 m5).mono ?_
  rintro e w' ⟨r, rfl, hw, hsum⟩
  rw [hw]; clear hw w'
  cases r with
  | false =>
    clear hsum
    go_wp2_with fail
    go_ret
    exact Truth.mk (Below.refl _ _)
  | true =>
  have hsum := hsum rfl
  by_cases t0 : 131072 < n0
  · go_wp2_with fail
    go_ret
    exact Truth.mk (Below.refl _ _)
  by_cases t1 : 262144 < n1
  · go_wp2_with fail
    go_ret
    exact Truth.mk (Below.refl _ _)
  by_cases t2 : 262144 < n2
  · go_wp2_with fail
    go_ret
    exact Truth.mk (Below.refl _ _)
  by_cases t5 : 262144 < n5
  · go_wp2_with fail
    go_ret
    exact Truth.mk (Below.refl _ _)
  by_cases tt : 1048576 < 8 * n0 + 4 * (n1 + n2 + n5)
  · go_wp2_with fail
    go_ret
    exact Truth.mk (Below.refl _ _)
  by_cases ty : 65536 < y
  · go_wp2_with fail
    go_ret
    exact Truth.mk (Below.refl _ _)
  obtain ⟨s, rfl⟩ : ∃ s : Nat, y = s := ⟨y.toNat, by omega⟩
  have hs : s ≤ 65536 := by omega
  go_wp2_with fail
  refine (prem_any p0 p1 p2 n0 n1 n2 c0 c1 c2 P T R x s w (by omega) (by omega) (by omega) H0.out H1.out H2.out hx hx2 hs).mono ?_
  rintro e w1 ⟨r, rfl, hb1, hprem⟩
  have HB1 := hide hb1
  have HPR := hide hprem
  clear hb1 hprem
  cases r with
  | false =>
    go_wp2_with fail
    go_ret
    exact Truth.mk HB1.out
  | true =>
  obtain ⟨hn2, hr0, hr1, hp⟩ := HPR.out rfl
  obtain ⟨G, rfl⟩ : ∃ G, n2 = G + 1 := ⟨n2 - 1, by omega⟩
  rw [Nat.add_sub_cancel] at hr0 hr1 hp
  have HP := hide hp
  have HR0 := hide hr0
  have HR1 := hide hr1
  have HRB : Hid (∀ i, R i ≤ 4294967295) := hide (fun i => by have h : ((R i : Nat) : Int) ≤ 4294967295 := (bounds_u32 (H2.out.2.1 i)).2; omega)
  clear hp HPR hr0 hr1 hn2
  go_wp2_with fail
  refine (clone64_any p0 n0 c0 P w1 (by omega) (H0.out.below HB1.out (Nat.le_refl _))).mono ?_
  rintro e w2 ⟨q0, rfl, hb2, hr0⟩
  have HB2 := hide hb2
  have HR2 := hide hr0
  clear hb2 hr0
  go_wp2_with fail
  refine (clone32_any p1 n1 c1 T w2 (by omega) ((H1.out.below HB1.out (Nat.le_refl _)).below HB2.out (Nat.le_refl _))).mono ?_
  rintro e w3 ⟨q1, rfl, hb3, hr1⟩
  have HB3 := hide hb3
  have HR3 := hide hr1
  clear hb3 hr1
  go_wp2_with fail
  refine (clone32_any p2 (G + 1) c2 (fun i => (R i : Int)) w3 (by omega) (((H2.out.below HB1.out (Nat.le_refl _)).below HB2.out (Nat.le_refl _)).below HB3.out (Nat.le_refl _))).mono ?_
  rintro e w4 ⟨q2, rfl, hb4, hr2⟩
  have HB4 := hide hb4
  have HR4 := hide hr2
  clear hb4 hr2
  go_wp2_with fail
  refine (clone32_any p5 n5 c5 X w4 (by omega) ((((H5.out.below HB1.out (Nat.le_refl _)).below HB2.out (Nat.le_refl _)).below HB3.out (Nat.le_refl _)).below HB4.out (Nat.le_refl _))).mono ?_
  rintro e w5 ⟨q5, rfl, hb5, hr5⟩
  obtain ⟨rfl, hlaid⟩ := Laid.start HB1.out HB2.out HR2.out HB3.out HR3.out HB4.out HR4.out hb5 hr5
  have hs4 : w.heap.size ≤ w4.heap.size := by have := HB1.out.size; have := HB2.out.size; have := HB3.out.size; have := HB4.out.size; omega
  obtain ⟨ys, hys⟩ := hr5.owns hs4 (show n5 ≤ 1048576 by omega)
  obtain ⟨a0, ha0⟩ : ∃ a, a = w1.heap.size := ⟨_, rfl⟩
  obtain ⟨a1, ha1⟩ : ∃ a, a = w2.heap.size := ⟨_, rfl⟩
  obtain ⟨a2, ha2⟩ : ∃ a, a = w3.heap.size := ⟨_, rfl⟩
  rw [← ha0, ← ha1, ← ha2] at hlaid
  rw [← ha2]
  have HLA := hide hlaid
  have HYS := hide hys
  clear hlaid hys hb5 hr5 ha0 ha1 ha2 hs4 HB1 HB2 HB3 HB4 HR2 HR3 HR4
  have WP : Hid (∀ i, (Lit.int .u64 (P i)).wf = true) := hide H0.out.2.1
  have WT : Hid (∀ i, (Lit.int .u32 (T i)).wf = true) := hide H1.out.2.1
  clear H0 H1 H2 H5
  go_wp2_with fail
  refine (zzpermute_any a0 a1 a2 w.heap.size q0 q1 n0 n1 G P T R x s q5 n5 n5 ys w5 (by omega) (by omega) (by omega) hx hx2 hs HLA.out.below.size HP.out HR0.out HR1.out WP.out WT.out HRB.out HLA.out.pos HLA.out.tags HLA.out.runs HYS.out HLA.out.d1 HLA.out.d2 HLA.out.d3).mono ?_
  intro e w6 hpost
  obtain ⟨p6, cap6, P', T', N', rfl, hown6, hlaid6, hfl6, hN6, hsz6, hblk6⟩ := HLA.out.after (base := 0) HYS.out hpost
  have HO6 := hide hown6
  have HL6 := hide hlaid6
  have HF6 := hide hfl6
  have HN6 := hide hN6
  clear hown6 hlaid6 hfl6 hN6 hsz6 hblk6 hpost HLA HYS
  have hall := HF6.out.all (fun z => (Lit.int .u64 z).wf = true) (fun z => (Lit.int .u32 z).wf = true) WP.out WT.out
  have HALL := hide hall
  clear hall
  go_wp2_with fail
  refine (clone64_any q0 n0 n0 P' w6 (by omega) (HL6.out.pos.ints m0 (fun i => (HALL.out i).1))).mono ?_
  rintro e w7 ⟨o0, rfl, hb7, hr7⟩
  have hl7 := HL6.out.keep hb7
  have HL7 := hide hl7
  have HB7 := hide hb7
  have HR7 := hide hr7
  clear hl7 hb7 hr7
  go_wp2_with fail
  refine (clone32_any q1 n1 n1 T' w7 (by omega) (HL7.out.tags.ints m1 (fun i => (HALL.out i).2))).mono ?_
  rintro e w8 ⟨o1, rfl, hb8, hr8⟩
  have hl8 := HL7.out.keep hb8
  have HL8 := hide hl8
  have HB8 := hide hb8
  have HR8 := hide hr8
  clear hl8 hb8 hr8
  have hown8 := owns_keep (owns_keep HO6.out (fun g _ hg => HB7.out.block g hg)) (fun g _ hg => HB8.out.block g hg)
  have HO8 := hide hown8
  clear hown8
  go_wp2_with fail
  refine (zzpermute_any a0 a1 a2 w.heap.size q0 q1 n0 n1 G P' T' R x s p6 G cap6 _ w8 (by omega) (by omega) (by omega) hx hx2 hs HL8.out.below.size (HF6.out.prem HP.out) HR0.out HR1.out (fun i => (HALL.out i).1) (fun i => (HALL.out i).2) HRB.out HL8.out.pos HL8.out.tags HL8.out.runs HO8.out HL8.out.d1 HL8.out.d2 HL8.out.d3).mono ?_
  intro e w9 hpost
  obtain ⟨p9, cap9, P'', T'', N'', rfl, hown9, hlaid9, hfl9, hN9, hsz9, hblk9⟩ := HL8.out.after (base := 0) HO8.out hpost
  have hsame := hfl9.same (HF6.out.done HN6.out)
  have hpos9 : Row w9 a0 35 .u64 q0 n0 P' := hlaid9.pos.congr fun i => (hsame i).1
  have htag9 : Row w9 a1 27 .u32 q1 n1 T' := hlaid9.tags.congr fun i => (hsame i).2
  have hlt6 : ∀ {b : Nat}, (Value.slice p6 G cap6).ownBlock = some b → b < w6.heap.size := fun h => (owns_lt HO6.out h).2
  have hs67 := HB7.out.size
  have hs78 := HB8.out.size
  have honce0 : Row w9 w6.heap.size 35 .u64 o0 n0 P' := by
    refine (HR7.out.below HB8.out (Nat.le_refl _)).keep fun _ hb => hblk9 _ hb (fun hq => ?_) (fun hq => ?_) (fun h => ?_)
    · have := HL6.out.pos.lt hq; omega
    · have := HL6.out.tags.lt hq; omega
    · have := hlt6 h; omega
  have honce1 : Row w9 w7.heap.size 27 .u32 o1 n1 T' := by
    refine HR8.out.keep fun _ hb => hblk9 _ hb (fun hq => ?_) (fun hq => ?_) (fun h => ?_)
    · have := HL6.out.pos.lt hq; omega
    · have := HL6.out.tags.lt hq; omega
    · have := hlt6 h; omega
  obtain ⟨u0, hu0⟩ : ∃ u, u = w6.heap.size := ⟨_, rfl⟩
  obtain ⟨u1, hu1⟩ : ∃ u, u = w7.heap.size := ⟨_, rfl⟩
  rw [← hu0] at honce0
  rw [← hu1] at honce1
  have HP9 := hide hpos9
  have HT9 := hide htag9
  have HU0 := hide honce0
  have HU1 := hide honce1
  have HB9 := hide hlaid9.below
  have he1 := owns_ints hown9 (by omega) (fun i => wf_u32_nat (HRB.out (i + 1)))
  have he2 : IntsF w9 .u32 (some ⟨a2, 0, none⟩) (G + 1) (fun i => (R i : Int)) := ⟨by omega, fun i => wf_u32_nat (HRB.out i), fun _ => ⟨a2, 0, rfl, fun i hi => by rw [Nat.zero_add]; exact hlaid9.runs.cell hi⟩⟩
  have HE1 := hide he1
  have HE2 := hide he2
  clear hpos9 htag9 honce0 honce1 hown9 hlaid9 hfl9 hN9 hsz9 hblk9 hpost hsame he1 he2 hu0 hu1 HL6 HL7 HL8 HB7 HB8 HR7 HR8 HO6 HO8 HF6 HN6 HP WP WT hs67 hs78
  go_wp2_with fail
  refine (ends_any p9 (some ⟨a2, 0, none⟩) G cap9 (G + 1) (fun i => ((R (i + 1) : Nat) : Int)) (fun i => (R i : Int)) w9 (by omega) HE1.out HE2.out (fun h _ => rfl)).mono ?_
  rintro e wA ⟨rfl, z, hz⟩
  have HZ := hide hz
  clear hz HE1 HE2
  go_wp2_with fail
  go_loopg [17] n0 (fun gk i wr => ∃ (k z : Nat), k ≤ n0 ∧ gk = n0 - k ∧ i = .int .i64 k ∧ wr = w9.drewN z)
  case atStart => exact ⟨0, z, Nat.zero_le _, rfl, rfl, HZ.out⟩
  case round =>
    obtain ⟨k, z1, hk, hgk, rfl, hwz⟩ := hrel
    have HG := hide hgk
    have HW := hide hwz
    clear hgk
    by_cases hlt : k < n0
    · obtain ⟨b, o, rfl, hc1⟩ := (HP9.out.ints m0 (fun i => (HALL.out i).1)).2.2 (by omega)
      obtain ⟨b', o', rfl, hc2⟩ := (HU0.out.ints m0 (fun i => (HALL.out i).1)).2.2 (by omega)
      obtain ⟨v, hv⟩ : ∃ v, P' k = v := ⟨_, rfl⟩
      have e1' : wr.cell? ⟨b, o + k, none⟩ = some (.int .u64 v) := by rw [hwz, World.cell?_drewN, hc1 k hlt, hv]
      have e2' : wr.cell? ⟨b', o' + k, none⟩ = some (.int .u64 v) := by rw [hwz, World.cell?_drewN, hc2 k hlt, hv]
      have i1 : (0 : Int) ≤ (k : Int) := by omega
      have i2 : (k : Int) < (n0 : Int) := by omega
      have e1 : (v != v) = false := by simp
      clear hv hwz hc1 hc2
      go_wp2_with fail
      go_quiet (fail)
      go_wp2_with fail
      go_roundg (n0 - (k + 1))
      case measure => rw [HG.out]; omega
      case rel => exact ⟨k + 1, z1 + nq, by omega, rfl, by go_num, by rw [HW.out]; exact World.drewN_drewN ..⟩
    · clear hwz
      go_wp2_with fail
      go_loopg [18] n1 (fun gk i wr => ∃ (k z : Nat), k ≤ n1 ∧ gk = n1 - k ∧ i = .int .i64 k ∧ wr = w9.drewN z)
      case atStart => exact ⟨0, z1, Nat.zero_le _, rfl, rfl, HW.out⟩
      case round =>
        obtain ⟨k2, z2, hk2, hgk2, rfl, hwz2⟩ := hrel
        have HG2 := hide hgk2
        have HW2 := hide hwz2
        clear hgk2
        by_cases hlt2 : k2 < n1
        · obtain ⟨b, o, rfl, hc1⟩ := (HT9.out.ints m1 (fun i => (HALL.out i).2)).2.2 (by omega)
          obtain ⟨b', o', rfl, hc2⟩ := (HU1.out.ints m1 (fun i => (HALL.out i).2)).2.2 (by omega)
          obtain ⟨v, hv⟩ : ∃ v, T' k2 = v := ⟨_, rfl⟩
          have e1' : wr.cell? ⟨b, o + k2, none⟩ = some (.int .u32 v) := by rw [hwz2, World.cell?_drewN, hc1 k2 hlt2, hv]
          have e2' : wr.cell? ⟨b', o' + k2, none⟩ = some (.int .u32 v) := by rw [hwz2, World.cell?_drewN, hc2 k2 hlt2, hv]
          have i1 : (0 : Int) ≤ (k2 : Int) := by omega
          have i2 : (k2 : Int) < (n1 : Int) := by omega
          have e1 : (v != v) = false := by simp
          clear hv hwz2 hc1 hc2
          go_wp2_with fail
          go_quiet (fail)
          go_wp2_with fail
          go_roundg (n1 - (k2 + 1))
          case measure => rw [HG2.out]; omega
          case rel => exact ⟨k2 + 1, z2 + nq, by omega, rfl, by go_num, by rw [HW2.out]; exact World.drewN_drewN ..⟩
        · clear hwz2
          go_wp2_with fail
          go_ret
          rw [HW2.out]
          exact Truth.mk (HB9.out.trans (below_drewN _ _ _))

end Go.Proofs.Qxb6600860aMods
