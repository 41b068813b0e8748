/-
  THE WALK OF 'FnChildPathsMeetAtCommonPrefix'.
-/
import Derived.Test.Qxb6600170aModsRoads
namespace Go.Proofs.Qxb6600170aMods
set_option linter.unusedVariables false
set_option linter.unusedSimpArgs false
open Go.RowKit

theorem wlen {M0 : Tab} (g : Good M0) (l : List (List Int)) (k N : Nat) (hN : M0.length + l.length ≤ N) : (walkTo M0 0 (l.take k)).2 ≤ (walkTo M0 0 (l.take k)).1.length ∧ (walkTo M0 0 (l.take k)).1.length ≤ N := by
  refine ⟨(walked g (Nat.zero_le _) _).le, ?_⟩
  have h1 := walkTo_length g (Nat.zero_le _) (l.take k)
  have h2 : (l.take k).length ≤ l.length := by rw [List.length_take]; omega
  omega

theorem Cmds.below {B : Nat} {w w' : World} {v : Value} {V : Nat → Value} {xss : List (List Int)} (h : Cmds w v V xss) (hb : Below B w w') (hB : w.heap.size ≤ B) : Cmds w' v V xss := by
  obtain ⟨p, c, h1, h2, h3, h4, h5⟩ := h
  refine ⟨p, c, h1, h2, h3, fun hne => ?_, fun i hi => (h5 i hi).below hb hB⟩
  obtain ⟨b, o, h6, h7⟩ := h4 hne
  refine ⟨b, o, h6, fun i hi => ?_⟩
  have := World.block_lt_of_cell? _ _ (h7 i hi)
  rw [hb.cell (p := ⟨b, o + i, none⟩) (by simp at this ⊢; omega)]
  exact h7 i hi

theorem take_step' {xa xb : List (List Int)} {t : Nat} (ha : t < xa.length) (hb : t < xb.length) (ht : xa.take t = xb.take t) (he : xa.getD t [] = xb.getD t []) : xa.take (t + 1) = xb.take (t + 1) := by
  rw [take_snoc xa [] ha, take_snoc xb [] hb, ht, he]

set_option maxRecDepth 100000 in
set_option maxHeartbeats 8000000 in
theorem walk4 (p p' : Option Addr) (n c n' c' : Nat) (A : Nat → Option Addr) (L C : Nat → Nat) (Z : Nat → List Int) (A' : Nat → Option Addr) (L' C' : Nat → Nat) (Z' : Nat → List Int) (w : World) (h : ArgIs w p n c A L C Z) (h' : ArgIs w p' n' c' A' L' C' Z') :
    Calls Trym.prog 4 #[.slice p n c, .slice p' n' c'] w fun e w' => Truth w e w' := by
  have hn := h.n_le
  have hn' := h'.n_le
  have HR := hide h.raw
  have HA := hide h
  have HR' := hide h'.raw
  have HA' := hide h'
  clear h h'
  go_enter Trym.func4, Trym.ntmps4
  go_wp2_with fail
  refine (bytes21 p p' n c n' c' A L C A' L' C' w hn hn' HR.out HR'.out).mono ?_
  rintro e w' ⟨t, rfl, hw, ht⟩
  rw [hw]; clear hw w'
  have HT := hide ht
  clear ht
  cases t
  · go_wp2_with fail
    go_ret
    exact Truth.mk (Below.refl _ _)
  obtain ⟨⟨hn1, hL⟩, hn1', hL'⟩ := HT.out rfl
  have HL := hide hL
  have HL' := hide hL'
  clear hL hL' HT
  by_cases hbig : 65536 < n
  · have hd : decide ((65536 : Int) < (n : Int)) = true := by simp; omega
    go_wp2_with fail
    go_ret
    exact Truth.mk (Below.refl _ _)
  have hd : decide ((65536 : Int) < (n : Int)) = false := by simp; omega
  by_cases hbig' : 65536 < n'
  · have hd' : decide ((65536 : Int) < (n' : Int)) = true := by simp; omega
    go_wp2_with fail
    go_ret
    exact Truth.mk (Below.refl _ _)
  have hd' : decide ((65536 : Int) < (n' : Int)) = false := by simp; omega
  go_wp2_with fail
  refine (listbytes_any p n c A L C w hn1 HR.out HL.out).mono ?_
  rintro e w' ⟨s, rfl, hw, hs0, hs1⟩
  rw [hw]; clear hw w'
  go_wp2_with fail
  refine (listbytes_any p' n' c' A' L' C' w hn1' HR'.out HL'.out).mono ?_
  rintro e w' ⟨s', rfl, hw, hs0', hs1'⟩
  rw [hw]; clear hw w'
  by_cases hs : 1048576 < s + s'
  · go_wp2_with fail
    go_ret
    exact Truth.mk (Below.refl _ _)
  have hcm := HA.out.cmds hn1 HL.out
  have hxl := argData_length n L Z
  generalize argData n L Z = xa at hcm hxl
  have hcm' := HA'.out.cmds hn1' HL'.out
  have hxl' := argData_length n' L' Z'
  generalize argData n' L' Z' = xb at hcm' hxl'
  have HC' := hide hcm'
  have HXL := hide hxl
  have HXL' := hide hxl'
  go_wp2_with fail
  refine (clone_have hcm).mono ?_
  rintro e w0 ⟨qa, rfl, hha, hb0⟩
  rw [hxl] at hha ⊢
  have HHA := hide hha
  have HB0 := hide hb0
  clear hcm hcm' hxl hxl' hha hb0
  go_wp2_with fail
  refine (clone_have (V := fun i => .slice (A' i) (L' i) (C' i)) (xss := xb) ?_).mono ?_
  · exact HC'.out.below HB0.out (Nat.le_refl _)
  rintro e w1 ⟨qb, rfl, hhb, hb1⟩
  rw [HXL'.out] at hhb ⊢
  have HHB := hide hhb
  have HHA1 := hide (HHA.out.below hb1 (Nat.le_refl _))
  have HB1 := hide (HB0.out.trans (hb1.mono HB0.out.size))
  clear hhb hb1
  go_wp2_with fail
  refine (newroot_any _).mono ?_
  rintro e w2 ⟨rfl, rfl⟩
  go_wp2_with fail
  refine (newseqs_any _ _).mono ?_
  rintro e w2 ⟨rfl, rfl⟩
  go_wp2_with fail
  go_loopg [7, 8] n (fun gk s i wr => ∃ k : Nat, k ≤ n ∧ gk = n - k ∧ i = .int .i64 k ∧ Building w1 w1.heap.size (w1.heap.size + 1 + 1) [] xa w1.heap.size k s wr)
  case atStart =>
    exact ⟨0, Nat.zero_le _, rfl, rfl, fun _ => w1.heap.size, table_start w1, rfl, rfl, (((Below.refl _ _).alloc (Nat.le_refl _) _).alloc (by simp) _).alloc (by simp; omega) _⟩
  case round =>
    obtain ⟨k, hk, hgk, rfl, hbd⟩ := hrel
    have HG := hide hgk
    clear hgk
    by_cases hlt : k < n
    · obtain ⟨nb, hT, rfl, h0, hb1⟩ := hbd
      obtain ⟨g, pa, ca, rfl, hc, hby⟩ := (HHA1.out.below hb1 (Nat.le_refl _)).2.2 k hlt
      have HT := hide hT
      have H0 := hide h0
      have HBB := hide hb1
      have HBY := hide hby
      have HW := hide (wlen good_nil xa k 1000000 (by have := HXL.out; simp; omega))
      clear hT h0 hb1 hby
      go_wp2_with (go_at_call 16; refine (zzchild_any HT.out HW.out.1 HW.out.2 HBY.out).mono ?_; intro e w' hpost; obtain ⟨b, he, hnew⟩ := building_step (by have := HXL.out; omega) HBB.out H0.out hpost; subst he; clear hpost)
      go_roundg (n - (k + 1))
      case measure => rw [HG.out]; omega
      case rel => exact ⟨k + 1, by omega, rfl, by go_num, hnew⟩
    · obtain rfl : k = n := by omega
      obtain ⟨nb0, hT, rfl, h0, hb1⟩ := hbd
      have htk : xa.take k = xa := List.take_of_length_le (by have := HXL.out; omega)
      rw [htk] at hT ⊢
      have hcl := chain_last xa
      have hT0 : Table wr w1.heap.size (w1.heap.size + 1 + 1) (chain xa) nb0 := hT
      have hda : dep (chain xa) k = k := by
        have h := (walked good_nil (Nat.le_refl 0) xa).depth
        rw [hcl.1, dep_zero, Nat.zero_add, HXL.out] at h
        exact h
      rw [hcl.1, HXL.out]
      have HCL : Hid ((chain xa).length = k) := by show _ = _; rw [hcl.2]; exact HXL.out
      have HT0 := hide hT0
      have H0 := hide h0
      have HBB := hide hb1
      have HDA := hide hda
      clear hT h0 hb1 htk hcl hT0 hda
      go_wp2_with fail
      refine (HT0.out.count).mono ?_
      rintro e w5 ⟨rfl, hw⟩
      rw [hw]; clear hw w5
      rw [HCL.out]
      have t1 : ((k : Int) + 1 != 1 + (k : Int)) = false := by simp; omega
      go_wp2_with fail
      refine (HT0.out.len (i := k) (by rw [HCL.out]; exact Nat.le_refl _)).mono ?_
      rintro e w5 ⟨rfl, hw⟩
      rw [hw]; clear hw w5
      rw [HDA.out]
      have t2 : ((k : Int) != (k : Int)) = false := by simp
      go_wp2_with fail
      go_loopg [9, 10] n' (fun gk s i wr => ∃ t : Nat, t ≤ n' ∧ gk = n' - t ∧ i = .int .i64 t ∧ Building2 w1 w1.heap.size (w1.heap.size + 1 + 1) (chain xa) nb0 xb t s wr)
      case atStart =>
        exact ⟨0, Nat.zero_le _, rfl, rfl, nb0, HT0.out, by show _ = Value.pointer (some ⟨nb0 0, 0, none⟩); rw [H0.out], fun _ _ => rfl, HBB.out⟩
      case round =>
        obtain ⟨t, ht, hgk, rfl, hbd⟩ := hrel
        have HG := hide hgk
        clear hgk
        by_cases hlt2 : t < n'
        · obtain ⟨nb, hT, rfl, h0, hb1⟩ := hbd
          obtain ⟨g, pa, ca, rfl, hc, hby⟩ := (HHB.out.below hb1 (Nat.le_refl _)).2.2 t hlt2
          have HT := hide hT
          have H0 := hide h0
          have HBB := hide hb1
          have HBY := hide hby
          have HW := hide (wlen (chain_good xa) xb t 1000000 (by have := HXL'.out; have := HCL.out; omega))
          clear hT h0 hb1 hby
          go_wp2_with (go_at_call 16; refine (zzchild_any HT.out HW.out.1 HW.out.2 HBY.out).mono ?_; intro e w' hpost; obtain ⟨b, he, hnew⟩ := building2_step (by have := HXL'.out; omega) (chain_good xa) HBB.out H0.out hpost; subst he; clear hpost)
          go_roundg (n' - (t + 1))
          case measure => rw [HG.out]; omega
          case rel => exact ⟨t + 1, by omega, rfl, by go_num, hnew⟩
        · obtain rfl : t = n' := by omega
          obtain ⟨nb, hT, rfl, h0, hb1⟩ := hbd
          have htk : xb.take t = xb := List.take_of_length_le (by have := HXL'.out; omega)
          rw [htk] at hT ⊢
          rw [← h0 k (by rw [HCL.out]; exact Nat.le_refl _)]
          have HT2 := hide hT
          have HBB2 := hide hb1
          clear hT h0 hb1 htk HT0 H0 HBB
          obtain ⟨wB, rfl⟩ : ∃ wB, wB = wr := ⟨_, rfl⟩
          go_wp2_with fail
          go_loopg [11] k (fun gk i wr' => ∃ u q : Nat, u ≤ k ∧ u ≤ t ∧ gk = k - u ∧ i = .int .i64 u ∧ wr' = wB.drewN q ∧ xa.take u = xb.take u)
          case atStart => exact ⟨0, 0, Nat.zero_le _, Nat.zero_le _, rfl, rfl, rfl, rfl⟩
          case round =>
            obtain ⟨u, q, hu1, hu2, hgk, rfl, hwq, htk⟩ := hrel
            have HG3 := hide hgk
            have HTK := hide htk
            have HTw : Hid (Table wr w1.heap.size (w1.heap.size + 1 + 1) (walkTo (chain xa) 0 xb).1 nb) := by rw [hwq]; exact HT2.out.drewN q
            have HBw : Hid (Below w1.heap.size w1 wr) := by rw [hwq]; exact HBB2.out.trans ⟨rfl, rfl, rfl, Nat.le_refl _, fun _ _ => rfl⟩
            have HAw := hide (HHA1.out.below HBw.out (Nat.le_refl _))
            have HHw := hide (HHB.out.below HBw.out (Nat.le_refl _))
            have HWQ := hide hwq
            clear hgk htk hwq
            by_cases hcont : u < k ∧ u < t ∧ xa.getD u [] = xb.getD u []
            · obtain ⟨hua, hub, heq⟩ := hcont
              obtain ⟨g1, pa1, ca1, rfl, hc1, hby1⟩ := HAw.out.2.2 u hua
              obtain ⟨g2, pa2, ca2, rfl, hc2, hby2⟩ := HHw.out.2.2 u hub
              have HTS := hide (take_step' (by rw [HXL.out]; exact hua) (by rw [HXL'.out]; exact hub) HTK.out heq)
              have HE := hide heq
              have HY1 := hide hby1
              have HY2 := hide hby2
              clear heq hby1 hby2
              generalize xa.getD u [] = ya at *
              generalize xb.getD u [] = yb at *
              have i1 : (u : Int) < (k : Int) := by omega
              have i2 : (u : Int) < (t : Int) := by omega
              have i3 : (0 : Int) ≤ (u : Int) := by omega
              go_wp2_with fail
              go_quiet ((go_at_call 14; refine Calls.quiet_of (equal_yes (HY1.out.drewN _) (HY2.out.drewN _) HE.out)))
              go_wp2_with fail
              go_roundg (k - (u + 1))
              case measure => rw [HG3.out]; omega
              case rel => exact ⟨u + 1, q + nq, by omega, by omega, rfl, by go_num, by rw [HWQ.out]; exact World.drewN_drewN .., HTS.out⟩
            · have hcom : Common xa xb u := ⟨by rw [HXL.out]; exact hu1, by rw [HXL'.out]; exact hu2, HTK.out, fun h1 h2 he => hcont ⟨by rw [HXL.out] at h1; exact h1, by rw [HXL'.out] at h2; exact h2, he⟩⟩
              have hcase : (¬ u < k) ∨ (u < k ∧ ¬ u < t) ∨ (u < k ∧ u < t ∧ xa.getD u [] ≠ xb.getD u []) := by
                by_cases a1 : u < k
                · by_cases a2 : u < t
                  · exact .inr (.inr ⟨a1, a2, fun e => hcont ⟨a1, a2, e⟩⟩)
                  · exact .inr (.inl ⟨a1, a2⟩)
                · exact .inl a1
              have HCOM := hide hcom
              clear hcom hcont
              rcases hcase with ha | ⟨ha, hb⟩ | ⟨ha, hb, hne⟩
              case' inl =>
                have d1 : decide ((u : Int) < (k : Int)) = false := by simp; omega
                go_wp2_with fail
                go_quiet (fail)
                go_wp2_with fail
              case' inr.inl =>
                have d1 : (u : Int) < (k : Int) := by omega
                have d2 : decide ((u : Int) < (t : Int)) = false := by simp; omega
                go_wp2_with fail
                go_quiet (fail)
                go_wp2_with fail
              case' inr.inr =>
                obtain ⟨g1, pa1, ca1, rfl, hc1, hby1⟩ := HAw.out.2.2 u ha
                obtain ⟨g2, pa2, ca2, rfl, hc2, hby2⟩ := HHw.out.2.2 u hb
                have HE := hide hne
                have HY1 := hide hby1
                have HY2 := hide hby2
                clear hne hby1 hby2
                generalize xa.getD u [] = ya at hc1 HE HY1
                generalize xb.getD u [] = yb at hc2 HE HY2
                have i1 : (u : Int) < (k : Int) := by omega
                have i2 : (u : Int) < (t : Int) := by omega
                have i3 : (0 : Int) ≤ (u : Int) := by omega
                go_wp2_with fail
                go_quiet ((go_at_call 14; refine Calls.quiet_of (equal_no (HY1.out.drewN _) (HY2.out.drewN _) HE.out)))
                go_wp2_with fail
              all_goals
                obtain ⟨wz, hwz⟩ : ∃ wz, wz = wr.drewN nq := ⟨_, rfl⟩
                rw [← hwz]
                have HTz : Hid (Table wz w1.heap.size (w1.heap.size + 1 + 1) (walkTo (chain xa) 0 xb).1 nb) := by rw [hwz]; exact HTw.out.drewN nq
                have HBz : Hid (Below w1.heap.size w1 wz) := by rw [hwz]; exact HBw.out.trans ⟨rfl, rfl, rfl, Nat.le_refl _, fun _ _ => rfl⟩
                clear hwz
                have R := roads HCOM.out
                generalize (walkTo (chain xa) 0 xb).1 = M2 at HTz R
                generalize (walkTo (chain xa) 0 xb).2 = S2 at R ⊢
                obtain ⟨rg, rna, rns, rlen, rda, rds, rua, rus, rsame⟩ := R
                rw [HXL.out] at rna rlen rda rua rsame
                rw [HXL'.out] at rlen rds rus rsame
                have hM2 : M2.length ≤ 1000000 := by omega
                have e1 : (M2.length : Int) + 1 = 1 + (k : Int) + (t : Int) - (u : Int) := by omega
                refine (HTz.out.count).mono ?_
                rintro e w5 ⟨rfl, hw⟩
                rw [hw]; clear hw w5
                rw [e1]
                have t3 : (1 + (k : Int) + (t : Int) - (u : Int) != 1 + (k : Int) + (t : Int) - (u : Int)) = false := by simp
                have RL := hide rlen
                have RDA := hide rda
                have RDS := hide rds
                have RUA := hide rua
                have RUS := hide rus
                have RSM := hide rsame
                clear rlen rda rds rua rus rsame e1
                go_wp2_with fail
                refine (HTz.out.len (i := S2) rns).mono ?_
                rintro e w5 ⟨rfl, hw⟩
                rw [hw]; clear hw w5
                rw [RDS.out]
                have t4 : ((t : Int) != (t : Int)) = false := by simp
                have hq := eql_node HTz.out rna rns
                have h3 : (u = k ∧ u = t) ∨ (u = k ∧ ¬ u = t) ∨ (¬ u = k) := by omega
                rcases h3 with ⟨hA, hB⟩ | ⟨hA, hB⟩ | hA
                case' inl =>
                  rw [decide_eq_true (RSM.out.2 ⟨hA, hB⟩).symm] at hq
                  have ek : ((u : Int) == (k : Int)) = true := by simp; omega
                  have et : ((u : Int) == (t : Int)) = true := by simp; omega
                  clear hA hB
                  go_wp2_with fail
                case' inr.inl =>
                  rw [decide_eq_false (show ¬ k = S2 from fun e => hB (RSM.out.1 e.symm).2)] at hq
                  have ek : ((u : Int) == (k : Int)) = true := by simp; omega
                  have et : ((u : Int) == (t : Int)) = false := by simp; omega
                  clear hA hB
                  go_wp2_with fail
                case' inr.inr =>
                  rw [decide_eq_false (show ¬ k = S2 from fun e => hA (RSM.out.1 e.symm).1)] at hq
                  have ek : ((u : Int) == (k : Int)) = false := by simp; omega
                  clear hA
                  go_wp2_with fail
                all_goals
                  clear hq
                  go_loopg [13, 14] (k - u) (fun gk a i wr' => ∃ r : Nat, u ≤ r ∧ r ≤ k ∧ gk = r - u ∧ i = .int .i64 r ∧ a = .pointer (some ⟨nb (up M2 k (k - r)), 0, none⟩) ∧ wr' = wz)
                  case atStart => exact ⟨k, hu1, Nat.le_refl _, rfl, rfl, by rw [Nat.sub_self]; rfl, rfl⟩
                  case round =>
                    obtain ⟨r, hr1, hr2, hgk, rfl, rfl, hww⟩ := hrel
                    rw [hww]; clear hww
                    have HG4 := hide hgk
                    clear hgk
                    by_cases hru : u < r
                    · obtain ⟨r, rfl⟩ : ∃ r', r = r' + 1 := ⟨r - 1, by omega⟩
                      have hup := up_dep rg rna (k - (r + 1)) (by rw [RDA.out]; omega)
                      rw [RDA.out] at hup
                      have hpos := pos_of_dep (M := M2) (i := up M2 k (k - (r + 1))) (by omega)
                      have HPP := hide (HTz.out.parent hpos hup.1)
                      have HNX : Hid (up M2 k (k - r) = par M2 (up M2 k (k - (r + 1)))) := by show _ = _; rw [show k - r = (k - (r + 1)) + 1 by omega]; rfl
                      clear hup hpos
                      go_wp2_with (go_at_call 19; refine HPP.out.mono ?_; rintro e w' ⟨rfl, hw⟩; rw [hw]; clear hw)
                      all_goals
                        go_roundg (r - u)
                        case measure => rw [HG4.out]; omega
                        case rel => exact ⟨r, by omega, by omega, rfl, by go_num, by rw [HNX.out], rfl⟩
                    · obtain rfl : r = u := by omega
                      rw [RUA.out]
                      go_wp2_with fail
                      go_loopg [15, 16] (t - r) (fun gk a i wr' => ∃ v : Nat, r ≤ v ∧ v ≤ t ∧ gk = v - r ∧ i = .int .i64 v ∧ a = .pointer (some ⟨nb (up M2 S2 (t - v)), 0, none⟩) ∧ wr' = wz)
                      case atStart => exact ⟨t, hu2, Nat.le_refl _, rfl, rfl, by rw [Nat.sub_self]; rfl, rfl⟩
                      case round =>
                        obtain ⟨v, hv1, hv2, hgk, rfl, rfl, hww⟩ := hrel
                        rw [hww]; clear hww
                        have HG5 := hide hgk
                        clear hgk
                        by_cases hrv : r < v
                        · obtain ⟨v, rfl⟩ : ∃ r', v = r' + 1 := ⟨v - 1, by omega⟩
                          have hup := up_dep rg rns (t - (v + 1)) (by rw [RDS.out]; omega)
                          rw [RDS.out] at hup
                          have hpos := pos_of_dep (M := M2) (i := up M2 S2 (t - (v + 1))) (by omega)
                          have HPP := hide (HTz.out.parent hpos hup.1)
                          have HNX : Hid (up M2 S2 (t - v) = par M2 (up M2 S2 (t - (v + 1)))) := by show _ = _; rw [show t - v = (t - (v + 1)) + 1 by omega]; rfl
                          clear hup hpos
                          go_wp2_with (go_at_call 19; refine HPP.out.mono ?_; rintro e w' ⟨rfl, hw⟩; rw [hw]; clear hw)
                          all_goals
                            go_roundg (v - r)
                            case measure => rw [HG5.out]; omega
                            case rel => exact ⟨v, by omega, by omega, rfl, by go_num, by rw [HNX.out], rfl⟩
                        · obtain rfl : v = r := by omega
                          rw [RUS.out]
                          have hup := up_dep rg rna (k - v) (by rw [RDA.out]; omega)
                          rw [RUA.out, RDA.out] at hup
                          have hq2 := neq_node HTz.out hup.1 hup.1
                          simp only [decide_true, Bool.not_true] at hq2
                          have hdv : dep M2 v = v := by omega
                          have HL2 := hide (HTz.out.len hup.1)
                          rw [hdv] at HL2
                          have t5 : ((v : Int) != (v : Int)) = false := by simp
                          clear hup hdv
                          go_wp2_with (go_at_call 20; refine HL2.out.mono ?_; rintro e w' ⟨rfl, hw⟩; rw [hw]; clear hw)
                          go_ret
                          have b1 := HB1.out
                          exact Truth.mk (b1.trans (HBz.out.mono b1.size))

end Go.Proofs.Qxb6600170aMods
