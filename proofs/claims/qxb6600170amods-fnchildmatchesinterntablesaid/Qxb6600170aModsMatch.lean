/-
  THE WALK OF 'FnChildMatchesInternTable'.
-/
import Derived.Test.Qxb6600170aModsTables
import Derived.Deep.CutRange
namespace Go.Proofs.Qxb6600170aMods
set_option linter.unusedVariables false
set_option linter.unusedSimpArgs false
open Go.RowKit

theorem cmds_below {B : Nat} {w w' : World} {v : Value} {V : Nat → Value} {xss : List (List Int)} (h : Cmds w v V xss) (hb : Below B w w') (hB : w.heap.size ≤ B) : Cmds w' v V xss := by
  obtain ⟨p, c, h1, h2, h3, h4, h5⟩ := h
  refine ⟨p, c, h1, h2, h3, fun hne => ?_, fun i hi => (h5 i hi).below hb hB⟩
  obtain ⟨b, o, h6, h7⟩ := h4 hne
  refine ⟨b, o, h6, fun i hi => ?_⟩
  have := World.block_lt_of_cell? _ _ (h7 i hi)
  rw [hb.cell (p := ⟨b, o + i, none⟩) (by simp at this ⊢; omega)]
  exact h7 i hi

theorem tables_start (w : World) : Tables w ((((((w.alloc (.cells #[.pointer none, .slice none 0 0, .int .i64 0, .int .u64 0, .slice none 0 0] 50)).alloc (.cells #[.pointer (some ⟨w.heap.size, 0, none⟩)] 28)).alloc (.cells #[.slice (some ⟨w.heap.size + 1, 0, none⟩) 1 1] 52)).alloc (.cells #[.int .i64 (-1)] 3)).alloc (.cells #[.slice none 0 0] 35)).alloc (.cells #[.int .i64 0] 3))
    w.heap.size (w.heap.size + 1 + 1) [] (fun _ => w.heap.size) (fun _ => .slice none 0 0) (.slice (some ⟨w.heap.size + 1 + 1 + 1, 0, none⟩) 1 1) (.slice (some ⟨w.heap.size + 1 + 1 + 1 + 1, 0, none⟩) 1 1) (.slice (some ⟨w.heap.size + 1 + 1 + 1 + 1 + 1, 0, none⟩) 1 1) := by
  have t := table_start w
  have b3 : Below w.heap.size w (((w.alloc (.cells #[.pointer none, .slice none 0 0, .int .i64 0, .int .u64 0, .slice none 0 0] 50)).alloc (.cells #[.pointer (some ⟨w.heap.size, 0, none⟩)] 28)).alloc (.cells #[.slice (some ⟨w.heap.size + 1, 0, none⟩) 1 1] 52)) :=
    (((Below.refl _ _).alloc (Nat.le_refl _) _).alloc (by simp) _).alloc (by simp; omega) _
  have hs : (((w.alloc (.cells #[.pointer none, .slice none 0 0, .int .i64 0, .int .u64 0, .slice none 0 0] 50)).alloc (.cells #[.pointer (some ⟨w.heap.size, 0, none⟩)] 28)).alloc (.cells #[.slice (some ⟨w.heap.size + 1, 0, none⟩) 1 1] 52)).heap.size = w.heap.size + 1 + 1 + 1 := by simp
  generalize (((w.alloc (.cells #[.pointer none, .slice none 0 0, .int .i64 0, .int .u64 0, .slice none 0 0] 50)).alloc (.cells #[.pointer (some ⟨w.heap.size, 0, none⟩)] 28)).alloc (.cells #[.slice (some ⟨w.heap.size + 1, 0, none⟩) 1 1] 52)) = w3 at t b3 hs
  have h0 := keepAlloc (keepAlloc (heap_alloc_new w3 (.cells #[.int .i64 (-1)] 3)) (.cells #[.slice none 0 0] 35)) (.cells #[.int .i64 0] 3)
  have h1 := keepAlloc (heap_alloc_new (w3.alloc (.cells #[.int .i64 (-1)] 3)) (.cells #[.slice none 0 0] 35)) (.cells #[.int .i64 0] 3)
  have h2 := heap_alloc_new ((w3.alloc (.cells #[.int .i64 (-1)] 3)).alloc (.cells #[.slice none 0 0] 35)) (.cells #[.int .i64 0] 3)
  simp only [World.size_alloc, hs] at h0 h1 h2
  refine ⟨((t.alloc _).alloc _).alloc _, ((b3.alloc (by omega) _).alloc (by simp; omega) _).alloc (by simp; omega) _, ?_, ?_, ?_, ?_, fun j h1 h2 => by simp at h2; omega⟩
  · exact ⟨rfl, .inr ⟨_, 1, _, rfl, by omega, h0, Nat.le_refl _, by unfold maxLen; omega, rfl, rfl⟩⟩
  · exact ⟨rfl, .inr ⟨_, 1, _, rfl, by omega, h1, Nat.le_refl _, by unfold maxLen; omega, rfl, rfl⟩⟩
  · exact ⟨rfl, .inr ⟨_, 1, _, rfl, by omega, h2, Nat.le_refl _, by unfold maxLen; omega, rfl, rfl⟩⟩
  · simp only [Value.ownBlock, ne_eq, Option.some.injEq]; omega

theorem zzlast_one {w : World} {B sb : Nat} {M : Tab} {nb : Nat → Nat} (h : Table w B sb M nb) {i : Nat} (h0 : 0 < i) (hi : i ≤ M.length) (hM : M.length ≤ 1000000) :
    Calls Trym.prog 17 #[.pointer (some ⟨nb i, 0, none⟩), .int .i64 1] w fun e w' => e = .returned (.slice (some ⟨w.heap.size, 0, none⟩) 1 1) ∧
      (∃ pa ca, w'.cell? ⟨w.heap.size, 0, none⟩ = some (.slice pa (cmd M i).length ca) ∧ Bytes w' (.slice pa (cmd M i).length ca) (cmd M i)) ∧ Below w.heap.size w w' := by
  have hd := dep_par h.good h0 hi
  refine (zzlast_have h hi hM 1 (by omega) (nb i) 1 rfl (by omega)).mono fun e w' ⟨h1, h2, h3⟩ => ⟨h1, ?_, h3⟩
  obtain ⟨g, pa, ca, e1, h5, h6⟩ := h2.2.2 0 (by omega)
  obtain rfl : w.heap.size = g := by simpa using e1
  rw [lastList_get (by omega)] at h5 h6
  exact ⟨pa, ca, h5, h6⟩

set_option maxRecDepth 100000 in
set_option maxHeartbeats 8000000 in
theorem walk3 (q : Option Addr) (m d : Nat) (p : Option Addr) (n c : Nat) (A : Nat → Option Addr) (L C : Nat → Nat) (Z : Nat → List Int) (w : World) (hq : U16Arg w q m d) (hm : m ≤ 9223372036854775807) (h : ArgIs w p n c A L C Z) :
    Calls Trym.prog 3 #[.slice q m d, .slice p n c] w fun e w' => Truth w e w' := by
  have hn := h.n_le
  have HR := hide h.raw
  have HA := hide h
  have HQ := hide hq
  clear h hq
  go_enter Trym.func3, Trym.ntmps3
  go_wp2_with fail
  refine (bytes7 q m d p n c A L C w hm hn HR.out).mono ?_
  rintro e w' ⟨t, rfl, hw, ht⟩
  rw [hw]; clear hw w'
  have HT := hide ht
  clear ht
  cases t
  · go_wp2_with fail
    go_ret
    exact Truth.mk (Below.refl _ _)
  obtain ⟨hm1, hn1, hL⟩ := HT.out rfl
  have HL := hide hL
  clear hL HT
  by_cases hbm : 4096 < m
  · have hd : decide ((4096 : Int) < (m : Int)) = true := by simp; omega
    go_wp2_with fail
    go_ret
    exact Truth.mk (Below.refl _ _)
  have hdm : decide ((4096 : Int) < (m : Int)) = false := by simp; omega
  by_cases hbig : 4096 < n
  · have hd : decide ((4096 : Int) < (n : Int)) = true := by simp; omega
    go_wp2_with fail
    go_ret
    exact Truth.mk (Below.refl _ _)
  have hdn : decide ((4096 : Int) < (n : Int)) = false := by simp; omega
  go_wp2_with fail
  refine (listbytes_any p n c A L C w hn1 HR.out HL.out).mono ?_
  rintro e w' ⟨s, rfl, hw, hs0, hs1⟩
  rw [hw]; clear hw w'
  by_cases hs : 1048576 < 2 * (m : Int) + s
  · go_wp2_with fail
    go_ret
    exact Truth.mk (Below.refl _ _)
  have hcm := HA.out.cmds hn1 HL.out
  have hxl := argData_length n L Z
  generalize argData n L Z = xss at hcm hxl
  have HXL := hide hxl
  have HCM := hide hcm
  clear hxl hcm
  go_wp2_with fail
  refine (cloneU16_any HQ.out hm1).mono ?_
  rintro e w0 ⟨qp, rfl, hnu, hb0⟩
  have HNU := hide hnu
  have HB0 := hide hb0
  clear hnu hb0
  go_wp2_with fail
  refine (clone_have (cmds_below HCM.out HB0.out (Nat.le_refl _))).mono ?_
  rintro e w1 ⟨qc, rfl, hha, hb1⟩
  rw [HXL.out] at hha ⊢
  have HHA := hide hha
  have HB1 := hide (HB0.out.trans (hb1.mono HB0.out.size))
  have HNU1 := hide (HNU.out.below hb1 (Nat.le_refl _))
  clear hha hb1
  go_wp2_with fail
  refine (newroot_any _).mono ?_
  rintro e w2 ⟨rfl, rfl⟩
  go_wp2_with fail
  refine (newseqs_any _ _).mono ?_
  rintro e w2 ⟨rfl, rfl⟩
  go_wp2_with fail
  go_loopg [7, 8, 9, 10] n (fun gk vp vc vl i wr => ∃ (k : Nat) (M : Tab) (nb : Nat → Nat) (CV : Nat → Value), k ≤ n ∧ gk = n - k ∧ i = .int .i64 k ∧ M.length ≤ k ∧ Tables w1 wr w1.heap.size (w1.heap.size + 1 + 1) M nb CV vp vc vl)
  case atStart => exact ⟨0, [], _, _, Nat.zero_le _, rfl, rfl, Nat.le_refl _, tables_start w1⟩
  case round =>
    obtain ⟨k, M, nb, CV, hk, hgk, rfl, hMk, hTT⟩ := hrel
    have HG := hide hgk
    have HTT := hide hTT
    obtain ⟨gp, cp, rfl, hcp⟩ := owns_cells hTT.rp (Nat.succ_pos _)
    obtain ⟨gc, cc, rfl, hcc⟩ := owns_cells hTT.rc (Nat.succ_pos _)
    obtain ⟨gl, cl, rfl, hcl⟩ := owns_cells hTT.rl (Nat.succ_pos _)
    obtain ⟨N1, hN1⟩ : ∃ N1, M.length + 1 = N1 := ⟨_, rfl⟩
    rw [hN1] at hcp hcc hcl
    have HN1 := hide hN1
    have hN1a : 1 ≤ N1 := by omega
    have hN1b : N1 ≤ 4097 := by omega
    have hMl : M.length ≤ 1000000 := by omega
    have HCP := hide hcp
    have HCC := hide hcc
    have HCL := hide hcl
    rw [hN1]
    obtain ⟨wA, rfl⟩ : ∃ wA, wA = wr := ⟨_, rfl⟩
    have hBA : w1.heap.size ≤ wA.heap.size := hTT.below.size
    clear hgk hTT hcp hcc hcl hN1
    by_cases hlt : k < n
    · obtain ⟨g, pa, ca, rfl, hc, hby⟩ := (HHA.out.below HTT.out.below (Nat.le_refl _)).2.2 k hlt
      have hby1 : Bytes w1 (.slice pa (xss.getD k []).length ca) (xss.getD k []) := by
        obtain ⟨g', pa', ca', e1, e2, e3⟩ := HHA.out.2.2 k hlt
        obtain rfl : g = g' := by simpa using e1
        have : wA.cell? ⟨g, k, none⟩ = some (.slice pa' (xss.getD k []).length ca') := by
          have hlt' := World.block_lt_of_cell? _ _ e2
          rw [HTT.out.below.cell (p := ⟨g, k, none⟩) (by simpa using hlt')]; exact e2
        rw [hc] at this
        simp only [Option.some.injEq, Value.slice.injEq, true_and] at this
        obtain ⟨rfl, rfl⟩ := this
        exact e3
      have HBY := hide hby
      have HBY1 := hide hby1
      clear hby hby1
      generalize xss.getD k [] = xs at hc HBY HBY1
      go_wp2_with fail
      refine (HTT.out.table.count).mono ?_
      rintro e w5 ⟨rfl, hw⟩
      rw [hw]; clear hw w5
      rw [show (M.length : Int) + 1 = (N1 : Int) by have := HN1.out; omega]
      have t1 : ((N1 : Int) != (N1 : Int)) = false := by simp
      go_upto_if 66 with fail
      go_cut [12] from 51 to 179 (fun v wx => ∃ P : Nat, P < N1 ∧ v = .int .i64 P ∧ wx = wA)
      case first =>
        by_cases hkm : k < m
        · obtain ⟨gq, z, rfl, hz, z0, z1⟩ := (HNU1.out.below HTT.out.below (Nat.le_refl _)).2 k hkm
          obtain ⟨zn, rfl⟩ : ∃ zn : Nat, z = zn := ⟨z.toNat, by omega⟩
          go_wp2_with fail
          go_meet
          case rel => exact ⟨zn % N1, Nat.mod_lt _ (by omega), by simp, rfl⟩
        · go_wp2_with fail
          go_meet
          case rel => exact ⟨0, by omega, rfl, rfl⟩
      case rest =>
        obtain ⟨P, hP, rfl, hwc⟩ := hcut
        rw [hwc]; clear hwc
        have hPM : P ≤ M.length := by have := HN1.out; omega
        go_wp2_with fail
        go_loopg [14, 15] (N1 - 1) (fun gk f j wx => ∃ t q : Nat, 1 ≤ t ∧ t ≤ N1 ∧ gk = N1 - t ∧ f = .int .i64 (-1) ∧ j = .int .i64 t ∧ wx = wA.drewN q ∧ ∀ j', 0 < j' → j' < t → ¬ (par M j' = P ∧ cmd M j' = xs))
        case atStart => exact ⟨1, 0, Nat.le_refl _, hN1a, rfl, rfl, rfl, rfl, fun j' h1 h2 => by omega⟩
        case round =>
          obtain ⟨t, q2, ht1, ht2, hgk, rfl, rfl, hwq, hno⟩ := hrel
          have HG2 := hide hgk
          have HNO := hide hno
          have HTq : Hid (Tables w1 wr w1.heap.size (w1.heap.size + 1 + 1) M nb CV (.slice (some ⟨gp, 0, none⟩) (M.length + 1) cp) (.slice (some ⟨gc, 0, none⟩) (M.length + 1) cc) (.slice (some ⟨gl, 0, none⟩) (M.length + 1) cl)) := by rw [hwq]; exact HTT.out.drewN q2
          have HBq : Hid (Bytes wr (.slice pa xs.length ca) xs) := by rw [hwq]; exact HBY.out.drewN q2
          have hBr : w1.heap.size ≤ wr.heap.size := by rw [hwq]; exact hBA
          clear hgk hno
          by_cases hlt2 : t < N1
          · have hpt : wr.cell? ⟨gp, t, none⟩ = some (.int .i64 (par M t)) := by
              rw [hwq]; have := HCP.out t hlt2; unfold ip at this; rw [if_neg (by omega)] at this; exact this
            have HWQ := hide hwq
            have hct : wr.cell? ⟨gc, t, none⟩ = some (CV t) := by rw [hwq]; exact HCC.out t hlt2
            have hbt := (HTT.out.cv t (by omega) (by have := HN1.out; omega)).below HTq.out.below (Nat.le_refl _)
            have hft := hbt.form
            rw [hft] at hct hbt
            have HBT := hide hbt
            clear hwq hft hbt
            by_cases hpp : par M t = P
            · have ep : ((par M t : Int) == (P : Int)) = true := by simp; omega
              by_cases hcx : cmd M t = xs
              · -- the pair was seen
                have htM : t ≤ M.length := by have := HN1.out; omega
                have hch : child M P xs = (M, t) := by unfold child; rw [find_eq HTT.out.table.good (by omega) htM hpp hcx]
                have HCH := hide hch
                have HCX := hide hcx
                clear hch hcx hpp
                go_wp2_with fail
                refine (equal_yes HBT.out HBq.out HCX.out).mono ?_
                rintro e w5 ⟨rfl, q3, hw⟩
                have HT5 : Hid (Tables w1 w5 w1.heap.size (w1.heap.size + 1 + 1) M nb CV (.slice (some ⟨gp, 0, none⟩) (M.length + 1) cp) (.slice (some ⟨gc, 0, none⟩) (M.length + 1) cc) (.slice (some ⟨gl, 0, none⟩) (M.length + 1) cl)) := by rw [hw]; exact HTq.out.drewN q3
                have HB5 := hide (HBY1.out.below HT5.out.below (Nat.le_refl _))
                clear hw hpt hct ep
                go_wp2_with fail
                refine (HT5.out.table.at hPM).mono ?_
                rintro e w6 ⟨rfl, hw⟩
                rw [hw]; clear hw w6
                go_wp2_with fail
                refine (zzchild_any HT5.out.table hPM hMl HB5.out).mono ?_
                intro e w6 hpost
                obtain ⟨nb', he, hT6, hag, hb6, hf6⟩ := hpost
                rw [HCH.out] at he hT6
                subst he
                have HS6 := hide (HT5.out.child hT6 hb6 hf6).same
                have HB6 := hide (HBY1.out.below HS6.out.below (Nat.le_refl _))
                clear hT6 hag hb6 hf6
                go_wp2_with fail
                refine (zzlast_one HS6.out.table (by omega) htM hMl).mono ?_
                rintro e w7 ⟨rfl, ⟨pb, cb, hc7, hby7⟩, hb7⟩
                have HS7 := hide (HS6.out.step hb7 HS6.out.below.size)
                have HB7 := hide (HBY1.out.below HS7.out.below (Nat.le_refl _))
                have HY7 := hide hby7
                clear hb7 hby7
                generalize cmd M t = yt at hc7 HY7 HCX
                go_wp2_with fail
                refine (equal_yes HY7.out HB7.out HCX.out).mono ?_
                rintro e w8 ⟨rfl, q4, hw⟩
                have HS8 : Hid (Tables w1 w8 w1.heap.size (w1.heap.size + 1 + 1) M nb' CV (.slice (some ⟨gp, 0, none⟩) (M.length + 1) cp) (.slice (some ⟨gc, 0, none⟩) (M.length + 1) cc) (.slice (some ⟨gl, 0, none⟩) (M.length + 1) cl)) := by rw [hw]; exact HS7.out.drewN q4
                clear hw hc7
                go_wp2_with fail
                refine (HS8.out.table.at htM).mono ?_
                rintro e w9 ⟨rfl, hw⟩
                rw [hw]; clear hw w9
                have hqn := neq_node HS8.out.table htM htM
                simp only [decide_true, Bool.not_true] at hqn
                go_wp2_with fail
                refine (HS8.out.table.count).mono ?_
                rintro e w9 ⟨rfl, hw⟩
                rw [hw]; clear hw w9
                rw [show (M.length : Int) + 1 = (N1 : Int) by have := HN1.out; omega]
                go_wp2_with fail
                go_roundg (n - (k + 1))
                case measure => rw [HG.out]; omega
                case rel =>
                  have hfin := HS8.out
                  rw [HN1.out] at hfin
                  exact ⟨k + 1, M, nb', CV, by omega, rfl, by go_num, by omega, hfin⟩
              · -- another command
                have HCX := hide hcx
                clear hcx
                go_wp2_with fail
                refine (equal_no HBT.out HBq.out HCX.out).mono ?_
                rintro e w5 ⟨rfl, q3, hw⟩
                have HW5 := hide hw
                clear hw hpt hct ep
                go_wp2_with fail
                go_roundg (N1 - (t + 1))
                case measure => rw [HG2.out]; omega
                case rel => exact ⟨t + 1, q2 + q3, by omega, by omega, rfl, rfl, by go_num, by rw [HW5.out, HWQ.out]; exact World.drewN_drewN .., fun j' h1 h2 h3 => by by_cases e : j' = t; (· subst e; exact HCX.out h3.2); (· exact HNO.out j' h1 (by omega) h3)⟩
            · -- another parent
              have ep : ((par M t : Int) == (P : Int)) = false := by simp; omega
              have HPP := hide hpp
              clear hpp
              go_wp2_with fail
              go_roundg (N1 - (t + 1))
              case measure => rw [HG2.out]; omega
              case rel => exact ⟨t + 1, q2, by omega, by omega, rfl, rfl, by go_num, HWQ.out, fun j' h1 h2 h3 => by by_cases e : j' = t; (· subst e; exact HPP.out h3.1); (· exact HNO.out j' h1 (by omega) h3)⟩
          · -- the pair was not seen
            have HWQ := hide hwq
            clear hwq
            have hch : child M P xs = (M ++ [(P, xs)], N1) := by
              unfold child
              rw [find_none_of (fun j h0 hj => HNO.out j h0 (by have := HN1.out; omega)), HN1.out]
            have HCH := hide hch
            clear hch
            go_wp2_with fail
            refine (HTq.out.table.at hPM).mono ?_
            rintro e w6 ⟨rfl, hw⟩
            rw [hw]; clear hw w6
            go_wp2_with fail
            refine (zzchild_any HTq.out.table hPM hMl HBq.out).mono ?_
            intro e w6 hpost
            obtain ⟨nb', he, hT6, hag, hb6, hf6⟩ := hpost
            rw [HCH.out] at he hT6
            subst he
            rw [← hag P hPM]
            have HS6 := hide (HTq.out.child hT6 hb6 hf6)
            have HB6 := hide (HBY1.out.below HS6.out.below (Nat.le_refl _))
            have hN1M : N1 ≤ (M ++ [(P, xs)]).length := by have := HN1.out; simp; omega
            have hM1l : (M ++ [(P, xs)]).length ≤ 1000000 := by have := HN1.out; simp; omega
            have hPM1 : P ≤ (M ++ [(P, xs)]).length := by simp; omega
            have hcN : cmd (M ++ [(P, xs)]) N1 = xs := by rw [← HN1.out, cmd_new]
            have hpN : par (M ++ [(P, xs)]) N1 = P := by rw [← HN1.out, par_new]
            have hdN : dep (M ++ [(P, xs)]) N1 = dep M P + 1 := by rw [← HN1.out, dep_new]
            have hdP : dep M P ≤ 4096 := by have := dep_le HTq.out.table.good P hPM; have := HN1.out; omega
            have HCN := hide hcN
            have HPN := hide hpN
            have HDN := hide hdN
            clear hT6 hag hb6 hf6 hcN hpN hdN
            go_wp2_with fail
            refine (zzlast_one HS6.out.table (by omega) hN1M hM1l).mono ?_
            rintro e w7 ⟨rfl, ⟨pb, cb, hc7, hby7⟩, hb7⟩
            have HS7 := hide (HS6.out.step hb7 HS6.out.below.size)
            have HB7 := hide (HBY1.out.below HS7.out.below (Nat.le_refl _))
            have HY7 := hide hby7
            clear hb7 hby7
            generalize cmd (M ++ [(P, xs)]) N1 = yt at hc7 HY7 HCN
            go_wp2_with fail
            refine (equal_yes HY7.out HB7.out HCN.out).mono ?_
            rintro e w8 ⟨rfl, q4, hw⟩
            have HS8 : Hid (Beside w1 w8 w1.heap.size (w1.heap.size + 1 + 1) M (M ++ [(P, xs)]) nb' CV (.slice (some ⟨gp, 0, none⟩) (M.length + 1) cp) (.slice (some ⟨gc, 0, none⟩) (M.length + 1) cc) (.slice (some ⟨gl, 0, none⟩) (M.length + 1) cl)) := by rw [hw]; exact HS7.out.drewN q4
            clear hw hc7
            go_wp2_with fail
            refine (HS8.out.table.count).mono ?_
            rintro e w9 ⟨rfl, hw⟩
            rw [hw]; clear hw w9
            rw [show (((M ++ [(P, xs)]).length : Nat) : Int) + 1 = (N1 : Int) + 1 by have := HN1.out; simp; omega]
            have t2 : ((N1 : Int) + 1 != (N1 : Int) + 1) = false := by simp
            go_wp2_with fail
            refine (HS8.out.table.at hN1M).mono ?_
            rintro e w9 ⟨rfl, hw⟩
            rw [hw]; clear hw w9
            have hqn := neq_node HS8.out.table hN1M hN1M
            simp only [decide_true, Bool.not_true] at hqn
            go_wp2_with fail
            have hcl8 : w8.cell? ⟨gl, P, none⟩ = some (.int .i64 (dep M P)) := by
              have := HS8.out.rl.cells (g := gl) rfl P (.int .i64 (dep M P)) (by simp [show P < M.length + 1 by omega])
              rwa [add_at, Nat.zero_add] at this
            have HID := hide (fun q => ((HS8.out.table.drewN q).id hN1M))
            have HPA := hide (fun q => ((HS8.out.table.drewN q).parent (i := N1) (by omega) hN1M))
            have HLE := hide (fun q => ((HS8.out.table.drewN q).len hN1M))
            rw [HPN.out] at HPA
            rw [HDN.out] at HLE
            have hqp : ∀ q, (binOp .neq 28 (.pointer (some ⟨nb' P, 0, none⟩)) (.pointer (some ⟨nb' P, 0, none⟩))).run Trym.prog (w8.drewN q) = .ok (.bool false) (w8.drewN q) := fun q => by
              have := neq_node (HS8.out.table.drewN q) hPM1 hPM1
              simpa using this
            obtain ⟨D, hD⟩ : ∃ D, dep M P = D := ⟨_, rfl⟩
            rw [hD] at hcl8 HLE hdP
            rw [show ((D + 1 : Nat) : Int) = (D : Int) + 1 by omega] at HLE
            have HD := hide hD
            clear hD hqn
            have hw1 : IntKind.u64.wrap (N1 : Int) = (N1 : Int) := by rw [IntKind.wrap_u64]; omega
            have hw2 : IntKind.i64.wrap ((D : Int) + 1) = (D : Int) + 1 := by rw [IntKind.wrap_i64]; omega
            have t3 : ((D : Int) + 1 != (D : Int) + 1) = false := by simp
            have i1 : (0 : Int) ≤ (P : Int) := by omega
            have i2 : (P : Int) < (N1 : Int) := by omega
            go_quiet (first | (go_at_call 18; exact Calls.quiet_of_same (HID.out _)) | (go_at_call 19; exact Calls.quiet_of_same (HPA.out _)) | (go_at_call 20; exact Calls.quiet_of_same (HLE.out _)))
            obtain ⟨w9, hw9⟩ : ∃ w9, w9 = w8.drewN nq := ⟨_, rfl⟩
            rw [← hw9]
            have HS9 : Hid (Beside w1 w9 w1.heap.size (w1.heap.size + 1 + 1) M (M ++ [(P, xs)]) nb' CV (.slice (some ⟨gp, 0, none⟩) (M.length + 1) cp) (.slice (some ⟨gc, 0, none⟩) (M.length + 1) cc) (.slice (some ⟨gl, 0, none⟩) (M.length + 1) cl)) := by rw [hw9]; exact HS8.out.drewN nq
            clear hw9 hqp hcl8 HID HPA HLE
            obtain ⟨i0, hi, hz0, hz1, hz2⟩ := info_parts Trym.info3
            obtain ⟨j0, hj, hy0, hy1, hy2⟩ := info_parts Trym.info35
            have hrp := HS9.out.rp
            have hrc := HS9.out.rc
            have hrl := HS9.out.rl
            have hap := HS9.out.apart
            rw [HN1.out] at hrp hrc hrl hap
            have RP := hide hrp
            have RC := hide hrc
            have RL := hide hrl
            have HAP := hide hap
            have hB9 : w1.heap.size ≤ w9.heap.size := HS9.out.below.size
            clear hrp hrc hrl hap
            go_wp2_with (first
              | (at_builtin; refine wpList_append_lies _ rfl (.tmp 164) (.tmp 166) 32 rfl w1.heap.size 3 i0 (.int .i64 0) 1 8 Trym.underlying32 hi hz0 hz1 hz2 rfl (by decide) (.slice (some ⟨gp, 0, none⟩) N1 cp) N1 _ rfl (RP.out.alloc _) ⟨w9.heap.size, 0, none⟩ 1 1 [.int .i64 (P : Int)] rfl rfl (cell_one_new _ _ _) (by simp [Value.oneCell']) (by omega) (by unfold maxLen; omega) (by omega) (by simp; omega) (w9.heap.size + 1) (by simp) ?_; intro gp' cp' w10 o1 g1 at1 lt1; have RC10 := hide (owns_other RC.out RP.out g1 (by decide)); have RL10 := hide ((RL.out.alloc _).kept g1 (.inr (Ne.symm HAP.out))); have O1 := hide o1; have G1 := hide g1; have AT1 := hide at1; have hB10 : w1.heap.size ≤ w10.heap.size := Nat.le_trans hB9 (Nat.le_trans (by simp) g1.size); clear o1 g1 at1 lt1)
              | (at_builtin; refine wpList_append_lies _ rfl (.tmp 168) (.tmp 170) 23 rfl w1.heap.size 35 j0 (.slice none 0 0) 1 24 Trym.underlying23 hj hy0 hy1 hy2 rfl (by decide) (.slice (some ⟨gc, 0, none⟩) N1 cc) N1 _ rfl (RC10.out.alloc _) ⟨w10.heap.size, 0, none⟩ 1 1 [.slice pa xs.length ca] rfl rfl (cell_one_new _ _ _) (by simp [Value.oneCell']) (by omega) (by unfold maxLen; omega) (by omega) (by simp; omega) (w10.heap.size + 1) (by simp) ?_; intro gc' cc' w11 o2 g2 at2 lt2; have RL11 := hide (owns_other RL10.out RC10.out g2 (by decide)); have hcl11 : w11.cell? ⟨gl, P, none⟩ = some (.int .i64 (D : Int)) := (owns_cell_at RL11.out hP).trans (by rw [HD.out]); have O2 := hide o2; have G2 := hide g2; have hB11 : w1.heap.size ≤ w11.heap.size := Nat.le_trans hB10 (Nat.le_trans (by simp) g2.size); clear o2 g2 at2 lt2)
              | (at_builtin; refine wpList_append_lies _ rfl (.tmp 172) (.tmp 178) 32 rfl w1.heap.size 3 i0 (.int .i64 0) 1 8 Trym.underlying32 hi hz0 hz1 hz2 rfl (by decide) (.slice (some ⟨gl, 0, none⟩) N1 cl) N1 _ rfl (RL11.out.alloc _) ⟨w11.heap.size, 0, none⟩ 1 1 [.int .i64 ((D : Int) + 1)] rfl rfl (cell_one_new _ _ _) (by simp [Value.oneCell']) (by omega) (by unfold maxLen; omega) (by omega) (by simp; omega) (w11.heap.size + 1) (by simp) ?_; intro gl' cl' w12 o3 g3 at3 lt3; have O3 := hide o3; have G3 := hide g3; have AT3 := hide at3; clear o3 g3 at3 lt3 hcl11))
            go_roundg (n - (k + 1))
            case measure => rw [HG.out]; omega
            case rel =>
              have o1 := O1.out
              have o2 := O2.out
              have o3 := O3.out
              have g1 := G1.out
              have g2 := G2.out
              have g3 := G3.out
              have l1 : (Value.slice (some ⟨gp', 0, none⟩) (N1 + 1) cp').ownBlock = (Value.slice (some ⟨gp, 0, none⟩) N1 cp).ownBlock ∨ (Value.slice (some ⟨gp', 0, none⟩) (N1 + 1) cp').ownBlock = some (w9.heap.size + 1) := by
                rcases AT1.out with h | h
                · exact .inl h.symm
                · exact .inr (by rw [h]; rfl)
              have l3 : (Value.slice (some ⟨gl', 0, none⟩) (N1 + 1) cl').ownBlock = (Value.slice (some ⟨gl, 0, none⟩) N1 cl).ownBlock ∨ (Value.slice (some ⟨gl', 0, none⟩) (N1 + 1) cl').ownBlock = some (w11.heap.size + 1) := by
                rcases AT3.out with h | h
                · exact .inl h.symm
                · exact .inr (by rw [h]; rfl)
              rw [← HD.out] at o3
              rw [← HN1.out] at o1 o2 o3 g1 g2 g3 l1 l3
              have hfin := tables_push hPM hB9 HS9.out HBY1.out o1 g1 l1 o2 g2 o3 g3 l3
              rw [HN1.out] at hfin
              exact ⟨k + 1, M ++ [(P, xs)], nb', _, by omega, rfl, by go_num, by simp; omega, hfin⟩
    · have HTF := hide HTT.out.table
      have HBF := hide HTT.out.below
      go_wp2_with fail
      go_loopg [19] N1 (fun gk i wx => ∃ t : Nat, t ≤ N1 ∧ gk = N1 - t ∧ i = .int .i64 t ∧ wx = wA)
      case atStart => exact ⟨0, Nat.zero_le _, rfl, rfl, rfl⟩
      case round =>
        obtain ⟨t, ht, hgk, rfl, hww⟩ := hrel
        rw [hww]; clear hww
        have HG3 := hide hgk
        clear hgk
        by_cases hlt3 : t < N1
        · have htM : t ≤ M.length := by have := HN1.out; omega
          have t5 : ((t : Int) != (t : Int)) = false := by simp
          go_wp2_with fail
          refine (HTF.out.at htM).mono ?_
          rintro e w9 ⟨rfl, hw⟩
          rw [hw]; clear hw w9
          go_wp2_with fail
          refine (HTF.out.id htM).mono ?_
          rintro e w9 ⟨rfl, hw⟩
          rw [hw]; clear hw w9
          go_wp2_with fail
          go_roundg (N1 - (t + 1))
          case measure => rw [HG3.out]; omega
          case rel => exact ⟨t + 1, by omega, rfl, by go_num, rfl⟩
        · go_wp2_with fail
          go_ret
          have b1 := HB1.out
          exact Truth.mk (b1.trans (HBF.out.mono b1.size))

end Go.Proofs.Qxb6600170aMods
