/-
  THE WALK OF 'FnLastIsSuffixOfLonger'.
-/
import Derived.Test.Qxb6600170aModsHave
namespace Go.Proofs.Qxb6600170aMods
set_option linter.unusedVariables false
set_option linter.unusedSimpArgs false
open Go.RowKit

theorem equal_yes {w : World} {u v : Value} {xs ys : List Int} (hu : Bytes w u xs) (hv : Bytes w v ys) (h : xs = ys) :
    Calls Trym.prog 14 #[u, v] w fun e w' => e = .returned (.bool true) ∧ ∃ q, w' = w.drewN q :=
  (equal_any hu hv).mono fun e w' ⟨h1, h2⟩ => ⟨by rw [h1, decide_eq_true h], h2⟩
theorem equal_no {w : World} {u v : Value} {xs ys : List Int} (hu : Bytes w u xs) (hv : Bytes w v ys) (h : xs ≠ ys) :
    Calls Trym.prog 14 #[u, v] w fun e w' => e = .returned (.bool false) ∧ ∃ q, w' = w.drewN q :=
  (equal_any hu hv).mono fun e w' ⟨h1, h2⟩ => ⟨by rw [h1, decide_eq_false h], h2⟩

theorem below_of_eq {w w' : World} (h : w' = w) : Below w.heap.size w w' := by subst h; exact Below.refl _ _

set_option maxHeartbeats 4000000 in
theorem walk6 (p : Option Addr) (n c : Nat) (A : Nat → Option Addr) (L C : Nat → Nat) (Z : Nat → List Int) (x y : Int) (w : World) (h : ArgIs w p n c A L C Z) (hx : -9223372036854775808 ≤ x ∧ x ≤ 9223372036854775807) (hy : -9223372036854775808 ≤ y ∧ y ≤ 9223372036854775807) :
    Calls Trym.prog 6 #[.slice p n c, .int .i64 x, .int .i64 y] w fun e w' => Truth w e w' := by
  have hn := h.n_le
  have HR := hide h.raw
  have HA := hide h
  clear h
  by_cases hneg : x < 0 ∨ y < 0
  · go_enter Trym.func6, Trym.ntmps6
    go_wp2_with fail
    refine (bytes24 p n c _ _ A L C w hn HR.out).mono ?_
    rintro e w' ⟨t, rfl, hw, ht⟩
    rw [hw]; clear hw w'
    have HT := hide ht
    clear ht
    cases t
    · go_wp2_with fail
      go_ret
      exact Truth.mk (Below.refl _ _)
    obtain ⟨hn1, hL⟩ := HT.out rfl
    have HL := hide hL
    clear hL HT
    by_cases hbig : 65536 < n
    · have hd : decide ((65536 : Int) < (n : Int)) = true := by simp; omega
      go_wp2_with fail
      go_ret
      exact Truth.mk (Below.refl _ _)
    have hd : decide ((65536 : Int) < (n : Int)) = false := by simp; omega
    go_wp2_with fail
    refine (listbytes_any p n c A L C w hn1 HR.out HL.out).mono ?_
    rintro e w' ⟨s, rfl, hw, hs0, hs1⟩
    rw [hw]; clear hw w'
    by_cases hs : 1048576 < s
    · go_wp2_with fail
      go_ret
      exact Truth.mk (Below.refl _ _)
    by_cases hx0 : x < 0
    · have hd2 : decide (x < 0) = true := decide_eq_true hx0
      clear hneg
      go_wp2_with fail
      go_ret
      exact Truth.mk (Below.refl _ _)
    · have hy0 : y < 0 := by omega
      have hd2 : decide (x < 0) = false := decide_eq_false hx0
      have hd3 : decide (y < 0) = true := decide_eq_true hy0
      clear hneg
      go_wp2_with fail
      go_ret
      exact Truth.mk (Below.refl _ _)
  obtain ⟨lo, hi, hlh, hord⟩ : ∃ lo hi : Nat, lo ≤ hi ∧ ((x = lo ∧ y = hi) ∨ (x = hi ∧ y = lo ∧ lo < hi)) := by
    by_cases h : y < x
    · exact ⟨y.toNat, x.toNat, by omega, .inr ⟨by omega, by omega, by omega⟩⟩
    · exact ⟨x.toNat, y.toNat, by omega, .inl ⟨by omega, by omega⟩⟩
  have hhi : hi ≤ 9223372036854775807 := by omega
  clear hneg hx hy
  rcases hord with ⟨rfl, rfl⟩ | ⟨rfl, rfl, hlt⟩
  all_goals
    go_enter Trym.func6, Trym.ntmps6
    go_wp2_with fail
    refine (bytes24 p n c _ _ A L C w hn HR.out).mono ?_
    rintro e w' ⟨t, rfl, hw, ht⟩
    rw [hw]; clear hw w'
    have HT := hide ht
    clear ht
    cases t
    · go_wp2_with fail
      go_ret
      exact Truth.mk (Below.refl _ _)
    obtain ⟨hn1, hL⟩ := HT.out rfl
    have HL := hide hL
    clear hL HT
    by_cases hbig : 65536 < n
    · have hd : decide ((65536 : Int) < (n : Int)) = true := by simp; omega
      go_wp2_with fail
      go_ret
      exact Truth.mk (Below.refl _ _)
    have hd : decide ((65536 : Int) < (n : Int)) = false := by simp; omega
    go_wp2_with fail
    refine (listbytes_any p n c A L C w hn1 HR.out HL.out).mono ?_
    rintro e w' ⟨s, rfl, hw, hs0, hs1⟩
    rw [hw]; clear hw w'
    by_cases hs : 1048576 < s
    · go_wp2_with fail
      go_ret
      exact Truth.mk (Below.refl _ _)
    go_wp2_with fail
    have hcm := HA.out.cmds hn1 HL.out
    have hxl := argData_length n L Z
    generalize argData n L Z = xss at hcm hxl
    refine (clone_have hcm).mono ?_
    rintro e w1 ⟨p', rfl, hhave, hbel⟩
    rw [hxl] at hhave ⊢
    have HXL := hide hxl
    clear hcm hxl
    have HH := hide hhave
    have HB := hide hbel
    clear hhave hbel
    go_wp2_with fail
    refine (newroot_any _).mono ?_
    rintro e w2 ⟨rfl, rfl⟩
    go_wp2_with fail
    refine (newseqs_any _ _).mono ?_
    rintro e w2 ⟨rfl, rfl⟩
    go_wp2_with fail
    have hw0 : ∀ k, (walkTo [] 0 (xss.take k)).2 ≤ (walkTo [] 0 (xss.take k)).1.length ∧ (walkTo [] 0 (xss.take k)).1.length ≤ 1000000 := fun k => by
      refine ⟨(walked good_nil (Nat.le_refl _) _).le, ?_⟩
      have h1 := walkTo_length good_nil (Nat.le_refl 0) (xss.take k)
      have h2 : (xss.take k).length ≤ xss.length := by rw [List.length_take]; omega
      have h3 := HXL.out
      simp at h1; omega
    have HW := hide hw0
    clear hw0
    go_loopg [9, 10] n (fun gk s i wr => ∃ k : Nat, k ≤ n ∧ gk = n - k ∧ i = .int .i64 k ∧ Building w1 w1.heap.size (w1.heap.size + 1 + 1) [] xss w1.heap.size k s wr)
    case atStart =>
      exact ⟨0, Nat.zero_le _, rfl, rfl, fun _ => w1.heap.size, table_start w1, rfl, rfl, (((Below.refl _ _).alloc (Nat.le_refl _) _).alloc (by simp) _).alloc (by simp; omega) _⟩
    case round =>
      obtain ⟨k, hk, hgk, rfl, hbd⟩ := hrel
      have HG := hide hgk
      clear hgk
      by_cases hlt : k < n
      · obtain ⟨nb, hT, rfl, h0, hb1⟩ := hbd
        obtain ⟨g, pa, ca, rfl, hc, hby⟩ := (HH.out.below hb1 (Nat.le_refl _)).2.2 k hlt
        have HT := hide hT
        have H0 := hide h0
        have HB1 := hide hb1
        have HBY := hide hby
        clear hT h0 hb1 hby
        go_wp2_with (go_at_call 16; refine (zzchild_any HT.out (HW.out k).1 (HW.out k).2 HBY.out).mono ?_; intro e w' hpost; obtain ⟨b, he, hnew⟩ := building_step (by have := HXL.out; omega) HB1.out H0.out hpost; subst he; clear hpost)
        go_roundg (n - (k + 1))
        case measure => rw [HG.out]; omega
        case rel => exact ⟨k + 1, by omega, rfl, by go_num, hnew⟩
      · obtain rfl : k = n := by omega
        obtain ⟨nb, hT, rfl, h0, hb1⟩ := hbd
        have hdep := (walked good_nil (Nat.le_refl 0) xss).depth
        have hle := HW.out k
        have htk : xss.take k = xss := List.take_of_length_le (by have := HXL.out; omega)
        rw [htk] at hT hle ⊢
        rw [dep_zero, HXL.out, Nat.zero_add] at hdep
        generalize (walkTo [] 0 xss).1 = M at hT hle hdep
        generalize (walkTo [] 0 xss).2 = S at hT hle hdep ⊢
        obtain ⟨m1, hm1⟩ : ∃ m1, m1 = min lo k := ⟨_, rfl⟩
        obtain ⟨m2, hm2⟩ : ∃ m2, m2 = min hi k := ⟨_, rfl⟩
        have HT := hide hT
        have H0 := hide h0
        have HB1 := hide hb1
        have HM1 := hide hm1
        have HM2 := hide hm2
        have HDP := hide hdep
        have hm1k : m1 ≤ k := by omega
        have hm2k : m2 ≤ k := by omega
        have hm12 : m1 ≤ m2 := by omega
        clear hT h0 hb1 htk hm1 hm2 hdep
        go_wp2_with fail
        refine (zzlast_have HT.out hle.1 hle.2 lo (by omega) _ m1 rfl (by rw [HDP.out]; exact HM1.out)).mono ?_
        rintro e w3 ⟨rfl, hv1, hb3⟩
        have HT3 := hide (HT.out.below hb3)
        have HB3 := hide hb3
        have HV1 := hide hv1
        clear hv1 hb3
        go_wp2_with fail
        refine (zzlast_have HT3.out hle.1 hle.2 hi (by omega) _ m2 rfl (by rw [HDP.out]; exact HM2.out)).mono ?_
        rintro e w4 ⟨rfl, hv2, hb4⟩
        have HT4 := hide (HT3.out.below hb4)
        have HB4 := hide hb4
        have HV1' := hide (HV1.out.below hb4 (Nat.le_refl _))
        have HV2 := hide hv2
        clear hv2 hb4
        go_wp2_with fail
        refine (minint_nat lo k m1 _ HM1.out).mono ?_
        rintro e w5 ⟨rfl, hw⟩
        rw [hw]; clear hw w5
        have t1 : ((m1 : Int) != (m1 : Int)) = false := by simp
        go_wp2_with fail
        refine (minint_nat hi k m2 _ HM2.out).mono ?_
        rintro e w5 ⟨rfl, hw⟩
        rw [hw]; clear hw w5
        have t2 : ((m2 : Int) != (m2 : Int)) = false := by simp
        go_wp2_with fail
        obtain ⟨o, ho⟩ : ∃ o : Nat, (m2 : Int) - (m1 : Int) = (o : Int) := ⟨m2 - m1, by omega⟩
        rw [ho]
        have HO := hide ho
        have hom : o + m1 ≤ m2 := by omega
        clear ho
        go_loopg [15] m1 (fun gk i wr => ∃ t q : Nat, t ≤ m1 ∧ gk = m1 - t ∧ i = .int .i64 t ∧ wr = w4.drewN q)
        case atStart => exact ⟨0, 0, Nat.zero_le _, rfl, rfl, rfl⟩
        case round =>
          obtain ⟨t, q, ht, hgk, rfl, rfl⟩ := hrel
          have HG2 := hide hgk
          clear hgk
          by_cases hlt2 : t < m1
          · obtain ⟨g1, pa1, ca1, e1, hc1, hby1⟩ := HV1'.out.2.2 t hlt2
            obtain ⟨g2, pa2, ca2, e2, hc2, hby2⟩ := HV2.out.2.2 (o + t) (by omega)
            obtain rfl : wr.heap.size = g1 := by simpa using e1
            obtain rfl : w3.heap.size = g2 := by simpa using e2
            have heq : (lastList M S m1).getD t [] = (lastList M S m2).getD (o + t) [] := by
              rw [lastList_get hlt2, lastList_get (by omega)]
              unfold lastAt
              rw [show m1 - 1 - t = m2 - 1 - (o + t) by have := HO.out; omega]
            have HE := hide heq
            have HY1 := hide hby1
            have HY2 := hide hby2
            clear heq hby1 hby2 e1 e2
            generalize (lastList M S m1).getD t [] = xa at *
            generalize (lastList M S m2).getD (o + t) [] = xb at *
            have i1 : (0 : Int) ≤ (t : Int) := by omega
            have i2 : (t : Int) < (m1 : Int) := by omega
            have i3 : (0 : Int) ≤ (o : Int) + (t : Int) := by omega
            have i4 : (o : Int) + (t : Int) < (m2 : Int) := by omega
            have i5 : IntKind.i64.wrap ((o : Int) + (t : Int)) = (o : Int) + (t : Int) := by rw [IntKind.wrap_i64]; omega
            have i6 : ((o : Int) + (t : Int)).toNat = o + t := by omega
            obtain ⟨wq, hwq⟩ : ∃ wq, wq = w4.drewN q := ⟨_, rfl⟩
            rw [← hwq]
            have hc1' : wq.cell? ⟨wr.heap.size, t, none⟩ = some (.slice pa1 xa.length ca1) := by rw [hwq]; exact hc1
            have hc2' : wq.cell? ⟨w3.heap.size, o + t, none⟩ = some (.slice pa2 xb.length ca2) := by rw [hwq]; exact hc2
            have HQ1 : Hid (Bytes wq (.slice pa1 xa.length ca1) xa) := by rw [hwq]; exact HY1.out.drewN q
            have HQ2 : Hid (Bytes wq (.slice pa2 xb.length ca2) xb) := by rw [hwq]; exact HY2.out.drewN q
            have HWQ := hide hwq
            clear hwq hc1 hc2
            go_wp2_with fail
            go_quiet ((go_at_call 14; refine Calls.quiet_of (equal_yes (HQ1.out.drewN _) (HQ2.out.drewN _) HE.out)))
            go_wp2_with fail
            go_roundg (m1 - (t + 1))
            case measure => rw [HG2.out]; omega
            case rel => exact ⟨t + 1, q + nq, by omega, rfl, by go_num, by rw [HWQ.out]; exact World.drewN_drewN ..⟩
          · go_wp2_with fail
            refine (zzlast_have (i := 0) (HT4.out.drewN q) (Nat.zero_le _) hle.2 hi (by omega) _ 0 H0.out (by rw [dep_zero]; omega)).mono ?_
            rintro e w6 ⟨rfl, _, hb6⟩
            have HB6 := hide hb6
            clear hb6
            have t3 : ((0 : Int) != (0 : Int)) = false := by simp
            go_wp2_with fail
            refine (zzlast_nil _ hi).mono ?_
            rintro e w7 ⟨rfl, rfl⟩
            go_wp2_with fail
            go_ret
            have b1 := HB.out
            have b2 := HB1.out
            have b3 := HB3.out
            have b4 := HB4.out
            have b6 := HB6.out
            have s1 := b1.size
            have s2 := b2.size
            have s3 := b3.size
            have s4 := b4.size
            have s6 := b6.size
            simp only [World.heap_drewN] at s6
            have b5 : Below w.heap.size w4 (w4.drewN q) := ⟨rfl, rfl, rfl, Nat.le_refl _, fun _ _ => rfl⟩
            exact Truth.mk ((((((b1.trans (b2.mono s1)).trans (b3.mono (by omega))).trans (b4.mono (by omega))).trans b5).trans (b6.mono (by simp; omega))).alloc (by omega) _)

end Go.Proofs.Qxb6600170aMods
