/-
  THE WALK OF (*points).permute.
-/
import Derived.Test.Qxb6600860aModsMem
namespace Go.Proofs.Qxb6600860aMods
set_option linter.unusedVariables false
set_option linter.unusedSimpArgs false
open Go.RowKit

set_option maxRecDepth 100000 in
set_option maxHeartbeats 2000000 in
theorem permute_any (bs bp bt br base : Nat) (cs : Array Value) (pp pt : Option Addr) (np nt G : Nat) (P T : Nat → Int) (R : Nat → Nat) (x : Int) (s : Nat) (pv : Option Addr) (nv cv : Nat) (ys : List Value) (w : World)
    (b0 : np ≤ 1048576) (b1 : nt ≤ 1048576) (b2 : G ≤ 1048576) (hx : 0 ≤ x) (hx2 : x ≤ 18446744073709551615) (hs : s ≤ 65536) (hbase : base ≤ w.heap.size)
    (hp : Prem (keyOf x s) G R P) (hl0 : R G ≤ np) (hl1 : R G ≤ nt) (wP : ∀ i, (Lit.int .u64 (P i)).wf = true) (wT : ∀ i, (Lit.int .u32 (T i)).wf = true) (wR : ∀ i, R i ≤ 4294967295)
    (hpos : Row w bp 35 .u64 pp np P) (htags : Row w bt 27 .u32 pt nt T) (hruns : w.rowIs br 27 (G + 1) (fun i => .int .u32 (R i))) (hown : w.ownsRow base 27 1 (.slice pv nv cv) nv ys)
    (hst : w.heap[bs]? = some (.cells cs 59 (0, 0))) (hst0 : cs[0]? = some (.slice pp np np)) (hst1 : cs[1]? = some (.slice pt nt nt))
    (hd1 : pt ≠ none → bt ≠ br) (hd2 : (Value.slice pv nv cv).ownBlock ≠ some br) (hd3 : pt ≠ none → (Value.slice pv nv cv).ownBlock ≠ some bt) :
    Calls Trym.prog 30 #[.pointer (some ⟨bs, 0, none⟩), .slice (some ⟨br, 0, none⟩) (G + 1) (G + 1), .int .u64 x, .int .u64 s, .slice pv nv cv] w fun e w' => PermPost w base bp bt np nt G pp pt (keyOf x s) P T R (.slice pv nv cv) e w' := by
  obtain ⟨i0, hi0, hz0, hz1, hz2⟩ := Trym.info27b
  have HP := hide hp
  have HWP := hide wP
  have HWT := hide wT
  have HWR := hide wR
  have HPOS := hide hpos
  have HTAGS := hide htags
  have HRUNS := hide hruns
  have HOWN := hide hown
  have HST := hide hst
  have HS0 := hide hst0
  have HS1 := hide hst1
  have HD1 := hide hd1
  have HD2 := hide hd2
  have HD3 := hide hd3
  clear hp wP wT wR hpos htags hruns hown hst hst0 hst1 hd1 hd2 hd3
  have g1 : IntKind.i64.wrap (G : Int) = (G : Int) := by simp [IntKind.wrap, IntKind.bits, IntKind.signed]; omega
  have g2 : (0 : Int) ≤ (G : Int) := by omega
  have g3 : (G : Int) ≤ (G : Int) + 1 := by omega
  have g4 : (0 : Int) ≤ (cv : Int) := by omega
  go_enter Trym.func30, Trym.ntmps30
  go_wp2_with fail
  have A1 : Hid (w.drew.ownsRow base 27 1 (.slice pv 0 cv) 0 []) := hide (owns_none HOWN.out)
  have A2 : Hid (((List.range G).map fun h => Value.int .u32 ((R h : Nat) : Int)).length = G) := hide (by simp)
  have A3 : Hid (∀ j u, ((List.range G).map fun h => Value.int .u32 ((R h : Nat) : Int))[j]? = some u → w.drew.cell? ((⟨br, 0, none⟩ : Addr).add j) = some u) := hide (by
    intro j u hu
    have hj : j < G := by
      by_cases hj : j < G
      · exact hj
      · rw [List.getElem?_eq_none (by simp; omega)] at hu; cases hu
    rw [show (⟨br, 0, none⟩ : Addr).add j = ⟨br, j, none⟩ from by unfold Addr.add; split <;> simp_all]
    have := HRUNS.out.cell (i := j) (by omega)
    simp [hj] at hu
    rw [← hu]
    exact this)
  have A4 : Hid (∀ u ∈ ((List.range G).map fun h => Value.int .u32 ((R h : Nat) : Int)), u.oneCell' = true) := hide (by
    intro u hu
    obtain ⟨h, _, rfl⟩ := List.mem_map.1 hu
    rfl)
  have A5 : Hid (G ≤ maxLen) := hide (by unfold maxLen; omega)
  have A6 : Hid (G * 4 ≤ 140737488355328) := hide (by omega)
  have A7 : Hid (base ≤ w.drew.heap.size) := hide hbase
  have hB : (Value.slice pv 0 cv).ownBlock = (Value.slice pv nv cv).ownBlock := ownBlock_slice ..
  have HB := hide hB
  clear hB
  go_region_law (refine step_append_any _ rfl (.tmp 19) (.tmp 24) 22 rfl base 27 i0 (.int .u32 0) 4 Trym.underlying22 hi0 hz0 hz1 hz2 rfl (.slice pv 0 cv) (by simp [Act.eval, Act.put]) A1.out ⟨br, 0, none⟩ G (G + 1) ((List.range G).map fun h => .int .u32 ((R h : Nat) : Int)) (by simp [Act.eval, Act.put]) A2.out A3.out A4.out A5.out A6.out A7.out ?_; intro p cap w1 o1 gr1 l1; have O1 := hide o1; have GR1 := hide gr1; have L1 := hide l1; clear o1 gr1 l1)
  have hkb : ∀ k, k < w.heap.size → (Value.slice pv nv cv).ownBlock ≠ some k → w1.heap[k]? = w.heap[k]? := fun k hk hne => GR1.out.block k hk (by rw [HB.out]; exact Ne.symm hne)
  have HKB := hide hkb
  clear hkb
  have HD4 : Hid (pp ≠ none → (Value.slice pv nv cv).ownBlock ≠ some bp) := hide (fun hne => by
    rcases HPOS.out with ⟨h1, _⟩ | ⟨_, c, hb, _⟩
    · exact absurd h1 hne
    · exact own_block_ne HOWN.out hb (by decide))
  have HD5 : Hid ((Value.slice pv nv cv).ownBlock ≠ some bs) := hide (own_block_ne HOWN.out HST.out (by decide))
  by_cases hG : G = 0
  · subst hG
    go_wp2_with fail
    refine wp_loop_rounds 1 ?_; rw [rounds_succ]
    go_wp2_with fail
    go_ret
    refine ⟨p, cap, P, T, R, rfl, O1.out, HPOS.out.keep fun e hb => HKB.out _ hb (HD4.out (some_ne e)), HTAGS.out.keep fun e hb => HKB.out _ hb (HD3.out (some_ne e)), Flag.start HP.out, fun h hh => absurd hh (Nat.not_lt_zero h), ?_, ?_⟩
    · exact ⟨GR1.out.os, GR1.out.tape, GR1.out.output, GR1.out.size, fun k hk ha => HKB.out k hk fun e => ha (.inr (.inr e))⟩
    · rcases L1.out with h | h
      · exact .inl (h.trans HB.out)
      · exact .inr ⟨_, Nat.le_refl _, h⟩
  · obtain ⟨bn, cn, hpv, hbn, hbn2⟩ := O1.out.form (by omega)
    simp only [Value.slice.injEq, true_and] at hpv
    obtain ⟨rfl, rfl⟩ := hpv
    have hn_r : bn ≠ br := by
      rcases L1.out with h | h
      · intro e
        apply HD2.out
        rw [← HB.out, ← h, e]
        rfl
      · have e : bn = w.heap.size := by simpa [Value.ownBlock] using h
        have := HRUNS.out.lt
        omega
    have hn_t : pt ≠ none → bt ≠ br ∧ bt ≠ bn := by
      intro hne
      refine ⟨HD1.out hne, ?_⟩
      rcases L1.out with h | h
      · intro e
        apply HD3.out hne
        rw [← HB.out, ← h, ← e]
        rfl
      · have e : bn = w.heap.size := by simpa [Value.ownBlock] using h
        rcases HTAGS.out with ⟨h1, _⟩ | ⟨_, h2⟩
        · exact absurd h1 hne
        · have := h2.lt
          omega
    obtain ⟨hbase1, hcap1, hcap2, f1, hf1, hf2⟩ := owns_row O1.out
    obtain ⟨ob, hob⟩ : ∃ ob, ob = (Value.slice pv nv cv).ownBlock := ⟨_, rfl⟩
    have hpm : PM w w1 bs bp bt br bn cap np nt G cs ob pp pt P T R R := by
      refine ⟨HPOS.out.keep fun e hb => HKB.out _ hb (HD4.out (some_ne e)), HTAGS.out.keep fun e hb => HKB.out _ hb (HD3.out (some_ne e)), HRUNS.out.of_block (HKB.out _ HRUNS.out.lt HD2.out), ⟨f1, hf1, fun h hh => ?_⟩, ?_, ?_, hcap1, hn_r, hn_t⟩
      · have := hf2 h hh
        simp [hh] at this
        exact this.symm
      · rw [HKB.out bs (Array.getElem?_eq_some_iff.1 HST.out).1 HD5.out]
        exact HST.out
      · exact ⟨GR1.out.os, GR1.out.tape, GR1.out.output, GR1.out.size, fun k hk ha => HKB.out k hk fun e => ha (.inr (.inr (.inr (by rw [hob]; exact e))))⟩
    have HOB := hide hob
    have HPM := hide hpm
    have HBN : Hid (base ≤ bn ∧ G ≤ cap ∧ cap ≤ maxLen ∧ (ob = some bn ∨ w.heap.size ≤ bn)) := hide ⟨hbase1, hcap1, hcap2, by
      rcases L1.out with h | h
      · exact .inl (by rw [hob, ← HB.out, ← h]; rfl)
      · right
        have e : bn = w.heap.size := by simpa [Value.ownBlock] using h
        omega⟩
    clear hob hpm hbase1 hcap1 hcap2 hf1 hf2 hn_r hn_t hbn hbn2
    go_wp2_with fail
    go_loopg [28] G (fun gk i wr => ∃ (k : Nat) (P' T' : Nat → Int) (N : Nat → Nat), k ≤ G ∧ gk = G - k ∧ i = .int .i64 k ∧ PM w wr bs bp bt br bn cap np nt G cs ob pp pt P' T' R N ∧ Flag (keyOf x s) G R P T P' T' N ∧ ∀ h, h < k → N h = R (h + 1))
    case atStart => exact ⟨0, P, T, R, Nat.zero_le _, rfl, rfl, HPM.out, Flag.start HP.out, fun h hh => absurd hh (Nat.not_lt_zero h)⟩
    case round =>
      obtain ⟨k, P', T', N, hk, hgk, rfl, hpm, hfl, hdone⟩ := hrel
      have HG := hide hgk
      have HM := hide hpm
      have HF := hide hfl
      have HDN := hide hdone
      clear hgk hpm hfl hdone HPM
      by_cases hkG : k < G
      · obtain ⟨en, hen⟩ : ∃ en, R (k + 1) = en := ⟨_, rfl⟩
        have c1 : wr.cell? ⟨br, k + 1, none⟩ = some (.int .u32 en) := by rw [HM.out.runs.cell (by omega), hen]
        have hen2 : en ≤ 4294967295 := by rw [← hen]; exact HWR.out _
        have HEN := hide hen
        clear hen
        obtain ⟨wA, rfl⟩ : ∃ wA, wA = wr := ⟨_, rfl⟩
        go_wp2_with fail
        go_loopg [13] (en - N k) (fun gk i wr => ∃ (P' T' : Nat → Int) (N : Nat → Nat), gk = en - N k ∧ PM w wr bs bp bt br bn cap np nt G cs ob pp pt P' T' R N ∧ Flag (keyOf x s) G R P T P' T' N ∧ ∀ h, h < k → N h = R (h + 1))
        case atStart => exact ⟨P', T', N, rfl, HM.out, HF.out, HDN.out⟩
        case round =>
          clear HM HF HDN c1
          obtain ⟨P1, T1, N1, hgk1, hpm1, hfl1, hdone1⟩ := hrel
          obtain ⟨i, hi⟩ : ∃ i, N1 k = i := ⟨_, rfl⟩
          rw [hi] at hgk1
          have c2 := (hpm1.cellNext hkG)
          rw [hi] at c2
          obtain ⟨c2, f2⟩ := c2
          have HG1 := hide hgk1
          have HM1 := hide hpm1
          have HF1 := hide hfl1
          have HDN1 := hide hdone1
          have HI := hide hi
          clear hgk1 hpm1 hfl1 hdone1 hi
          by_cases hlt : i < en
          · have hgoal := HF1.out.goal HP.out hkG (by rw [HI.out, HEN.out]; exact hlt)
            rw [HI.out] at hgoal
            obtain ⟨hi1, hi2, h0, hh0, hk0, _⟩ := hgoal
            have hinp : i < np := by omega
            have hint : i < nt := by omega
            obtain ⟨rfl, cp, fp⟩ := HM1.out.cellPos hinp
            obtain ⟨rfl, ct, ft⟩ := HM1.out.cellTag hint
            have s0 := HM1.out.cellSt HS0.out
            have s1 := HM1.out.cellSt HS1.out
            obtain ⟨v, hv⟩ : ∃ v, P1 i = v := ⟨_, rfl⟩
            obtain ⟨t, htt⟩ : ∃ t, T1 i = t := ⟨_, rfl⟩
            have hvb := bounds_u64' (HF1.out.all (fun z => (Lit.int .u64 z).wf = true) (fun z => (Lit.int .u32 z).wf = true) HWP.out HWT.out i).1
            rw [hv] at hvb hk0 cp
            rw [htt] at ct
            obtain ⟨hv0, hv1⟩ := hvb
            have hkey : IntKind.u64.wrap (v / 2 ^ min s 64 - x) = (h0 : Int) := hk0
            have HK0 := hide hk0
            have HV := hide hv
            have HT := hide htt
            clear hk0 hv htt fp ft hi1 hh0
            go_wp2_with fail
            go_quiet (fail)
            go_wp2_with fail
            go_loopg [14, 15, 16] (rem R N1 G) (fun gk a b c wr => ∃ (Pm Tm : Nat → Int) (N2 : Nat → Nat) (p t : Int) (h : Nat), a = .int .u64 p ∧ b = .int .u32 t ∧ c = .int .u64 h ∧ keyOf x s p = (h : Int) ∧ gk = rem R N2 G ∧ PM w wr bs bp bt br bn cap np nt G cs ob (some ⟨bp, 0, none⟩) (some ⟨bt, 0, none⟩) Pm Tm R N2 ∧ Flag (keyOf x s) G R P T (upd Pm i p) (upd Tm i t) N2 ∧ N2 k = i ∧ ∀ h, h < k → N2 h = R (h + 1))
            case atStart => exact ⟨P1, T1, N1, v, t, h0, rfl, rfl, rfl, HK0.out, rfl, HM1.out.drewN _, by rw [← HV.out, ← HT.out, upd_self, upd_self]; exact HF1.out, HI.out, HDN1.out⟩
            case round =>
              clear HM1 HF1 HDN1 HI c2 f2 cp ct s0 s1 hkey HK0 HV HT hv0 hv1
              obtain ⟨Pm, Tm, N2, p, t, h, rfl, rfl, rfl, hkp, hgk2, hpm2, hfl2, hn2, hdone2⟩ := hrel
              have s0 := hpm2.cellSt HS0.out
              have s1 := hpm2.cellSt HS1.out
              have hpb := bounds_u64' (hfl2.all (fun z => (Lit.int .u64 z).wf = true) (fun z => (Lit.int .u32 z).wf = true) HWP.out HWT.out i).1
              rw [upd_same] at hpb
              obtain ⟨hp0, hp1⟩ := hpb
              have HKP := hide hkp
              have HG2 := hide hgk2
              have HM2 := hide hpm2
              have HF2 := hide hfl2
              have HN2 := hide hn2
              have HDN2 := hide hdone2
              clear hkp hgk2 hpm2 hfl2 hn2 hdone2
              by_cases hhk : h = k
              · subst hhk
                have e1 : ((h : Int) != (h : Int)) = false := by simp
                obtain ⟨_, cp, fp⟩ := HM2.out.cellPos hinp
                have HM3 := hide (HM2.out.setPos rfl i p)
                obtain ⟨_, ct, ft⟩ := HM3.out.cellTag hint
                have HM4 := hide ((HM3.out.setTag rfl i t).drew)
                go_wp2_with fail
                go_region
                obtain ⟨wE, hwE⟩ : ∃ wE, wE = ((wr.setCell ⟨bp, i, none⟩ (.int .u64 p)).setCell ⟨bt, i, none⟩ (.int .u32 t)).drew := ⟨_, rfl⟩
                rw [← hwE]
                rw [← hwE] at HM4
                clear cp fp ct ft s0 s1 hwE HM3
                obtain ⟨c3, f3⟩ := HM4.out.cellNext hkG
                rw [HN2.out] at c3
                have hx := HM4.out.setNext hkG (i + 1)
                rw [show ((i + 1 : Nat) : Int) = (i : Int) + 1 by omega] at hx
                have HX := hide hx
                clear hx
                go_wp2_with fail
                go_roundg (en - (i + 1))
                case measure => rw [HG1.out]; omega
                case rel => exact ⟨_, _, _, by rw [upd_same], HX.out, by have h5 := HF2.out.step hkG (by rw [HN2.out, HEN.out]; exact hlt) (by rw [HN2.out, upd_same]; exact HKP.out); rw [HN2.out] at h5; exact h5, fun h' hh' => by rw [upd_other _ _ (by omega)]; exact HDN2.out h' hh'⟩
              · have hgoal := HF2.out.goal HP.out hkG (by rw [HN2.out, HEN.out]; exact hlt)
                rw [HN2.out, upd_same, HKP.out] at hgoal
                obtain ⟨_, _, h', hhG, hh', himp⟩ := hgoal
                obtain rfl : h = h' := by omega
                obtain ⟨j, hj⟩ : ∃ j, N2 h = j := ⟨_, rfl⟩
                rw [hj] at himp
                obtain ⟨hj1, hj2, hj3, hj4⟩ := himp hhk
                have hjb : j + 1 ≤ 4294967295 := by have := HWR.out (h + 1); omega
                have hjp : j < np := by omega
                have hjt : j < nt := by omega
                have e1 : ((h : Int) != (k : Int)) = true := by simp; omega
                obtain ⟨c3, f3⟩ := HM2.out.cellNext hhG
                rw [hj] at c3
                have hx := HM2.out.setNext hhG (j + 1)
                rw [show ((j + 1 : Nat) : Int) = (j : Int) + 1 by omega] at hx
                have HM3 := hide hx
                have HJ := hide hj
                have HJ1 := hide hj1
                clear hx hj hh' hj1
                go_wp2_with fail
                obtain ⟨wE, hwE⟩ : ∃ wE, wE = wr.setCell ⟨bn, h, none⟩ (.int .u32 ((j : Int) + 1)) := ⟨_, rfl⟩
                rw [← hwE]
                rw [← hwE] at HM3
                clear c3 f3 s0 s1 hwE
                have s0 := HM3.out.cellSt HS0.out
                have s1 := HM3.out.cellSt HS1.out
                obtain ⟨_, cp, fp⟩ := HM3.out.cellPos hjp
                have hpb' := bounds_u64' (HF2.out.all (fun z => (Lit.int .u64 z).wf = true) (fun z => (Lit.int .u32 z).wf = true) HWP.out HWT.out j).1
                rw [upd_other _ _ hj2] at hpb'
                obtain ⟨p', hp'⟩ : ∃ p', Pm j = p' := ⟨_, rfl⟩
                rw [hp'] at cp hpb'
                obtain ⟨hpa, hpc⟩ := hpb'
                have HP' := hide hp'
                clear hp'
                have HM4 := hide ((HM3.out.setPos rfl j p).drew)
                go_region
                obtain ⟨wF, hwF⟩ : ∃ wF, wF = (wE.setCell ⟨bp, j, none⟩ (.int .u64 p)).drew := ⟨_, rfl⟩
                rw [← hwF]
                rw [← hwF] at HM4
                clear s0 s1 cp fp hwF
                have s0 := HM4.out.cellSt HS0.out
                have s1 := HM4.out.cellSt HS1.out
                obtain ⟨_, ct, ft⟩ := HM4.out.cellTag hjt
                obtain ⟨t', ht'⟩ : ∃ t', Tm j = t' := ⟨_, rfl⟩
                rw [ht'] at ct
                have HT' := hide ht'
                clear ht'
                have HM5 := hide ((HM4.out.setTag rfl j t).drew)
                go_wp2_with fail
                go_region
                obtain ⟨wH, hwH⟩ : ∃ wH, wH = (wF.setCell ⟨bt, j, none⟩ (.int .u32 t)).drew := ⟨_, rfl⟩
                rw [← hwH]
                rw [← hwH] at HM5
                clear s0 s1 ct ft hwH
                obtain ⟨h2, hh2⟩ : ∃ h2 : Nat, keyOf x s p' = (h2 : Int) := ⟨(keyOf x s p').toNat, by have := keyOf_nonneg x s p'; omega⟩
                have hkey : IntKind.u64.wrap (p' / 2 ^ min s 64 - x) = (h2 : Int) := hh2
                have HH2 := hide hh2
                clear hh2
                go_wp2_with fail
                go_roundg (rem R (upd N2 h (j + 1)) G)
                case measure => rw [HG2.out]; have := rem_step R N2 h (by rw [HJ.out]; exact HJ1.out) G hhG; rw [HJ.out] at this; omega
                case rel => exact ⟨upd Pm j p, upd Tm j t, upd N2 h (j + 1), p', t', h2, rfl, rfl, rfl, HH2.out, rfl, HM5.out, by
                  have h5 := HF2.out.swap HP.out hkG (by rw [HN2.out, HEN.out]; exact hlt) hhG (by rw [HN2.out, upd_same]; exact HKP.out) hhk
                  rw [HN2.out, HJ.out, ← carry_swap _ _ _ _ hj2, ← carry_swap _ _ _ _ hj2, HP'.out, HT'.out] at h5
                  exact h5, by rw [upd_other _ _ (fun e => hhk e.symm)]; exact HN2.out, fun h' hh' => by
                    by_cases e : h' = h
                    · subst e
                      have := HDN2.out h' hh'
                      rw [HJ.out] at this
                      have := HJ1.out
                      omega
                    · rw [upd_other _ _ e]; exact HDN2.out h' hh'⟩
          · have hhi := HF1.out.high k hkG
            rw [HI.out, HEN.out] at hhi
            go_wp2_with fail
            go_roundg (G - (k + 1))
            case measure => rw [HG.out]; omega
            case rel => exact ⟨k + 1, P1, T1, N1, by omega, rfl, by go_num, HM1.out, HF1.out, fun h hh => by
              by_cases e : h = k
              · rw [e, HI.out, HEN.out]; omega
              · exact HDN1.out h (by omega)⟩
      · go_wp2_with fail
        go_ret
        obtain rfl : k = G := by omega
        obtain ⟨f, hf, hfN⟩ := HM.out.next
        refine ⟨some ⟨bn, 0, none⟩, cap, P', T', N, rfl, row_owns hf HBN.out.1 HBN.out.2.1 HBN.out.2.2.1 (fun i hi => by rw [hfN i hi, HDN.out i hi]), HM.out.pos, HM.out.tags, HF.out, HDN.out, HM.out.kept.mono fun k' hk' ha => ?_, ?_⟩
        · rcases ha with ha | ha | ha | ha
          · exact .inl ha
          · exact .inr (.inl ha)
          · rcases HBN.out.2.2.2 with h | h
            · exact .inr (.inr (by rw [← HOB.out, ha]; exact h))
            · omega
          · exact .inr (.inr (by rw [← HOB.out]; exact ha))
        · rcases HBN.out.2.2.2 with h | h
          · exact .inl (by rw [← HOB.out, h]; rfl)
          · exact .inr ⟨bn, h, rfl⟩

end Go.Proofs.Qxb6600860aMods
