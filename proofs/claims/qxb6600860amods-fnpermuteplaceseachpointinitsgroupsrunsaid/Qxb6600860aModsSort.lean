/-
  THE WALK OF zzSortPairs.
-/
import Derived.Test.Qxb6600860aModsMem
import Derived.Test.Qxb6600860aModsMerge
namespace Go.Proofs.Qxb6600860aMods
set_option linter.unusedVariables false
set_option linter.unusedSimpArgs false
open Go.RowKit

set_option maxHeartbeats 1000000 in
theorem pairLess_any (a b c d : Int) (w : World) : Calls Trym.prog 32 #[.int .u64 a, .int .u32 b, .int .u64 c, .int .u32 d] w fun e w' => e = .returned (.bool (decide (a < c ∨ (a = c ∧ b < d)))) ∧ w' = w := by
  by_cases h1 : a < c
  · rw [decide_eq_true (.inl h1)]
    go_enter Trym.func32, Trym.ntmps32
    go_wp2
    go_ret
    exact ⟨rfl, rfl⟩
  · by_cases h2 : a = c
    · subst h2
      have e1 : (a == a) = true := by simp
      by_cases h3 : b < d
      · rw [decide_eq_true (.inr ⟨rfl, h3⟩)]
        go_enter Trym.func32, Trym.ntmps32
        go_wp2
        go_ret
        exact ⟨rfl, rfl⟩
      · rw [decide_eq_false (by omega)]
        go_enter Trym.func32, Trym.ntmps32
        go_wp2
        go_ret
        exact ⟨rfl, rfl⟩
    · have e1 : (a == c) = false := by simpa using h2
      rw [decide_eq_false (by omega)]
      clear h2
      go_enter Trym.func32, Trym.ntmps32
      go_wp2
      go_ret
      exact ⟨rfl, rfl⟩

/-- THE MEMORY OF THE SORT. -/
structure SM (w wr : World) (H n ba bb ta tb : Nat) (A B TA TB : Nat → Int) : Prop where
  ra : wr.rowIs ba 35 n (fun i => .int .u64 (A i))
  rb : wr.rowIs bb 27 n (fun i => .int .u32 (B i))
  rta : wr.rowIs ta 35 n (fun i => .int .u64 (TA i))
  rtb : wr.rowIs tb 27 n (fun i => .int .u32 (TB i))
  la : H ≤ ba
  lb : H ≤ bb
  lta : H ≤ ta
  ltb : H ≤ tb
  d1 : ba ≠ ta
  d2 : bb ≠ tb
  below : Below H w wr

theorem SM.drewN {w wr : World} {H n ba bb ta tb : Nat} {A B TA TB : Nat → Int} (h : SM w wr H n ba bb ta tb A B TA TB) (z : Nat) : SM w (wr.drewN z) H n ba bb ta tb A B TA TB :=
  ⟨h.ra, h.rb, h.rta, h.rtb, h.la, h.lb, h.lta, h.ltb, h.d1, h.d2, h.below.trans (below_drewN _ _ _)⟩

theorem SM.swap {w wr : World} {H n ba bb ta tb : Nat} {A B TA TB : Nat → Int} (h : SM w wr H n ba bb ta tb A B TA TB) : SM w wr H n ta tb ba bb TA TB A B :=
  ⟨h.rta, h.rtb, h.ra, h.rb, h.lta, h.ltb, h.la, h.lb, Ne.symm h.d1, Ne.symm h.d2, h.below⟩

theorem SM.setTA {w wr : World} {H n ba bb ta tb : Nat} {A B TA TB : Nat → Int} (h : SM w wr H n ba bb ta tb A B TA TB) (k : Nat) (v : Int) : SM w (wr.setCell ⟨ta, k, none⟩ (.int .u64 v)) H n ba bb ta tb A B (upd TA k v) TB := by
  refine ⟨h.ra.setOther h.d1 _, h.rb.setOther (row_ne h.rb h.rta (by decide)) _, (h.rta.set k _).congr fun i hi => ?_, h.rtb.setOther (row_ne h.rtb h.rta (by decide)) _, h.la, h.lb, h.lta, h.ltb, h.d1, h.d2, h.below.setCell h.lta _⟩
  unfold upd
  by_cases e : i = k
  · rw [if_pos e, if_pos e]
  · rw [if_neg e, if_neg e]

theorem SM.setTB {w wr : World} {H n ba bb ta tb : Nat} {A B TA TB : Nat → Int} (h : SM w wr H n ba bb ta tb A B TA TB) (k : Nat) (v : Int) : SM w (wr.setCell ⟨tb, k, none⟩ (.int .u32 v)) H n ba bb ta tb A B TA (upd TB k v) := by
  refine ⟨h.ra.setOther (row_ne h.ra h.rtb (by decide)) _, h.rb.setOther h.d2 _, h.rta.setOther (row_ne h.rta h.rtb (by decide)) _, (h.rtb.set k _).congr fun i hi => ?_, h.la, h.lb, h.lta, h.ltb, h.d1, h.d2, h.below.setCell h.ltb _⟩
  unfold upd
  by_cases e : i = k
  · rw [if_pos e, if_pos e]
  · rw [if_neg e, if_neg e]

/-- The first copy. -/
def Copied (w wr : World) (n : Nat) (P T : Nat → Int) (k : Nat) : Prop :=
  Below w.heap.size w wr ∧ wr.heap.size = w.heap.size + 2 ∧ ∃ A B : Nat → Int, wr.rowIs w.heap.size 35 n (fun i => .int .u64 (A i)) ∧ wr.rowIs (w.heap.size + 1) 27 n (fun i => .int .u32 (B i)) ∧ ∀ i, i < k → A i = P i ∧ B i = T i

theorem Copied.step {w wr : World} {n : Nat} {P T : Nat → Int} {k : Nat} (h : Copied w wr n P T k) {v u : Int} (hv : P k = v) (hu : T k = u) : Copied w ((wr.setCell ⟨w.heap.size, k, none⟩ (.int .u64 v)).setCell ⟨w.heap.size + 1, k, none⟩ (.int .u32 u)) n P T (k + 1) := by
  obtain ⟨h1, h2, A, B, h3, h4, h5⟩ := h
  refine ⟨(h1.setCell (Nat.le_refl _) _).setCell (Nat.le_succ _) _, by simpa using h2, upd A k v, upd B k u, ((h3.set k _).setOther (show w.heap.size ≠ w.heap.size + 1 by omega) _).congr fun i hi => ?_, ((h4.setOther (show w.heap.size + 1 ≠ w.heap.size by omega) _).set k _).congr fun i hi => ?_, fun i hi => ?_⟩
  · unfold upd
    by_cases e : i = k
    · rw [if_pos e, if_pos e]
    · rw [if_neg e, if_neg e]
  · unfold upd
    by_cases e : i = k
    · rw [if_pos e, if_pos e]
    · rw [if_neg e, if_neg e]
  · by_cases e : i = k
    · rw [e, upd_same, upd_same]; exact ⟨hv.symm, hu.symm⟩
    · rw [upd_other A v e, upd_other B u e]; exact h5 i (by omega)

def SortPost (w : World) (n : Nat) (P T : Nat → Int) (e : Ending) (w' : World) : Prop :=
  ∃ (ba bb : Nat) (A B : Nat → Int), e = .returned (.tuple #[.slice (some ⟨ba, 0, none⟩) n n, .slice (some ⟨bb, 0, none⟩) n n]) ∧ Below w.heap.size w w' ∧ w'.rowIs ba 35 n (fun i => .int .u64 (A i)) ∧ w'.rowIs bb 27 n (fun i => .int .u32 (B i)) ∧ Srt A B 0 n ∧ (prs A B 0 n).Perm (prs P T 0 n)

set_option maxRecDepth 100000 in
set_option maxHeartbeats 4000000 in
theorem sort_any (p0 p1 : Option Addr) (n c0 c1 : Nat) (P T : Nat → Int) (w : World) (hn : n ≤ 1048576) (h0 : IntsF w .u64 p0 n P) (h1 : IntsF w .u32 p1 n T) :
    Calls Trym.prog 31 #[.slice p0 n c0, .slice p1 n c1] w fun e w' => SortPost w n P T e w' := by
  have hmk := fun w => run_make_row' (P := Trym.prog) 30 35 (.int .u64 0) 8 Trym.underlying30 Trym.info35 rfl .i64 .i64 n (by omega) (by omega) w
  have hmk2 := fun w => run_make_row' (P := Trym.prog) 22 27 (.int .u32 0) 4 Trym.underlying22 Trym.info27 rfl .i64 .i64 n (by omega) (by omega) w
  have H0 := hide h0
  have H1 := hide h1
  clear h0 h1
  go_enter Trym.func31, Trym.ntmps31
  go_wp2_with fail
  go_loopg [9] n (fun gk i wr => ∃ k : Nat, k ≤ n ∧ gk = n - k ∧ i = .int .i64 k ∧ Copied w wr n P T k)
  case atStart =>
    refine ⟨0, Nat.zero_le _, rfl, rfl, ((Below.refl _ _).alloc (Nat.le_refl _) _).alloc (by simp) _, by simp, fun _ => 0, fun _ => 0, (World.rowIs_made w _ n 35).alloc _, ?_, fun i hi => absurd hi (Nat.not_lt_zero i)⟩
    have := World.rowIs_made (w.alloc (.cells (madeCells #[.int .u64 0] n) 35)) (.int .u32 0) n 27
    rw [World.size_alloc] at this
    exact this
  case round =>
    obtain ⟨k, hk, hgk, rfl, hcp⟩ := hrel
    have HG := hide hgk
    have HC := hide hcp
    clear hgk hcp
    by_cases hlt : k < n
    · obtain ⟨b, o, rfl, hc1⟩ := H0.out.2.2 (by omega)
      obtain ⟨b', o', rfl, hc2⟩ := H1.out.2.2 (by omega)
      obtain ⟨v, hv⟩ : ∃ v, P k = v := ⟨_, rfl⟩
      obtain ⟨u, hu⟩ : ∃ u, T k = u := ⟨_, rfl⟩
      have hb : b < w.heap.size := World.block_lt_of_cell? _ _ (hc1 k hlt)
      have hb' : b' < w.heap.size := World.block_lt_of_cell? _ _ (hc2 k hlt)
      have HST := hide (HC.out.step hv hu)
      obtain ⟨h1, h2, A, B, h3, h4, h5⟩ := HC.out
      have e1 : wr.cell? ⟨b, o + k, none⟩ = some (.int .u64 v) := by rw [h1.cell (p := ⟨b, o + k, none⟩) hb, hc1 k hlt, hv]
      have e2 : wr.cell? ⟨w.heap.size, k, none⟩ = some (.int .u64 (A k)) := h3.cell hlt
      have e3 : wr.frozen? ⟨w.heap.size, k, none⟩ = false := h3.frozen k
      have e4 : (wr.setCell ⟨w.heap.size, k, none⟩ (.int .u64 v)).cell? ⟨b', o' + k, none⟩ = some (.int .u32 u) := by
        have h1' : Below w.heap.size w (wr.setCell ⟨w.heap.size, k, none⟩ (.int .u64 v)) := h1.setCell (Nat.le_refl _) _
        rw [h1'.cell (p := ⟨b', o' + k, none⟩) hb', hc2 k hlt, hu]
      have h6 := h4.setOther (a := ⟨w.heap.size, k, none⟩) (show w.heap.size + 1 ≠ w.heap.size by omega) (.int .u64 v)
      have e5 : (wr.setCell ⟨w.heap.size, k, none⟩ (.int .u64 v)).cell? ⟨w.heap.size + 1, k, none⟩ = some (.int .u32 (B k)) := h6.cell hlt
      have e6 : (wr.setCell ⟨w.heap.size, k, none⟩ (.int .u64 v)).frozen? ⟨w.heap.size + 1, k, none⟩ = false := h6.frozen k
      clear h1 h2 h3 h4 h5 h6 hv hu hc1 hc2
      go_wp2_with fail
      go_roundg (n - (k + 1))
      case measure => rw [HG.out]; omega
      case rel => exact ⟨k + 1, by omega, rfl, by go_num, HST.out⟩
    · obtain rfl : k = n := by omega
      obtain ⟨wA, rfl⟩ : ∃ wA, wA = wr := ⟨_, rfl⟩
      obtain ⟨h1, h2, A, B, h3, h4, h5⟩ := HC.out
      have hSM : SM w ((wA.alloc (.cells (madeCells #[.int .u64 0] k) 35)).alloc (.cells (madeCells #[.int .u32 0] k) 27)) w.heap.size k w.heap.size (w.heap.size + 1) wA.heap.size (wA.heap.size + 1) A B (fun _ => 0) (fun _ => 0) := by
        refine ⟨(h3.alloc _).alloc _, (h4.alloc _).alloc _, (World.rowIs_made wA _ k 35).alloc _, ?_, Nat.le_refl _, Nat.le_succ _, by omega, by omega, by omega, by omega, (h1.alloc (by omega) _).alloc (by simp; omega) _⟩
        have := World.rowIs_made (wA.alloc (.cells (madeCells #[.int .u64 0] k) 35)) (.int .u32 0) k 27
        rw [World.size_alloc] at this
        exact this
      rw [h2] at hSM
      have HSM := hide hSM
      have HPE : Hid ((prs A B 0 k).Perm (prs P T 0 k)) := hide (List.Perm.of_eq (prs_congr fun x _ hx => h5 x hx))
      clear hSM h1 h3 h4 h5 HC hlt
      go_wp2_with fail
      obtain ⟨n, rfl⟩ : ∃ n, n = k := ⟨_, rfl⟩
      go_loopg [7, 8, 10, 11, 12] (n - 1) (fun gk va vb vta vtb vw wr => ∃ (ba bb ta tb W : Nat) (A B TA TB : Nat → Int), va = .slice (some ⟨ba, 0, none⟩) n n ∧ vb = .slice (some ⟨bb, 0, none⟩) n n ∧ vta = .slice (some ⟨ta, 0, none⟩) n n ∧ vtb = .slice (some ⟨tb, 0, none⟩) n n ∧ vw = .int .i64 W ∧ 1 ≤ W ∧ gk = n - W ∧ SM w wr w.heap.size n ba bb ta tb A B TA TB ∧ Runs A B W n ∧ (prs A B 0 n).Perm (prs P T 0 n))
      case atStart => exact ⟨_, _, _, _, 1, A, B, _, _, rfl, rfl, rfl, rfl, rfl, Nat.le_refl _, rfl, HSM.out, Runs.one A B n, HPE.out⟩
      case round =>
        clear HSM HPE hmk hmk2 H0 H1
        obtain ⟨ba, bb, ta, tb, W, A, B, TA, TB, rfl, rfl, rfl, rfl, rfl, hW1, hgk1, hsm, hruns, hperm⟩ := hrel
        have HG1 := hide hgk1
        have HSM := hide hsm
        have HRU := hide hruns
        have HPE := hide hperm
        clear hgk1 hsm hruns hperm
        by_cases hWn : W < n
        · obtain ⟨wA, rfl⟩ : ∃ wA, wA = wr := ⟨_, rfl⟩
          go_wp2_with fail
          go_loopg [13] n (fun gk vlo wr => ∃ (m lo : Nat) (TA TB : Nat → Int), lo = m * (2 * W) ∧ lo ≤ n + 2 * W ∧ vlo = .int .i64 lo ∧ gk = n - lo ∧ SM w wr w.heap.size n ba bb ta tb A B TA TB ∧ Mid A B TA TB W n m)
          case atStart => exact ⟨0, 0, TA, TB, by rw [Nat.zero_mul], Nat.zero_le _, rfl, rfl, HSM.out, Mid.start ..⟩
          case round =>
            clear HSM
            obtain ⟨m, lo, TA, TB, hlo, hlo2, rfl, hgk2, hsm, hmid⟩ := hrel
            have HLO := hide hlo
            have HG2 := hide hgk2
            have HSM := hide hsm
            have HMI := hide hmid
            clear hlo hgk2 hsm hmid
            by_cases hln : lo < n
            · obtain ⟨mid, hmd⟩ : ∃ mid, mid = min (lo + W) n := ⟨_, rfl⟩
              obtain ⟨hi, hhi⟩ : ∃ hi, hi = min (lo + 2 * W) n := ⟨_, rfl⟩
              have hlm : lo ≤ mid := by omega
              have hmh : mid ≤ hi := by omega
              have hhn : hi ≤ n := by omega
              have q1 : (if (n : Int) < (lo : Int) + (W : Int) then (n : Int) else (lo : Int) + (W : Int)) = (mid : Int) := by split <;> omega
              have q2 : (if (n : Int) < (lo : Int) + 2 * (W : Int) then (n : Int) else (lo : Int) + 2 * (W : Int)) = (hi : Int) := by split <;> omega
              have HMD := hide hmd
              have HHI := hide hhi
              clear hmd hhi
              go_wp2_with fail
              have HLS : Hid (Srt A B lo mid) := hide (by rw [HMD.out]; exact runs_left HRU.out HLO.out)
              have HRS : Hid (Srt A B mid hi) := hide (by rw [HMD.out, HHI.out]; exact runs_right HRU.out HLO.out)
              obtain ⟨wB, rfl⟩ : ∃ wB, wB = wr := ⟨_, rfl⟩
              go_loopg [16, 17, 18] (hi - lo) (fun gk vi vj vk wr => ∃ (i j k : Nat) (TA' TB' : Nat → Int), vi = .int .i64 i ∧ vj = .int .i64 j ∧ vk = .int .i64 k ∧ k ≤ hi ∧ gk = hi - k ∧ SM w wr w.heap.size n ba bb ta tb A B TA' TB' ∧ Mrg A B TA' TB' lo mid hi i j k ∧ ∀ x, x < lo → TA' x = TA x ∧ TB' x = TB x)
              case atStart => exact ⟨lo, mid, lo, TA, TB, rfl, rfl, rfl, by omega, rfl, HSM.out, Mrg.start A B TA TB hlm hmh, fun x _ => ⟨rfl, rfl⟩⟩
              case round =>
                clear HSM
                obtain ⟨i, j, k, TA', TB', rfl, rfl, rfl, hkh, hgk3, hsm, hmrg, hsame⟩ := hrel
                have j1 := hmrg.i1
                have j2 := hmrg.i2
                have j3 := hmrg.j1
                have j4 := hmrg.j2
                have j5 := hmrg.k1
                have HG3 := hide hgk3
                have HS := hide hsm
                have HMR := hide hmrg
                have HSA := hide hsame
                clear hgk3 hsm hmrg hsame q1 q2
                by_cases hk : k < hi
                · by_cases him : i < mid
                  · by_cases hjh : j < hi
                    · obtain ⟨ai, hai⟩ : ∃ v, A i = v := ⟨_, rfl⟩
                      obtain ⟨bi, hbi⟩ : ∃ v, B i = v := ⟨_, rfl⟩
                      obtain ⟨aj, haj⟩ : ∃ v, A j = v := ⟨_, rfl⟩
                      obtain ⟨bj, hbj⟩ : ∃ v, B j = v := ⟨_, rfl⟩
                      have y1 : wr.cell? ⟨ba, j, none⟩ = some (.int .u64 aj) := by rw [HS.out.ra.cell (by omega), haj]
                      have y2 : wr.cell? ⟨bb, j, none⟩ = some (.int .u32 bj) := by rw [HS.out.rb.cell (by omega), hbj]
                      have y3 : wr.cell? ⟨ba, i, none⟩ = some (.int .u64 ai) := by rw [HS.out.ra.cell (by omega), hai]
                      have y4 : wr.cell? ⟨bb, i, none⟩ = some (.int .u32 bi) := by rw [HS.out.rb.cell (by omega), hbi]
                      by_cases hless : aj < ai ∨ (aj = ai ∧ bj < bi)
                      · have HPL : Hid (∀ w, Calls Trym.prog 32 #[.int .u64 aj, .int .u32 bj, .int .u64 ai, .int .u32 bi] w fun e w' => e = .returned (.bool true) ∧ w' = w) := hide (fun w => by have h := pairLess_any aj bj ai bi w; rw [decide_eq_true hless] at h; exact h)
                        have HLE : Hid (i < mid → le2 (A j, B j) (A i, B i)) := hide (fun _ => by rw [hai, hbi, haj, hbj]; unfold le2; simp only; omega)
                        obtain ⟨av, rfl⟩ : ∃ v, v = aj := ⟨_, rfl⟩
                        obtain ⟨bv, rfl⟩ : ∃ v, v = bj := ⟨_, rfl⟩
                        have HAV := hide haj
                        have HBV := hide hbj
                        clear hai hbi haj hbj hless
                        go_wp2_with fail
                        go_quiet ((go_at_call 32; exact Calls.quiet_of_same (HPL.out _)))
                        obtain ⟨wq, hwq⟩ : ∃ wq, wq = wr.drewN nq := ⟨_, rfl⟩
                        have HSq := hide (HS.out.drewN nq)
                        rw [← hwq]
                        rw [← hwq] at HSq
                        clear HS y1 y2 y3 y4 hwq
                        obtain ⟨_, HS⟩ : True ∧ Hid (SM w wq w.heap.size n ba bb ta tb A B TA' TB') := ⟨trivial, HSq⟩
                        have HS1 := hide (HS.out.setTA k av)
                        have HS2 := hide (HS1.out.setTB k bv)
                        have x1 : wq.cell? ⟨ba, j, none⟩ = some (.int .u64 av) := by rw [HS.out.ra.cell (by omega), HAV.out]
                        have x2 := HS.out.rta.cell (show k < n by omega)
                        have x3 := HS.out.rta.frozen k
                        have x4 : (wq.setCell ⟨ta, k, none⟩ (.int .u64 av)).cell? ⟨bb, j, none⟩ = some (.int .u32 bv) := by rw [HS1.out.rb.cell (by omega), HBV.out]
                        have x5 := HS1.out.rtb.cell (show k < n by omega)
                        have x6 := HS1.out.rtb.frozen k
                        go_wp2_with fail
                        go_roundg (hi - (k + 1))
                        case measure => rw [HG3.out]; omega
                        case rel => exact ⟨i, j + 1, k + 1, upd TA' k av, upd TB' k bv, by go_num, by go_num, by go_num, by omega, rfl, HS2.out, by have h9 := HMR.out.takeRight HLS.out HRS.out hjh (fun hi' => HLE.out hi'); rw [HAV.out, HBV.out] at h9; exact h9, fun x hx => by rw [upd_other TA' av (by omega), upd_other TB' bv (by omega)]; exact HSA.out x hx⟩
                      · have HPL : Hid (∀ w, Calls Trym.prog 32 #[.int .u64 aj, .int .u32 bj, .int .u64 ai, .int .u32 bi] w fun e w' => e = .returned (.bool false) ∧ w' = w) := hide (fun w => by have h := pairLess_any aj bj ai bi w; rw [decide_eq_false hless] at h; exact h)
                        have HLE : Hid (j < hi → le2 (A i, B i) (A j, B j)) := hide (fun _ => by rw [hai, hbi, haj, hbj]; unfold le2; simp only; omega)
                        obtain ⟨av, rfl⟩ : ∃ v, v = ai := ⟨_, rfl⟩
                        obtain ⟨bv, rfl⟩ : ∃ v, v = bi := ⟨_, rfl⟩
                        have HAV := hide hai
                        have HBV := hide hbi
                        clear hai hbi haj hbj hless
                        go_wp2_with fail
                        go_quiet ((go_at_call 32; exact Calls.quiet_of_same (HPL.out _)))
                        obtain ⟨wq, hwq⟩ : ∃ wq, wq = wr.drewN nq := ⟨_, rfl⟩
                        have HSq := hide (HS.out.drewN nq)
                        rw [← hwq]
                        rw [← hwq] at HSq
                        clear HS y1 y2 y3 y4 hwq
                        obtain ⟨_, HS⟩ : True ∧ Hid (SM w wq w.heap.size n ba bb ta tb A B TA' TB') := ⟨trivial, HSq⟩
                        have HS1 := hide (HS.out.setTA k av)
                        have HS2 := hide (HS1.out.setTB k bv)
                        have x1 : wq.cell? ⟨ba, i, none⟩ = some (.int .u64 av) := by rw [HS.out.ra.cell (by omega), HAV.out]
                        have x2 := HS.out.rta.cell (show k < n by omega)
                        have x3 := HS.out.rta.frozen k
                        have x4 : (wq.setCell ⟨ta, k, none⟩ (.int .u64 av)).cell? ⟨bb, i, none⟩ = some (.int .u32 bv) := by rw [HS1.out.rb.cell (by omega), HBV.out]
                        have x5 := HS1.out.rtb.cell (show k < n by omega)
                        have x6 := HS1.out.rtb.frozen k
                        go_wp2_with fail
                        go_roundg (hi - (k + 1))
                        case measure => rw [HG3.out]; omega
                        case rel => exact ⟨i + 1, j, k + 1, upd TA' k av, upd TB' k bv, by go_num, by go_num, by go_num, by omega, rfl, HS2.out, by have h9 := HMR.out.takeLeft HLS.out HRS.out him (fun hj => HLE.out hj); rw [HAV.out, HBV.out] at h9; exact h9, fun x hx => by rw [upd_other TA' av (by omega), upd_other TB' bv (by omega)]; exact HSA.out x hx⟩
                    · obtain ⟨av, hai⟩ : ∃ v, A i = v := ⟨_, rfl⟩
                      obtain ⟨bv, hbi⟩ : ∃ v, B i = v := ⟨_, rfl⟩
                      have HLE : Hid (j < hi → le2 (A i, B i) (A j, B j)) := hide (fun h => absurd h hjh)
                      have HAV := hide hai
                      have HBV := hide hbi
                      clear hai hbi
                      have HS1 := hide (HS.out.setTA k av)
                      have HS2 := hide (HS1.out.setTB k bv)
                      have x1 : wr.cell? ⟨ba, i, none⟩ = some (.int .u64 av) := by rw [HS.out.ra.cell (by omega), HAV.out]
                      have x2 := HS.out.rta.cell (show k < n by omega)
                      have x3 := HS.out.rta.frozen k
                      have x4 : (wr.setCell ⟨ta, k, none⟩ (.int .u64 av)).cell? ⟨bb, i, none⟩ = some (.int .u32 bv) := by rw [HS1.out.rb.cell (by omega), HBV.out]
                      have x5 := HS1.out.rtb.cell (show k < n by omega)
                      have x6 := HS1.out.rtb.frozen k
                      go_wp2_with fail
                      go_roundg (hi - (k + 1))
                      case measure => rw [HG3.out]; omega
                      case rel => exact ⟨i + 1, j, k + 1, upd TA' k av, upd TB' k bv, by go_num, by go_num, by go_num, by omega, rfl, HS2.out, by have h9 := HMR.out.takeLeft HLS.out HRS.out him (fun hj => HLE.out hj); rw [HAV.out, HBV.out] at h9; exact h9, fun x hx => by rw [upd_other TA' av (by omega), upd_other TB' bv (by omega)]; exact HSA.out x hx⟩
                  · have hjh : j < hi := by omega
                    obtain ⟨av, haj⟩ : ∃ v, A j = v := ⟨_, rfl⟩
                    obtain ⟨bv, hbj⟩ : ∃ v, B j = v := ⟨_, rfl⟩
                    have HLE : Hid (i < mid → le2 (A j, B j) (A i, B i)) := hide (fun h => absurd h him)
                    have HAV := hide haj
                    have HBV := hide hbj
                    clear haj hbj
                    have HS1 := hide (HS.out.setTA k av)
                    have HS2 := hide (HS1.out.setTB k bv)
                    have x1 : wr.cell? ⟨ba, j, none⟩ = some (.int .u64 av) := by rw [HS.out.ra.cell (by omega), HAV.out]
                    have x2 := HS.out.rta.cell (show k < n by omega)
                    have x3 := HS.out.rta.frozen k
                    have x4 : (wr.setCell ⟨ta, k, none⟩ (.int .u64 av)).cell? ⟨bb, j, none⟩ = some (.int .u32 bv) := by rw [HS1.out.rb.cell (by omega), HBV.out]
                    have x5 := HS1.out.rtb.cell (show k < n by omega)
                    have x6 := HS1.out.rtb.frozen k
                    go_wp2_with fail
                    go_roundg (hi - (k + 1))
                    case measure => rw [HG3.out]; omega
                    case rel => exact ⟨i, j + 1, k + 1, upd TA' k av, upd TB' k bv, by go_num, by go_num, by go_num, by omega, rfl, HS2.out, by have h9 := HMR.out.takeRight HLS.out HRS.out hjh (fun hi' => HLE.out hi'); rw [HAV.out, HBV.out] at h9; exact h9, fun x hx => by rw [upd_other TA' av (by omega), upd_other TB' bv (by omega)]; exact HSA.out x hx⟩
                · obtain rfl : k = hi := by omega
                  have HST : Hid (Mid A B TA' TB' W n (m + 1)) := hide (HMI.out.step HLO.out hln (by rw [← HHI.out, ← HMD.out]; exact HMR.out) HSA.out)
                  go_wp2_with fail
                  go_roundg (n - (lo + 2 * W))
                  case measure => rw [HG2.out]; omega
                  case rel => exact ⟨m + 1, lo + 2 * W, TA', TB', by rw [Nat.add_mul, Nat.one_mul, ← HLO.out], by omega, by go_num, rfl, HS.out, HST.out⟩
            · have hdone := HMI.out.done (by rw [← HLO.out]; omega)
              have HD1 := hide hdone.1
              have HD2 := hide hdone.2
              clear hdone
              go_wp2_with fail
              go_roundg (n - 2 * W)
              case measure => rw [HG1.out]; omega
              case rel => exact ⟨ta, tb, ba, bb, 2 * W, TA, TB, A, B, rfl, rfl, rfl, rfl, by go_num, by omega, rfl, HSM.out.swap, HD1.out, HD2.out.trans HPE.out⟩
        · go_wp2_with fail
          go_ret2
          exact ⟨ba, bb, A, B, rfl, HSM.out.below, HSM.out.ra, HSM.out.rb, HRU.out.all (by omega), HPE.out⟩

end Go.Proofs.Qxb6600860aMods
