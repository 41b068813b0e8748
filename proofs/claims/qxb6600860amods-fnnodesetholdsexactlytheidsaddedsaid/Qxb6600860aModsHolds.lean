/-
  THE WALK OF 'FnNodeSetHoldsExactlyTheIdsAdded'.
-/
import Derived.Test.Qxb6600860aModsFirst
namespace Go.Proofs.Qxb6600860aMods
set_option linter.unusedVariables false
set_option linter.unusedSimpArgs false
open Go.RowKit

theorem nz_append (S T : List Int) : nz (S ++ T) = nz S + nz T := by simp [nz, List.filter_append]

theorem nz_take {S : List Int} {k : Nat} (h : k < S.length) : nz (S.take (k + 1)) = nz (S.take k) + (if S.getD k 0 = 0 then 0 else 1) := by
  rw [take_snoc' h, nz_append]
  congr 1
  unfold nz
  split <;> simp_all

structure AddS (w wr : World) (g N sh : Nat) (S ids : List Int) (k : Nat) : Prop where
  slots : Slots wr g N S
  ns : NS N (hashN sh) S (dl (ids.take k))
  below : Below w.heap.size w wr

structure HeldS (w wr : World) (g bm N : Nat) (S ids : List Int) (k : Nat) : Prop where
  slots : Slots wr g N S
  set : SetIs wr bm k (dl (ids.take k))
  below : Below w.heap.size w wr

structure AgainS (w wr : World) (g gs N : Nat) (S : List Int) : Prop where
  slots : Slots wr g N S
  snap : Slots wr gs N S
  below : Below w.heap.size w wr

theorem addIf_mem {A : List Int} {x : Int} (h : x ∈ A) : addIf A x = A := by unfold addIf; rw [if_pos h]

set_option maxRecDepth 100000 in
set_option maxHeartbeats 4000000 in
theorem walk4 (p : Option Addr) (n c : Nat) (ids : List Int) (x : Int) (w : World) (h : Ints w .u32 p n ids) (hx : 0 ≤ x) (hx2 : x ≤ 18446744073709551615) :
    Calls Trym.prog 4 #[.slice p n c, .int .u64 x] w fun e w' => Truth w e w' := by
  have hmm := @run_makeMap Trym.prog
  have hn := h.2.1
  have HI := hide h
  clear h
  by_cases h1 : 1048576 < n
  · go_enter Trym.func4, Trym.ntmps4
    go_wp2_with fail
    refine (bytes12 p n c x w hn).mono ?_
    rintro e w' ⟨rfl, hw⟩
    rw [hw, decide_eq_false (by omega)]; clear hw w'
    go_wp2_with fail
    go_ret
    exact Truth.mk (Below.refl _ _)
  go_enter Trym.func4, Trym.ntmps4
  go_wp2_with fail
  refine (bytes12 p n c x w hn).mono ?_
  rintro e w' ⟨rfl, hw⟩
  rw [hw, decide_eq_true (by omega)]; clear hw w'
  by_cases h2 : 262144 < n
  · go_wp2_with fail
    go_ret
    exact Truth.mk (Below.refl _ _)
  by_cases h3 : 16 < x
  · go_wp2_with fail
    go_ret
    exact Truth.mk (Below.refl _ _)
  obtain ⟨bits, rfl⟩ : ∃ b : Nat, x = b := ⟨x.toNat, by omega⟩
  have hbits : bits ≤ 16 := by omega
  go_wp2_with fail
  refine (distinct_any p n c ids w (by omega) HI.out).mono ?_
  rintro e w1 ⟨d, rfl, hb1, hd⟩
  have HB1 := hide hb1
  clear hb1
  rcases hd with rfl | ⟨rfl, hmax⟩
  · go_wp2_with fail
    go_ret
    exact Truth.mk HB1.out
  have HMAX := hide hmax
  clear hmax
  obtain ⟨D, hD⟩ : ∃ D, (dl ids).length = D := ⟨_, rfl⟩
  have hDn : D ≤ n := by rw [← hD, ← HI.out.1]; exact dl_length ids
  rw [hD]
  have HD := hide hD
  clear hD
  obtain ⟨N, hN⟩ : ∃ N, N = 2 ^ bits := ⟨_, rfl⟩
  have hN2 : N ≤ 65536 := by
    rw [hN]
    calc 2 ^ bits ≤ 2 ^ 16 := Nat.pow_le_pow_right (by decide) hbits
      _ = 65536 := by decide
  have hNi : (2 : Int) ^ bits = (N : Int) := by rw [hN]; simp
  have HN := hide hN
  clear hN
  by_cases hbig : N < 2 * D
  · go_wp2_with fail
    go_ret
    exact Truth.mk HB1.out
  have hmk := fun w => run_make_row' (P := Trym.prog) 22 27 (.int .u32 0) 4 Trym.underlying22 Trym.info27 rfl .i64 .i64 N (by omega) (by omega) w
  have hN1 : 1 ≤ N := by rw [HN.out]; exact Nat.one_le_two_pow
  go_wp2_with fail
  have hst : AddS w (w1.alloc (.cells (madeCells #[.int .u32 0] N) 27)) w1.heap.size N (32 - bits) (List.replicate N 0) ids 0 := by
    refine ⟨⟨by simp, ?_⟩, NS.start N _, (HB1.out).alloc HB1.out.size _⟩
    exact (World.rowIs_made w1 (.int .u32 0) N 27).congr fun i hi => by simp [List.getD, List.getElem?_replicate, hi]
  have HST := hide hst
  clear hst hmk
  have hw1g : w.heap.size ≤ w1.heap.size := HB1.out.size
  obtain ⟨g, hg0⟩ : ∃ g, w1.heap.size = g := ⟨_, rfl⟩
  rw [hg0] at HST hw1g ⊢
  clear hg0
  -- the ids are added
  go_loopg [7] n (fun gk i wr => ∃ (k : Nat) (S : List Int), k ≤ n ∧ gk = n - k ∧ i = .int .i64 k ∧ AddS w wr g N (32 - bits) S ids k)
  case atStart => exact ⟨0, _, Nat.zero_le _, rfl, rfl, HST.out⟩
  case round =>
    obtain ⟨k, S, hk, hgk, rfl, hS⟩ := hrel
    have HG := hide hgk
    have HS := hide hS
    clear hgk hS
    by_cases hlt : k < n
    · obtain ⟨b, o, rfl, hcell⟩ := HI.out.2.2.2 (by omega)
      have hkl : k < ids.length := by rw [HI.out.1]; exact hlt
      have hb0 : b < w.heap.size := World.block_lt_of_cell? _ _ (hcell k hlt)
      obtain ⟨id, hid⟩ : ∃ id, ids.getD k 0 = id := ⟨_, rfl⟩
      have hck : wr.cell? ⟨b, o + k, none⟩ = some (.int .u32 id) := by rw [HS.out.below.cell (p := ⟨b, o + k, none⟩) hb0, hcell k hlt, hid]
      have hwid : (Lit.int .u32 id).wf = true := by rw [← hid]; exact HI.out.2.2.1 _ (mem_getD hkl)
      have hne : id ≠ 4294967295 := by rw [← hid]; exact HMAX.out _ (mem_getD hkl)
      have hr := bounds_u32 hwid
      have hAN : (dl (ids.take k)).length < N := by have := dl_take ids k; have := HD.out; omega
      have hstep : dl (ids.take (k + 1)) = addIf (dl (ids.take k)) id := by rw [dl_step hkl, hid]
      have HAN := hide hAN
      have HSP := hide hstep
      have hi0 : 0 ≤ id := hr.1
      have hi1 : id < 4294967295 := by omega
      clear hid hwid hAN hstep hcell hne hr
      go_wp2_with fail
      rw [show (32 : Int) - (bits : Int) = ((32 - bits : Nat) : Int) by omega]
      refine (zzadd_any g N bits S (dl (ids.take k)) id wr hi0 hi1 hbits HN.out HAN.out HS.out.slots HS.out.ns).mono ?_
      rintro e w2 ⟨S', rfl, hs2, hn2, _, hg2⟩
      have hfin : AddS w w2 g N (32 - bits) S' ids (k + 1) :=
        ⟨hs2, by rw [HSP.out]; exact hn2, HS.out.below.grown hg2 HS.out.below.size (fun j hj => by cases hj; exact hw1g)⟩
      have HF := hide hfin
      clear hs2 hn2 hg2 hfin
      generalize (!decide (id ∈ dl (ids.take k))) = bb
      go_wp2_with fail
      go_roundg (n - (k + 1))
      case measure => rw [HG.out]; omega
      case rel => exact ⟨k + 1, S', by omega, rfl, by go_num, HF.out⟩
    · -- held is filled
      have htk : ids.take k = ids := List.take_of_length_le (by rw [HI.out.1]; omega)
      have hns : NS N (hashN (32 - bits)) S (dl ids) := by have := HS.out.ns; rw [htk] at this; exact this
      have HNS := hide hns
      obtain ⟨wA, rfl⟩ : ∃ wA, wA = wr := ⟨_, rfl⟩
      clear htk hns
      go_wp2_with fail
      have hbA := HS.out.below.size
      have hh0 : HeldS w (wA.alloc (.map #[] 0)) g wA.heap.size N S ids 0 :=
        ⟨HS.out.slots.keep (Below.heap_alloc _ _ _ HS.out.slots.2.lt), SetIs.made wA, HS.out.below.alloc hbA _⟩
      have HH0 := hide hh0
      have hgA : g < wA.heap.size := HS.out.slots.2.lt
      clear hh0 hmm
      go_loopg [9] n (fun gk i wr => ∃ (k : Nat), k ≤ n ∧ gk = n - k ∧ i = .int .i64 k ∧ HeldS w wr g wA.heap.size N S ids k)
      case atStart => exact ⟨0, Nat.zero_le _, rfl, rfl, HH0.out⟩
      case round =>
        obtain ⟨k2, hk2, hgk, rfl, hH⟩ := hrel
        have HG2 := hide hgk
        have HH := hide hH
        clear hgk hH
        by_cases hlt2 : k2 < n
        · obtain ⟨b, o, rfl, hcell⟩ := HI.out.2.2.2 (by omega)
          have hkl : k2 < ids.length := by rw [HI.out.1]; exact hlt2
          have hb0 : b < w.heap.size := World.block_lt_of_cell? _ _ (hcell k2 hlt2)
          obtain ⟨id, hid⟩ : ∃ id, ids.getD k2 0 = id := ⟨_, rfl⟩
          have hck : wr.cell? ⟨b, o + k2, none⟩ = some (.int .u32 id) := by rw [HH.out.below.cell (p := ⟨b, o + k2, none⟩) hb0, hcell k2 hlt2, hid]
          have hwid : (Lit.int .u32 id).wf = true := by rw [← hid]; exact HI.out.2.2.1 _ (mem_getD hkl)
          have hstep : dl (ids.take (k2 + 1)) = addIf (dl (ids.take k2)) id := by rw [dl_step hkl, hid]
          obtain ⟨w3, hup, hset3, hg3⟩ := HH.out.set.store (by unfold maxLen; omega) hwid
          have hfin : HeldS w w3 g wA.heap.size N S ids (k2 + 1) := by
            refine ⟨HH.out.slots.keep (hg3.block _ HH.out.slots.2.lt (by simp; omega)), ?_, HH.out.below.grown hg3 HH.out.below.size (fun j hj => by cases hj; exact hbA)⟩
            refine hset3.congr fun y => ?_
            rw [hstep, mem_addIf, List.mem_cons]
          have HF := hide hfin
          clear hid hwid hstep hset3 hg3 hfin hcell
          go_wp2_with fail
          go_roundg (n - (k2 + 1))
          case measure => rw [HG2.out]; omega
          case rel => exact ⟨k2 + 1, by omega, rfl, by go_num, HF.out⟩
        · -- the slots are counted
          have htk : ids.take k2 = ids := List.take_of_length_le (by rw [HI.out.1]; omega)
          have hset : SetIs wr wA.heap.size k2 (dl ids) := by have := HH.out.set; rw [htk] at this; exact this
          have HSET := hide hset
          obtain ⟨wB, rfl⟩ : ∃ wB, wB = wr := ⟨_, rfl⟩
          have hSl : S.length = N := HH.out.slots.1
          have HSL := hide hSl
          clear htk hset hSl
          go_wp2_with fail
          go_loopg [10, 11] N (fun gk u i wr => ∃ (t : Nat), t ≤ N ∧ gk = N - t ∧ i = .int .i64 t ∧ u = .int .i64 (nz (S.take t) : Int) ∧ wr = wB)
          case atStart => exact ⟨0, Nat.zero_le _, rfl, rfl, rfl, rfl⟩
          case round =>
            obtain ⟨t, ht, hgk, rfl, rfl, hww⟩ := hrel
            rw [hww]; clear hww
            have HG3 := hide hgk
            clear hgk
            have hnzt : nz (S.take t) ≤ 65536 := by have := nz_le (S.take t); rw [List.length_take] at this; omega
            by_cases hlt3 : t < N
            · obtain ⟨v, hv⟩ : ∃ v, S.getD t 0 = v := ⟨_, rfl⟩
              have hcv : wB.cell? ⟨g, t, none⟩ = some (.int .u32 v) := by rw [HH.out.slots.2.cell hlt3, hv]
              have hstep := nz_take (S := S) (k := t) (by rw [HSL.out]; exact hlt3)
              rw [hv] at hstep
              by_cases hv0 : v = 0
              · have e1 : (v != 0) = false := by simpa using hv0
                rw [if_pos hv0, Nat.add_zero] at hstep
                have HSTP := hide hstep
                clear hv0 hstep hv
                go_wp2_with fail
                go_roundg (N - (t + 1))
                case measure => rw [HG3.out]; omega
                case rel => exact ⟨t + 1, by omega, rfl, by go_num, by rw [HSTP.out, Nat.add_zero], rfl⟩
              · have e1 : (v != 0) = true := by simpa using hv0
                rw [if_neg hv0] at hstep
                have hmem : v - 1 ∈ dl ids := by have := HNS.out.mem t hlt3 (by rw [hv]; exact hv0); rw [hv] at this; exact this
                have hmi := (mem_dl ids (v - 1)).1 hmem
                have hwv := HI.out.2.2.1 _ hmi
                have hrv := bounds_u32 hwv
                have hlk := HSET.out.look hwv
                rw [decide_eq_true hmem] at hlk
                have HSTP := hide hstep
                have hv1 : 1 ≤ v := by omega
                have hv2 : v ≤ 4294967296 := by omega
                clear hv0 hstep hv hmem hmi hwv hrv
                go_wp2_with fail
                go_roundg (N - (t + 1))
                case measure => rw [HG3.out]; omega
                case rel => exact ⟨t + 1, by omega, rfl, by go_num, by rw [HSTP.out]; go_num, rfl⟩
            · -- as many as there are distinct ids
              have htk : S.take t = S := List.take_of_length_le (by rw [HSL.out]; omega)
              have hcnt : nz (S.take t) = D := by rw [htk, HNS.out.cnt, HD.out]
              rw [hcnt]
              have t1 : ((D : Int) != (D : Int)) = false := by simp
              clear htk hcnt hnzt
              go_wp2_with fail
              refine (clone32_some g 0 N N S wB (by omega) (by omega) (fun i hi => by rw [Nat.zero_add]; exact HH.out.slots.2.cell hi)).mono ?_
              rintro e wC ⟨rfl, hbC, f, hrC, hfC⟩
              have hag : AgainS w wC g wB.heap.size N S :=
                ⟨HH.out.slots.keep (hbC.block _ HH.out.slots.2.lt), ⟨HSL.out, hrC.congr hfC⟩, HH.out.below.trans (hbC.mono HH.out.below.size)⟩
              have HAG := hide hag
              have hgB : g < wB.heap.size := HH.out.slots.2.lt
              clear hbC hrC hfC hag
              go_wp2_with fail
              go_loopg [14] n (fun gk i wr => ∃ (k : Nat), k ≤ n ∧ gk = n - k ∧ i = .int .i64 k ∧ AgainS w wr g wB.heap.size N S)
              case atStart => exact ⟨0, Nat.zero_le _, rfl, rfl, HAG.out⟩
              case round =>
                obtain ⟨k4, hk4, hgk, rfl, hA4⟩ := hrel
                have HG4 := hide hgk
                have HA4 := hide hA4
                clear hgk hA4
                by_cases hlt4 : k4 < n
                · obtain ⟨b, o, rfl, hcell⟩ := HI.out.2.2.2 (by omega)
                  have hkl : k4 < ids.length := by rw [HI.out.1]; exact hlt4
                  have hb0 : b < w.heap.size := World.block_lt_of_cell? _ _ (hcell k4 hlt4)
                  obtain ⟨id, hid⟩ : ∃ id, ids.getD k4 0 = id := ⟨_, rfl⟩
                  have hck : wr.cell? ⟨b, o + k4, none⟩ = some (.int .u32 id) := by rw [HA4.out.below.cell (p := ⟨b, o + k4, none⟩) hb0, hcell k4 hlt4, hid]
                  have hwid : (Lit.int .u32 id).wf = true := by rw [← hid]; exact HI.out.2.2.1 _ (mem_getD hkl)
                  have hne : id ≠ 4294967295 := by rw [← hid]; exact HMAX.out _ (mem_getD hkl)
                  have hmem : id ∈ dl ids := (mem_dl ids id).2 (by rw [← hid]; exact mem_getD hkl)
                  have hr := bounds_u32 hwid
                  have hAN : (dl ids).length < N := by have := HD.out; omega
                  have HAN := hide hAN
                  have HMEM := hide hmem
                  have hi0 : 0 ≤ id := hr.1
                  have hi1 : id < 4294967295 := by omega
                  clear hid hwid hAN hcell hne hr hmem
                  go_wp2_with fail
                  rw [show (32 : Int) - (bits : Int) = ((32 - bits : Nat) : Int) by omega]
                  refine (zzadd_any g N bits S (dl ids) id wr hi0 hi1 hbits HN.out HAN.out HA4.out.slots HNS.out).mono ?_
                  rintro e w2 ⟨S', rfl, hs2, _, hsame, hg2⟩
                  rw [decide_eq_true HMEM.out]
                  rw [hsame HMEM.out] at hs2
                  have hfin : AgainS w w2 g wB.heap.size N S :=
                    ⟨hs2, HA4.out.snap.keep (hg2.block _ HA4.out.snap.2.lt (by simp; omega)), HA4.out.below.grown hg2 HA4.out.below.size (fun j hj => by cases hj; exact hw1g)⟩
                  have HF := hide hfin
                  clear hs2 hsame hg2 hfin
                  go_wp2_with fail
                  go_roundg (n - (k4 + 1))
                  case measure => rw [HG4.out]; omega
                  case rel => exact ⟨k4 + 1, by omega, rfl, by go_num, HF.out⟩
                · -- no slot has changed
                  obtain ⟨wD, rfl⟩ : ∃ wD, wD = wr := ⟨_, rfl⟩
                  go_wp2_with fail
                  go_loopg [15] N (fun gk i wr => ∃ (t q : Nat), t ≤ N ∧ gk = N - t ∧ i = .int .i64 t ∧ wr = wD.drewN q)
                  case atStart => exact ⟨0, 0, Nat.zero_le _, rfl, rfl, rfl⟩
                  case round =>
                    obtain ⟨t5, q5, ht5, hgk, rfl, hwq⟩ := hrel
                    have HG5 := hide hgk
                    have HWQ := hide hwq
                    clear hgk
                    by_cases hlt5 : t5 < N
                    · obtain ⟨v, hv⟩ : ∃ v, S.getD t5 0 = v := ⟨_, rfl⟩
                      have c1 : wr.cell? ⟨g, t5, none⟩ = some (.int .u32 v) := by rw [hwq, World.cell?_drewN, HA4.out.slots.2.cell hlt5, hv]
                      have c2 : wr.cell? ⟨wB.heap.size, t5, none⟩ = some (.int .u32 v) := by rw [hwq, World.cell?_drewN, HA4.out.snap.2.cell hlt5, hv]
                      have i1 : (0 : Int) ≤ (t5 : Int) := by omega
                      have i2 : (t5 : Int) < (N : Int) := by omega
                      have e1 : (v != v) = false := by simp
                      clear hv hwq
                      go_wp2_with fail
                      go_quiet (fail)
                      go_wp2_with fail
                      go_roundg (N - (t5 + 1))
                      case measure => rw [HG5.out]; omega
                      case rel => exact ⟨t5 + 1, q5 + nq, by omega, rfl, by go_num, by rw [HWQ.out]; exact World.drewN_drewN ..⟩
                    · clear hwq
                      go_wp2_with fail
                      go_ret
                      rw [HWQ.out]
                      exact Truth.mk (HA4.out.below.trans ⟨rfl, rfl, rfl, Nat.le_refl _, fun _ _ => rfl⟩)

end Go.Proofs.Qxb6600860aMods
