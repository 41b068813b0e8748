/-
  THE WALK OF 'FnChildThenLastGivesBackCommands'.
-/
import Derived.Test.Qxb6600170aModsRoads
namespace Go.Proofs.Qxb6600170aMods
set_option linter.unusedVariables false
set_option linter.unusedSimpArgs false
open Go.RowKit

/-- A LIST OF BYTE SLICES THAT MAY BE WRITTEN: its rows of bytes lie in blocks from Bw up to B1; what the bytes are is not said. -/
def Work (w : World) (Bw B1 : Nat) (p : Option Addr) (n : Nat) (Ls : Nat → Nat) : Prop :=
  n ≤ 1048576 ∧ ∀ i, i < n → ∃ g pa ca, p = some ⟨g, 0, none⟩ ∧ w.cell? ⟨g, i, none⟩ = some (.slice pa (Ls i) ca) ∧ Ls i ≤ 1048576 ∧
    ∀ j, j < Ls i → ∃ h z, pa = some ⟨h, 0, none⟩ ∧ Bw ≤ h ∧ h < B1 ∧ h ≠ g ∧ w.cell? ⟨h, j, none⟩ = some (.int .u8 z) ∧ w.frozen? ⟨h, j, none⟩ = false

theorem Cloned.work {w : World} {B : Nat} {v : Value} {V : Nat → Value} {xss : List (List Int)} (h : Cloned w B v V xss) (hl : xss.length ≤ 1048576) (p : Option Addr) (hv : v = .slice p xss.length xss.length) :
    Work w B w.heap.size p xss.length (fun i => (xss.getD i []).length) := by
  refine ⟨hl, fun i hi => ?_⟩
  rcases h.outer with ⟨_, rfl⟩ | ⟨g, e, hg, hr⟩
  · simp at hi
  · rw [hv] at e
    simp only [Value.slice.injEq] at e
    have hin := h.inner i hi
    have hf := hin.bytes.form
    have hc := hr.cell hi
    rw [hf] at hc
    refine ⟨g, _, _, e.1, hc, hin.1, fun j hj0 => ?_⟩
    have hj : j < (xss.getD i []).length := hj0
    obtain ⟨_, _, h3⟩ := hin
    rcases h3 with ⟨_, e0⟩ | ⟨b, c, e1, e2, m, f, e3, e4, e5⟩
    · rw [e0] at hj; simp at hj
    · have hlt := e3.lt
      refine ⟨b, (xss.getD i []).getD j 0, by rw [e1]; rfl, e2, hlt, fun e6 => ?_, by rw [e3.cell (by omega), e5 j hj], e3.frozen j⟩
      subst e6
      obtain ⟨c1, q1, _⟩ := e3
      obtain ⟨c2, q2, _⟩ := hr
      rw [q1] at q2
      simp at q2

theorem Work.below {w w' : World} {Bw B1 : Nat} {p : Option Addr} {n : Nat} {Ls : Nat → Nat} (h : Work w Bw B1 p n Ls) {B : Nat} (hb : Below B w w') (hB : w.heap.size ≤ B) : Work w' Bw B1 p n Ls := by
  refine ⟨h.1, fun i hi => ?_⟩
  obtain ⟨g, pa, ca, h1, h2, h3, h4⟩ := h.2 i hi
  have := World.block_lt_of_cell? _ _ h2
  refine ⟨g, pa, ca, h1, by rw [hb.cell (p := ⟨g, i, none⟩) (by simp at this ⊢; omega)]; exact h2, h3, fun j hj => ?_⟩
  obtain ⟨b, z, q1, q2, q3, q4, q5, q6⟩ := h4 j hj
  have := World.block_lt_of_cell? _ _ q5
  exact ⟨b, z, q1, q2, q3, q4, by rw [hb.cell (p := ⟨b, j, none⟩) (by simp at this ⊢; omega)]; exact q5, by rw [hb.frozen (p := ⟨b, j, none⟩) (by simp at this ⊢; omega)]; exact q6⟩

theorem Work.set {w : World} {Bw B1 : Nat} {p : Option Addr} {n : Nat} {Ls : Nat → Nat} (h : Work w Bw B1 p n Ls) {g b j : Nat} (hp : p = some ⟨g, 0, none⟩) (hne : b ≠ g) (z : Int) : Work (w.setCell ⟨b, j, none⟩ (.int .u8 z)) Bw B1 p n Ls := by
  refine ⟨h.1, fun i hi => ?_⟩
  obtain ⟨g', pa, ca, h1, h2, h3, h4⟩ := h.2 i hi
  obtain rfl : g = g' := by rw [hp] at h1; simpa using h1
  refine ⟨g, pa, ca, h1, by rw [World.cell?_setCell_other _ _ _ _ (fun e => hne (by simpa using congrArg Addr.block e))]; exact h2, h3, fun j' hj' => ?_⟩
  obtain ⟨b', z', q1, q2, q3, q4, q5, q6⟩ := h4 j' hj'
  by_cases e : (⟨b, j, none⟩ : Addr) = ⟨b', j', none⟩
  · refine ⟨b', z, q1, q2, q3, q4, ?_, by rw [World.frozen?_setCell]; exact q6⟩
    rw [e]; exact World.cell?_setCell_same _ _ _ q5
  · exact ⟨b', z', q1, q2, q3, q4, by rw [World.cell?_setCell_other _ _ _ _ e]; exact q5, by rw [World.frozen?_setCell]; exact q6⟩

theorem Table.set {w : World} {B sb : Nat} {M : Tab} {nb : Nat → Nat} (h : Table w B sb M nb) {a : Addr} (ha : a.block < B) (v : Value) : Table (w.setCell a v) B sb M nb :=
  h.keep (by simp) fun k _ _ hk _ _ => Below.heap_setCell _ _ _ _ (by omega)

theorem Work.drew {w : World} {Bw B1 : Nat} {p : Option Addr} {n : Nat} {Ls : Nat → Nat} (h : Work w Bw B1 p n Ls) : Work w.drew Bw B1 p n Ls := h
theorem Table.drew {w : World} {B sb : Nat} {M : Tab} {nb : Nat → Nat} (h : Table w B sb M nb) : Table w.drew B sb M nb := h.keep (Nat.le_refl _) fun _ _ _ _ _ _ => rfl

theorem clone_work {w : World} {v : Value} {V : Nat → Value} {xss : List (List Int)} (h : Cmds w v V xss) :
    Calls Trym.prog 10 #[v] w fun e w' => ∃ p', e = .returned (.slice p' xss.length xss.length) ∧ Have w' p' xss.length xss ∧ Work w' w.heap.size w'.heap.size p' xss.length (fun i => (xss.getD i []).length) ∧ Below w.heap.size w w' := by
  have hl : xss.length ≤ 1048576 := by obtain ⟨_, _, _, hl, _⟩ := h; exact hl
  refine (cloneList_any h).mono fun e w' ⟨v', V', h1, h2, h3⟩ => ?_
  obtain ⟨p', hv, hh⟩ := h2.have_ hl
  have hw := h2.work hl p' hv
  rw [hv] at h1
  exact ⟨p', h1, hh, hw, h3⟩

theorem Have.cmds {w : World} {p : Option Addr} {n : Nat} {xss : List (List Int)} (h : Have w p n xss) : ∃ V, Cmds w (.slice p n n) V xss := by
  obtain ⟨h1, h2, h3⟩ := h
  have hp : p = none → n = 0 := fun e => by
    rcases Nat.eq_zero_or_pos n with e0 | e0
    · exact e0
    · obtain ⟨g, _, _, e1, _⟩ := h3 0 e0; rw [e] at e1; cases e1
  obtain ⟨V, hV⟩ : ∃ V : Nat → Value, ∀ i, i < n → ∃ g, p = some ⟨g, 0, none⟩ ∧ w.cell? ⟨g, i, none⟩ = some (V i) ∧ Bytes w (V i) (xss.getD i []) := by
    refine ⟨fun i => if hi : i < n then .slice (Classical.choose (Classical.choose_spec (h3 i hi))) (xss.getD i []).length (Classical.choose (Classical.choose_spec (Classical.choose_spec (h3 i hi)))) else .slice none 0 0, fun i hi => ?_⟩
    have := Classical.choose_spec (Classical.choose_spec (Classical.choose_spec (h3 i hi)))
    simp only [dif_pos hi]
    exact ⟨_, this.1, this.2.1, this.2.2⟩
  subst h1
  refine ⟨V, p, xss.length, rfl, h2, hp, fun hne => ?_, fun i hi => ?_⟩
  · have hpos : 0 < xss.length := List.length_pos_iff.2 hne
    obtain ⟨g, hg, _⟩ := hV 0 hpos
    refine ⟨g, 0, hg, fun i hi => ?_⟩
    obtain ⟨g', hg', hc, _⟩ := hV i hi
    rw [hg] at hg'
    simp at hg'
    subst hg'
    rw [Nat.zero_add]; exact hc
  · obtain ⟨_, _, _, hb⟩ := hV i hi; exact hb


set_option maxRecDepth 100000 in
set_option maxHeartbeats 8000000 in
theorem walk5 (p : Option Addr) (n c : Nat) (A : Nat → Option Addr) (L C : Nat → Nat) (Z : Nat → List Int) (x : Int) (w : World) (h : ArgIs w p n c A L C Z) (hx : -9223372036854775808 ≤ x ∧ x ≤ 9223372036854775807) :
    Calls Trym.prog 5 #[.slice p n c, .int .i64 x] w fun e w' => Truth w e w' := by
  have hn := h.n_le
  have HR := hide h.raw
  have HA := hide h
  clear h
  go_enter Trym.func5, Trym.ntmps5
  go_wp2_with fail
  refine (bytes22 p n c _ A L C w hn HR.out).mono ?_
  rintro e w' ⟨t, rfl, hw, ht⟩
  rw [hw]; clear hw w'
  have HT := hide ht
  clear ht
  cases t
  · go_wp2_with fail
    go_ret
    exact Truth.mk (Below.refl _ _)
  obtain ⟨hn1, hL⟩ := HT.out rfl
  have HL := hide hL
  clear hL HT
  by_cases hbig : 65536 < n
  · have hd : decide ((65536 : Int) < (n : Int)) = true := by simp; omega
    go_wp2_with fail
    go_ret
    exact Truth.mk (Below.refl _ _)
  have hd : decide ((65536 : Int) < (n : Int)) = false := by simp; omega
  go_wp2_with fail
  refine (listbytes_any p n c A L C w hn1 HR.out HL.out).mono ?_
  rintro e w' ⟨s, rfl, hw, hs0, hs1⟩
  rw [hw]; clear hw w'
  by_cases hs : 1048576 < s
  · go_wp2_with fail
    go_ret
    exact Truth.mk (Below.refl _ _)
  by_cases hx0 : x < 0
  · go_wp2_with fail
    go_ret
    exact Truth.mk (Below.refl _ _)
  obtain ⟨m, rfl⟩ : ∃ m : Nat, x = m := ⟨x.toNat, by omega⟩
  have hm : m ≤ 9223372036854775807 := by omega
  clear hx hx0
  have hcm := HA.out.cmds hn1 HL.out
  have hxl := argData_length n L Z
  generalize argData n L Z = xss at hcm hxl
  have HXL := hide hxl
  go_wp2_with fail
  refine (clone_have hcm).mono ?_
  rintro e w0 ⟨qa, rfl, hha, hb0⟩
  rw [hxl] at hha ⊢
  have HHA := hide hha
  have HB0 := hide hb0
  obtain ⟨V0, hc0⟩ := hha.cmds
  clear hcm hxl hha hb0
  go_wp2_with fail
  refine (clone_work hc0).mono ?_
  rintro e w1 ⟨qb, rfl, hhb, hwk, hb1⟩
  rw [HXL.out] at hhb hwk ⊢
  have HHB := hide hhb
  have HWK := hide hwk
  have HBW := hide hb1
  clear hhb hwk hb1 hc0
  go_wp2_with fail
  refine (newroot_any _).mono ?_
  rintro e w2 ⟨rfl, rfl⟩
  go_wp2_with fail
  refine (newseqs_any _ _).mono ?_
  rintro e w2 ⟨rfl, rfl⟩
  go_wp2_with fail
  go_loopg [8, 9] n (fun gk s i wr => ∃ k : Nat, k ≤ n ∧ gk = n - k ∧ i = .int .i64 k ∧ Building w1 w1.heap.size (w1.heap.size + 1 + 1) [] xss w1.heap.size k s wr)
  case atStart =>
    exact ⟨0, Nat.zero_le _, rfl, rfl, fun _ => w1.heap.size, table_start w1, rfl, rfl, (((Below.refl _ _).alloc (Nat.le_refl _) _).alloc (by simp) _).alloc (by simp; omega) _⟩
  case round =>
    obtain ⟨k, hk, hgk, rfl, hbd⟩ := hrel
    have HG := hide hgk
    clear hgk
    by_cases hlt : k < n
    · obtain ⟨nb, hT, rfl, h0, hb1⟩ := hbd
      obtain ⟨g, pa, ca, rfl, hc, hby⟩ := (HHB.out.below hb1 (Nat.le_refl _)).2.2 k hlt
      have HT := hide hT
      have H0 := hide h0
      have HBB := hide hb1
      have HBY := hide hby
      have HW : Hid ((walkTo [] 0 (xss.take k)).2 ≤ (walkTo [] 0 (xss.take k)).1.length ∧ (walkTo [] 0 (xss.take k)).1.length ≤ 1000000) := by
        refine ⟨(walked good_nil (Nat.le_refl _) _).le, ?_⟩
        have h1 := walkTo_length good_nil (Nat.le_refl 0) (xss.take k)
        have h2 : (xss.take k).length ≤ xss.length := by rw [List.length_take]; omega
        have h3 := HXL.out
        simp at h1; omega
      clear hT h0 hb1 hby
      go_wp2_with (go_at_call 16; refine (zzchild_any HT.out HW.out.1 HW.out.2 HBY.out).mono ?_; intro e w' hpost; obtain ⟨b, he, hnew⟩ := building_step (by have := HXL.out; omega) HBB.out H0.out hpost; subst he; clear hpost)
      go_roundg (n - (k + 1))
      case measure => rw [HG.out]; omega
      case rel => exact ⟨k + 1, by omega, rfl, by go_num, hnew⟩
    · obtain rfl : k = n := by omega
      obtain ⟨nb, hT, rfl, h0, hb1⟩ := hbd
      have htk : xss.take k = xss := List.take_of_length_le (by have := HXL.out; omega)
      rw [htk] at hT ⊢
      have W := walked good_nil (Nat.le_refl 0) xss
      have hln := walkTo_length good_nil (Nat.le_refl 0) xss
      have hle := W.le
      have hdep := W.depth
      have hcmds := W.cmds
      rw [dep_zero, HXL.out, Nat.zero_add] at hdep
      rw [HXL.out] at hcmds hln
      generalize (walkTo [] 0 xss).1 = M at hT hle hdep hcmds hln
      generalize (walkTo [] 0 xss).2 = S at hT hle hdep hcmds ⊢
      have hMl : M.length ≤ 1000000 := by simp at hln; omega
      have HT := hide hT
      have HDP := hide hdep
      have HCM := hide hcmds
      have HWK2 := hide (HWK.out.below hb1 (Nat.le_refl _))
      have HB2 : Hid (Below w0.heap.size w0 wr) := HBW.out.trans (hb1.mono HBW.out.size)
      have hw01 : w0.heap.size ≤ w1.heap.size := HBW.out.size
      clear hT h0 hb1 htk hdep hcmds hln W
      go_wp2_with fail
      go_loopg [10] k (fun gk i wr => ∃ t : Nat, t ≤ k ∧ gk = k - t ∧ i = .int .i64 t ∧ Table wr w1.heap.size (w1.heap.size + 1 + 1) M nb ∧ Below w0.heap.size w0 wr ∧ Work wr w0.heap.size w1.heap.size qb k (fun i => (xss.getD i []).length))
      case atStart => exact ⟨0, Nat.zero_le _, rfl, rfl, HT.out, HB2.out, HWK2.out⟩
      case round =>
        obtain ⟨t, ht, hgk, rfl, hT, hB, hWk⟩ := hrel
        have HG2 := hide hgk
        have HT3 := hide hT
        have HB3 := hide hB
        have HWK3 := hide hWk
        clear hgk hT hB hWk
        by_cases hlt2 : t < k
        · go_wp2_with fail
          go_loopg [11] ((xss.getD t []).length) (fun gk i wr => ∃ u : Nat, u ≤ (xss.getD t []).length ∧ gk = (xss.getD t []).length - u ∧ i = .int .i64 u ∧ Table wr w1.heap.size (w1.heap.size + 1 + 1) M nb ∧ Below w0.heap.size w0 wr ∧ Work wr w0.heap.size w1.heap.size qb k (fun i => (xss.getD i []).length))
          case atStart => exact ⟨0, Nat.zero_le _, rfl, rfl, HT3.out, HB3.out, HWK3.out⟩
          case round =>
            obtain ⟨u, hu, hgk, rfl, hT, hB, hWk⟩ := hrel
            have HG3 := hide hgk
            have HT4 := hide hT
            have HB4 := hide hB
            have HWK4 := hide hWk
            clear hgk hT hB hWk
            obtain ⟨g, pa, ca, rfl, hc, hle1, hin⟩ := HWK4.out.2 t hlt2
            simp only at hc hle1 hin
            obtain ⟨ln, hln⟩ : ∃ ln, (xss.getD t []).length = ln := ⟨_, rfl⟩
            rw [hln] at hc hle1 hin HG3 hu
            have HLN := hide hln
            clear hln
            by_cases hul : u < ln
            · obtain ⟨b, z, rfl, q2, q3, q4, q5, q6⟩ := hin u hul
              have i1 : (0 : Int) ≤ (t : Int) := by omega
              have i2 : (t : Int) < (k : Int) := by omega
              have i3 : (0 : Int) ≤ (u : Int) := by omega
              have i4 : (u : Int) < (ln : Int) := by omega
              clear hin
              go_wp2_with fail
              go_region
              go_wp2_with fail
              go_roundg (ln - (u + 1))
              case measure => rw [HG3.out]; omega
              case rel => exact ⟨u + 1, by have := HLN.out; omega, by have := HLN.out; omega, by go_num, (HT4.out.set q3 _).drew, (HB4.out.setCell q2 _).drew, (HWK4.out.set rfl q4 _).drew⟩
            · go_wp2_with fail
              go_roundg (k - (t + 1))
              case measure => rw [HG2.out]; omega
              case rel => exact ⟨t + 1, by omega, rfl, by go_num, HT4.out, HB4.out, HWK4.out⟩
        · obtain ⟨m1, hm1⟩ : ∃ m1, m1 = min m k := ⟨_, rfl⟩
          have HM1 := hide hm1
          have hm1k : m1 ≤ k := by omega
          clear hm1
          go_wp2_with fail
          refine (zzlast_have HT3.out hle hMl m hm _ m1 rfl (by rw [HDP.out]; exact HM1.out)).mono ?_
          rintro e w3 ⟨rfl, hv1, hb3⟩
          have HT5 := hide (HT3.out.below hb3)
          have HB5 := hide hb3
          have HV1 := hide hv1
          clear hv1 hb3
          go_wp2_with fail
          refine (minint_nat m k m1 _ HM1.out).mono ?_
          rintro e w5 ⟨rfl, hw⟩
          rw [hw]; clear hw w5
          have t1 : ((m1 : Int) != (m1 : Int)) = false := by simp
          go_wp2_with fail
          refine (HT5.out.len hle).mono ?_
          rintro e w5 ⟨rfl, hw⟩
          rw [hw]; clear hw w5
          rw [HDP.out]
          have t2 : ((k : Int) != (k : Int)) = false := by simp
          have HB6 : Hid (Below w0.heap.size w0 w3) := HB3.out.trans (HB5.out.mono HB3.out.size)
          have HHA6 := hide (HHA.out.below HB6.out (Nat.le_refl _))
          obtain ⟨wL, rfl⟩ : ∃ wL, wL = wr := ⟨_, rfl⟩
          go_wp2_with fail
          go_loopg [14] m1 (fun gk i wr => ∃ v q : Nat, v ≤ m1 ∧ gk = m1 - v ∧ i = .int .i64 v ∧ wr = w3.drewN q)
          case atStart => exact ⟨0, 0, Nat.zero_le _, rfl, rfl, rfl⟩
          case round =>
            obtain ⟨v, q, hv, hgk, rfl, hwq⟩ := hrel
            have HG4 := hide hgk
            clear hgk
            by_cases hlt3 : v < m1
            · obtain ⟨o, ho⟩ : ∃ o : Nat, (k : Int) - (m1 : Int) = (o : Int) := ⟨k - m1, by omega⟩
              obtain ⟨g1, pa1, ca1, e1, hc1, hby1⟩ := HV1.out.2.2 v hlt3
              obtain ⟨g2, pa2, ca2, e2, hc2, hby2⟩ := HHA6.out.2.2 (o + v) (by omega)
              obtain rfl : wL.heap.size = g1 := by simpa using e1
              subst e2
              have heq : (lastList M S m1).getD v [] = xss.getD (o + v) [] := by
                rw [lastList_get hlt3]
                unfold lastAt
                rw [HCM.out (m1 - 1 - v) (by omega)]
                rw [show k - 1 - (m1 - 1 - v) = o + v by omega]
              have HE := hide heq
              have hc1' : wr.cell? ⟨wL.heap.size, v, none⟩ = some (.slice pa1 ((lastList M S m1).getD v []).length ca1) := by rw [hwq]; exact hc1
              have hc2' : wr.cell? ⟨g2, o + v, none⟩ = some (.slice pa2 (xss.getD (o + v) []).length ca2) := by rw [hwq]; exact hc2
              have HQ1 : Hid (Bytes wr (.slice pa1 ((lastList M S m1).getD v []).length ca1) ((lastList M S m1).getD v [])) := by rw [hwq]; exact hby1.drewN q
              have HQ2 : Hid (Bytes wr (.slice pa2 (xss.getD (o + v) []).length ca2) (xss.getD (o + v) [])) := by rw [hwq]; exact hby2.drewN q
              have HWQ := hide hwq
              clear heq hby1 hby2 e1 hc1 hc2 hwq
              generalize (lastList M S m1).getD v [] = xa at HE hc1' HQ1
              generalize xss.getD (o + v) [] = xb at HE hc2' HQ2
              have i1 : (0 : Int) ≤ (v : Int) := by omega
              have i2 : (v : Int) < (m1 : Int) := by omega
              have i3 : (0 : Int) ≤ (o : Int) + (v : Int) := by omega
              have i4 : (o : Int) + (v : Int) < (k : Int) := by omega
              have i5 : IntKind.i64.wrap ((o : Int) + (v : Int)) = (o : Int) + (v : Int) := by rw [IntKind.wrap_i64]; omega
              have i6 : ((o : Int) + (v : Int)).toNat = o + v := by omega
              have i7 : IntKind.i64.wrap ((k : Int) - (m1 : Int)) = (o : Int) := by rw [IntKind.wrap_i64]; omega
              have HO := hide ho
              clear ho
              go_wp2_with fail
              go_quiet ((go_at_call 14; refine Calls.quiet_of (equal_yes (HQ1.out.drewN _) (HQ2.out.drewN _) HE.out)))
              go_wp2_with fail
              go_roundg (m1 - (v + 1))
              case measure => rw [HG4.out]; omega
              case rel => exact ⟨v + 1, q + nq, by omega, rfl, by go_num, by rw [HWQ.out]; exact World.drewN_drewN ..⟩
            · have HWQ := hide hwq
              clear hwq
              go_wp2_with fail
              go_ret
              have b0 := HB0.out
              rw [HWQ.out]
              have b6 : Below w.heap.size w w3 := b0.trans (HB6.out.mono b0.size)
              exact Truth.mk (b6.trans ⟨rfl, rfl, rfl, Nat.le_refl _, fun _ _ => rfl⟩)

end Go.Proofs.Qxb6600170aMods
