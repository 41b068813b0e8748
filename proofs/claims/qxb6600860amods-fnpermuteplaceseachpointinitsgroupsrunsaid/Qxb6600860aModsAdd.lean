/-
  THE WALKS OF '(*nodeSet).add', ZZNodeSetAdd, zzDistinct, zzCloneU32.
-/
import Derived.Test.Qxb6600860aModsBase
import Derived.Test.Qxb6600860aModsProbe
import Derived.Laws.BitsAllLaws
namespace Go.Proofs.Qxb6600860aMods
set_option linter.unusedVariables false
set_option linter.unusedSimpArgs false
open Go.RowKit

theorem Trym.info27 : (Trym.prog.info? 27).map (fun i => (i.zero, i.size, i.bytes)) = some (some (.int .u32 0), 1, 4) := by kernel_rfl

/-- Where the probe for id begins. -/
def hashN (sh : Nat) (id : Int) : Nat := (id * 2654435769 % 4294967296 / 2 ^ sh).toNat

theorem hashN_cast (sh : Nat) (id : Int) : id * 2654435769 % 4294967296 / 2 ^ sh = (hashN sh id : Int) := by
  unfold hashN
  have h1 : 0 ≤ id * 2654435769 % 4294967296 := Int.emod_nonneg _ (by decide)
  have h2 : (0 : Int) ≤ 2 ^ sh := Int.le_of_lt (Int.pow_pos (by decide))
  have := Int.ediv_nonneg h1 h2
  omega

theorem hashN_lt {bits : Nat} (hb : bits ≤ 16) (id : Int) : hashN (32 - bits) id < 2 ^ bits := by
  have h := hashN_cast (32 - bits) id
  have h1 : 0 ≤ id * 2654435769 % 4294967296 := Int.emod_nonneg _ (by decide)
  have h2 : id * 2654435769 % 4294967296 < 4294967296 := Int.emod_lt_of_pos _ (by decide)
  generalize id * 2654435769 % 4294967296 = X at h h1 h2
  have hp : (0 : Int) < 2 ^ (32 - bits) := Int.pow_pos (by decide)
  have e : (4294967296 : Int) = 2 ^ bits * 2 ^ (32 - bits) := by rw [← Int.pow_add, show bits + (32 - bits) = 32 by omega]; rfl
  have h3 : X / 2 ^ (32 - bits) < 2 ^ bits := by
    rw [e] at h2
    exact Int.ediv_lt_of_lt_mul hp h2
  rw [h] at h3
  have h4 : ((2 ^ bits : Nat) : Int) = (2 : Int) ^ bits := by simp
  rw [← h4] at h3
  omega

theorem and_mask {N bits x : Nat} (hN : N = 2 ^ bits) (hx : x < N) (hN2 : N ≤ 65536) : Go.bits .and .u32 ((x : Int) + 1) ((N : Int) - 1) = (((x + 1) % N : Nat) : Int) := by
  have h := u32_and_nat (x + 1) (N - 1) (by omega) (by omega)
  rw [show ((x + 1 : Nat) : Int) = (x : Int) + 1 by omega, show ((N - 1 : Nat) : Int) = (N : Int) - 1 by omega] at h
  rw [h, hN, Nat.and_two_pow_sub_one_eq_mod]

set_option maxHeartbeats 1000000 in
theorem add_at (b g N bits sh t : Nat) (S : List Int) (id : Int) (w : World) (hid : 0 ≤ id) (hid2 : id < 4294967295) (hN : N = 2 ^ bits) (hN1 : 1 ≤ N) (hN2 : N ≤ 65536) (hsh : sh ≤ 32) (hsh2 : 16 ≤ sh) (hh : hashN sh id < N) (ht : t < N)
    (hb0 : w.cell? ⟨b, 0, none⟩ = some (.slice (some ⟨g, 0, none⟩) N N)) (hb1 : w.cell? ⟨b, 1, none⟩ = some (.int .u64 sh))
    (hc : ∀ i, i < N → w.cell? ⟨g, i, none⟩ = some (.int .u32 (S.getD i 0))) (hf : ∀ i, i < N → w.frozen? ⟨g, i, none⟩ = false)
    (hno : ∀ t', t' < t → S.getD ((hashN sh id + t') % N) 0 ≠ 0 ∧ S.getD ((hashN sh id + t') % N) 0 ≠ id + 1)
    (r : Bool) (hr : (r = true ∧ S.getD ((hashN sh id + t) % N) 0 = 0) ∨ (r = false ∧ S.getD ((hashN sh id + t) % N) 0 = id + 1)) :
    Calls Trym.prog 28 #[.pointer (some ⟨b, 0, none⟩), .int .u32 id] w fun e w' => e = .returned (.bool r) ∧ w' = if r = true then w.setCell ⟨g, (hashN sh id + t) % N, none⟩ (.int .u32 (id + 1)) else w := by
  have HH := hide (hashN_cast sh id)
  have HN := hide hN
  have HC := hide hc
  have HF := hide hf
  have HNO := hide hno
  have HR := hide hr
  clear hN hc hf hno hr
  go_enter Trym.func28, Trym.ntmps28
  go_wp2
  rw [HH.out]
  obtain ⟨h, hhd⟩ : ∃ h, h = hashN sh id := ⟨_, rfl⟩
  rw [← hhd] at HNO HR hh ⊢
  have HHD := hide hhd
  clear HH hhd
  go_loopg [6] t (fun gk i wr => ∃ u : Nat, u ≤ t ∧ gk = t - u ∧ i = .int .u32 (((h + u) % N : Nat) : Int) ∧ wr = w)
  case atStart => exact ⟨0, Nat.zero_le _, rfl, by rw [Nat.add_zero, Nat.mod_eq_of_lt hh], rfl⟩
  case round =>
    obtain ⟨u, hu, hgk, rfl, rfl⟩ := hrel
    have HG := hide hgk
    clear hgk
    have hp : (h + u) % N < N := Nat.mod_lt _ (by omega)
    have hmask := and_mask HN.out hp hN2
    have hnext : ((h + u) % N + 1) % N = (h + (u + 1)) % N := by rw [Nat.mod_add_mod]; rfl
    rw [hnext] at hmask
    have hcell := HC.out _ hp
    have hfr := HF.out _ hp
    by_cases hut : u = t
    · subst hut
      have hrr := HR.out
      clear hmask hnext
      generalize hpp : (h + u) % N = p at *
      have HP := hide hpp
      clear hpp
      rcases hrr with ⟨rfl, hz⟩ | ⟨rfl, hz⟩
      · rw [hz] at hcell
        clear HR hz
        go_wp2
        go_ret
        exact ⟨rfl, by rw [← HHD.out, HP.out]⟩
      · rw [hz] at hcell
        have e1 : (id + 1 == 0) = false := by simp; omega
        have e2 : (id + 1 == id + 1) = true := by simp
        clear HR hz
        go_wp2
        go_ret
        exact ⟨rfl, rfl⟩
    · obtain ⟨n1, n2⟩ := HNO.out u (by omega)
      have HM : Hid (Go.bits .and .u32 ((((h + u) % N : Nat) : Int) + 1) ((N : Int) - 1) = (((h + (u + 1)) % N : Nat) : Int)) := hmask
      clear hmask hnext
      generalize (h + u) % N = p at *
      generalize S.getD p 0 = v at *
      have e1 : (v == 0) = false := by simpa using n1
      have e2 : (v == id + 1) = false := by simpa using n2
      clear n1 n2
      go_wp2
      go_roundg (t - (u + 1))
      case measure => rw [HG.out]; omega
      case rel => exact ⟨u + 1, by omega, rfl, by rw [HM.out], rfl⟩


/-- THE TABLE IN MEMORY: block g holds the slots S. -/
def Slots (w : World) (g N : Nat) (S : List Int) : Prop := S.length = N ∧ w.rowIs g 27 N (fun i => .int .u32 (S.getD i 0))

theorem Slots.keep {w w' : World} {g N : Nat} {S : List Int} (h : Slots w g N S) (hb : w'.heap[g]? = w.heap[g]?) : Slots w' g N S := ⟨h.1, h.2.of_block hb⟩

theorem Slots.set {w : World} {g N : Nat} {S : List Int} (h : Slots w g N S) {p : Nat} (hp : p < N) (v : Int) : Slots (w.setCell ⟨g, p, none⟩ (.int .u32 v)) g N (S.set p v) :=
  ⟨by simp [h.1], (h.2.set p _).congr fun i hi => by
    rw [getD_set S p i v (by rw [h.1]; exact hp)]
    split <;> rfl⟩

/-- WHAT ZZNodeSetAdd LEAVES, of a table that holds A. -/
def AddPost (w : World) (g N sh : Nat) (S A : List Int) (id : Int) (e : Ending) (w' : World) : Prop :=
  ∃ S', e = .returned (.bool (!decide (id ∈ A))) ∧ Slots w' g N S' ∧ NS N (hashN sh) S' (addIf A id) ∧ (id ∈ A → S' = S) ∧ w.grownBy w' (some g)

set_option maxHeartbeats 1000000 in
theorem zzadd_any (g N bits : Nat) (S A : List Int) (id : Int) (w : World) (hid : 0 ≤ id) (hid2 : id < 4294967295) (hbits : bits ≤ 16) (hN : N = 2 ^ bits) (hA : A.length < N) (hS : Slots w g N S) (hns : NS N (hashN (32 - bits)) S A) :
    Calls Trym.prog 11 #[.slice (some ⟨g, 0, none⟩) N N, .int .u64 ((32 - bits : Nat) : Int), .int .u32 id] w fun e w' => AddPost w g N (32 - bits) S A id e w' := by
  have hN1 : 1 ≤ N := by rw [hN]; exact Nat.one_le_two_pow
  have hN2 : N ≤ 65536 := by
    rw [hN]
    calc 2 ^ bits ≤ 2 ^ 16 := Nat.pow_le_pow_right (by decide) hbits
      _ = 65536 := by decide
  have hh : hashN (32 - bits) id < N := by rw [hN]; exact hashN_lt hbits id
  obtain ⟨t, ht, hno, hst⟩ := hns.stop hid hh hA
  have hg := hS.2.lt
  have hp : (hashN (32 - bits) id + t) % N < N := Nat.mod_lt _ (by omega)
  obtain ⟨w2, hw2⟩ : ∃ w2, w2 = w.alloc (.cells #[.slice (some ⟨g, 0, none⟩) N N, .int .u64 ((32 - bits : Nat) : Int)] 51) := ⟨_, rfl⟩
  have hb := heap_alloc_new w (.cells #[.slice (some ⟨g, 0, none⟩) N N, .int .u64 ((32 - bits : Nat) : Int)] 51)
  rw [← hw2] at hb
  have hb0 : w2.cell? ⟨w.heap.size, 0, none⟩ = some (.slice (some ⟨g, 0, none⟩) N N) := by simp [World.cell?, hb]
  have hb1 : w2.cell? ⟨w.heap.size, 1, none⟩ = some (.int .u64 ((32 - bits : Nat) : Int)) := by simp [World.cell?, hb]
  have hbk : w2.heap[g]? = w.heap[g]? := by rw [hw2]; exact Below.heap_alloc _ _ _ hg
  have hS2 := hS.keep hbk
  have hgr : w.grownBy w2 (some g) := by rw [hw2]; exact World.grownBy_alloc _ _ _
  have key : Calls Trym.prog 28 #[.pointer (some ⟨w.heap.size, 0, none⟩), .int .u32 id] w2 fun e w' => AddPost w g N (32 - bits) S A id e w' := by
    rcases hst with ⟨hm, hv⟩ | ⟨hm, hv⟩
    · refine (add_at w.heap.size g N bits (32 - bits) t S id w2 hid hid2 hN hN1 hN2 (by omega) (by omega) hh ht hb0 hb1 (fun i hi => hS2.2.cell hi) (fun i hi => hS2.2.frozen i) hno false (.inr ⟨rfl, hv⟩)).mono fun e w' ⟨h1, h2⟩ => ?_
      rw [if_neg (by decide)] at h2
      subst h2
      exact ⟨S, by rw [h1]; simp [hm], hS2, by unfold addIf; rw [if_pos hm]; exact hns, fun _ => rfl, hgr⟩
    · refine (add_at w.heap.size g N bits (32 - bits) t S id w2 hid hid2 hN hN1 hN2 (by omega) (by omega) hh ht hb0 hb1 (fun i hi => hS2.2.cell hi) (fun i hi => hS2.2.frozen i) hno true (.inl ⟨rfl, hv⟩)).mono fun e w' ⟨h1, h2⟩ => ?_
      rw [if_pos rfl] at h2
      subst h2
      refine ⟨_, by rw [h1]; simp [hm], hS2.set hp _, by unfold addIf; rw [if_neg hm]; exact hns.push hid (by omega) hm ht hv (fun t' h' => (hno t' h').1), fun h => absurd h hm, ?_⟩
      exact ⟨hgr.os, hgr.tape, hgr.output, by simpa using hgr.size, fun k hk hne => by rw [Below.heap_setCell _ _ _ _ (by simp; intro e; exact hne (by rw [e]))]; exact hgr.block k hk hne⟩
  have HK := hide key
  have HW := hide hw2
  clear key hno hst hS2 hgr hbk hb0 hb1 hb hns hS hw2 hN hN1 hN2 hh hp ht hA hg
  go_enter Trym.func11, Trym.ntmps11
  go_wp2_with fail
  rw [← HW.out]
  refine HK.out.mono ?_
  intro e w' hpost
  obtain ⟨S', he, hrest⟩ := hpost
  subst he
  go_wp2_with fail
  go_ret
  exact ⟨S', rfl, hrest⟩

end Go.Proofs.Qxb6600860aMods
