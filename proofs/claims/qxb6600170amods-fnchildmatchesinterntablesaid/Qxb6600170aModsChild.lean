/-
  THE WALK OF '(*sequences).child': the child that is there; a new one.
-/
import Derived.Test.Qxb6600170aModsWalkC
import Derived.Deep.RegionHeld3
import Derived.Deep.AppendLies
import Derived.Deep.DrawnRows
namespace Go.Proofs.Qxb6600170aMods
set_option linter.unusedVariables false
set_option linter.unusedSimpArgs false
open Go.RowKit

theorem Trym.info28 : (Trym.prog.info? 28).map (fun i => (i.zero, i.size, i.bytes)) = some (some (.pointer none), 1, 8) := by kernel_rfl

theorem bytesEqual_no {w : World} {u v : Value} {xs ys : List Int} (hu : Bytes w u xs) (hv : Bytes w v ys) (h : xs ≠ ys) :
    Calls Trym.prog 28 #[u, v] w fun e w' => e = .returned (.bool false) ∧ w' = w :=
  (bytesEqual_any hu hv).mono fun e w' ⟨h1, h2⟩ => ⟨by rw [h1, decide_eq_false h], h2⟩
theorem bytesEqual_yes {w : World} {u v : Value} {xs ys : List Int} (hu : Bytes w u xs) (hv : Bytes w v ys) (h : xs = ys) :
    Calls Trym.prog 28 #[u, v] w fun e w' => e = .returned (.bool true) ∧ w' = w :=
  (bytesEqual_any hu hv).mono fun e w' ⟨h1, h2⟩ => ⟨by rw [h1, decide_eq_true h], h2⟩

theorem bytesClone_form {w : World} {v : Value} {xs : List Int} (hv : Bytes w v xs) :
    Calls Trym.prog 29 #[v] w fun e w' => ∃ pN cN, e = .returned (.slice pN xs.length cN) ∧ Inner w' w.heap.size (.slice pN xs.length cN) xs ∧ Below w.heap.size w w' :=
  (bytesClone_any hv).mono fun e w' ⟨v', h1, h2, h3⟩ => by
    have hf := h2.bytes.form
    rw [hf] at h1 h2
    exact ⟨_, _, h1, h2, h3⟩

set_option maxHeartbeats 1000000 in
/-- A child of that command is there: it is handed back; nothing turns. -/
theorem child_found (sb b g0 nk c k0 : Nat) (v : Value) (xs : List Int) (K : Nat → Nat) (CV : Nat → Value) (X : Nat → List Int) (w : World) (hv : Bytes w v xs) (hnk : nk ≤ 1048576) (hk0 : k0 < nk)
    (hb : w.cell? ⟨b, 4, none⟩ = some (.slice (some ⟨g0, 0, none⟩) nk c)) (hrow : ∀ k, k < nk → w.cell? ⟨g0, k, none⟩ = some (.pointer (some ⟨K k, 0, none⟩)))
    (hcmd : ∀ k, k < nk → w.cell? ⟨K k, 1, none⟩ = some (CV k) ∧ Bytes w (CV k) (X k)) (hno : ∀ k, k < k0 → X k ≠ xs) (hyes : X k0 = xs) :
    Calls Trym.prog 25 #[.pointer (some ⟨sb, 0, none⟩), .pointer (some ⟨b, 0, none⟩), v] w fun e w' => e = .returned (.pointer (some ⟨K k0, 0, none⟩)) ∧ w' = w := by
  have HR : Hid (∀ k, k < nk → w.cell? ⟨g0, k, none⟩ = some (.pointer (some ⟨K k, 0, none⟩))) := hrow
  have HC : Hid (∀ k, k < nk → w.cell? ⟨K k, 1, none⟩ = some (CV k) ∧ Bytes w (CV k) (X k)) := hcmd
  have HN : Hid (∀ k, k < k0 → X k ≠ xs) := hno
  have HY : Hid (X k0 = xs) := hyes
  have HV : Hid (Bytes w v xs) := hv
  clear hrow hcmd hno hyes hv
  go_enter Trym.func25, Trym.ntmps25
  go_wp2
  go_loopg [15] nk (fun gk i wr => ∃ k : Nat, k ≤ k0 ∧ gk = nk - k ∧ i = .int .i64 k ∧ wr = w)
  case atStart => exact ⟨0, Nat.zero_le _, rfl, rfl, rfl⟩
  case round =>
    obtain ⟨k, hk, hgk, rfl, rfl⟩ := hrel
    have HG : Hid (gk = nk - k) := hgk
    clear hgk
    have hlt : k < nk := by omega
    have hr := HR.out k hlt
    obtain ⟨hc1, hc2⟩ := HC.out k hlt
    have HB : Hid (Bytes wr (CV k) (X k)) := hc2
    clear hc2
    by_cases hkk : k = k0
    · subst hkk
      go_wp2_with (go_at_call 28; refine (bytesEqual_yes HB.out HV.out HY.out).mono ?_; rintro e w' ⟨rfl, rfl⟩)
      go_ret
      exact ⟨rfl, rfl⟩
    · have hne := HN.out k (by omega)
      have HNE : Hid (X k ≠ xs) := hne
      clear hne
      go_wp2_with (go_at_call 28; refine (bytesEqual_no HB.out HV.out HNE.out).mono ?_; rintro e w' ⟨rfl, rfl⟩)
      go_roundg (nk - (k + 1))
      case measure => rw [HG.out]; omega
      case rel => exact ⟨k + 1, by omega, rfl, by go_num, rfl⟩

theorem hide {p : Prop} (h : p) : Hid p := h

/-- WHAT A NEW CHILD LEAVES: node q is new; its parent's row of children and the row of all have it at their ends; all else is as it was. -/
structure Pushed (w w' : World) (B sb b q nk N d : Nat) (idv : Int) (pv cvi kv : Value) (ga : Nat) (xs : List Int) (kp ap : List Value) (cN kv' av' : Value) : Prop where
  below : Below B w w'
  new : w.heap.size ≤ q
  node : w'.heap[q]? = some (.cells #[.pointer (some ⟨b, 0, none⟩), cN, .int .i64 ((d : Int) + 1), .int .u64 N, .slice none 0 0] 50 (0, 0))
  cmd : Inner w' w.heap.size cN xs
  parent : w'.heap[b]? = some (.cells #[pv, cvi, .int .i64 d, .int .u64 idv, kv'] 50 (0, 0))
  kids : w'.ownsRow B 28 1 kv' (nk + 1) (kp ++ [.pointer (some ⟨q, 0, none⟩)])
  kidsAt : kv'.ownBlock = kv.ownBlock ∨ ∃ g, kv'.ownBlock = some g ∧ w.heap.size ≤ g
  top : w'.heap[sb]? = some (.cells #[av'] 52 (0, 0))
  all : w'.ownsRow B 28 1 av' (N + 1) (ap ++ [.pointer (some ⟨q, 0, none⟩)])
  allAt : av'.ownBlock = some ga ∨ ∃ g, av'.ownBlock = some g ∧ w.heap.size ≤ g
  apart : av'.ownBlock ≠ kv'.ownBlock
  kept : ∀ k, k < w.heap.size → k ≠ b → k ≠ sb → kv.ownBlock ≠ some k → k ≠ ga → w'.heap[k]? = w.heap[k]?

theorem row_ty {w : World} {B e : Nat} {v : Value} {n : Nat} {xs : List Value} (h : w.ownsRow B e 1 v n xs) {k : Nat} (hk : v.ownBlock = some k) : ∃ c, w.heap[k]? = some (.cells c e (0, 0)) := by
  rcases h.2 with ⟨rfl, _⟩ | ⟨g, cap, cur, rfl, _, hg, _⟩
  · simp [Value.ownBlock] at hk
  · simp [Value.ownBlock] at hk; subst hk; exact ⟨cur, hg⟩

theorem row_ne {w : World} {B e : Nat} {v : Value} {n : Nat} {xs : List Value} (h : w.ownsRow B e 1 v n xs) {k t : Nat} {c : Array Value} (hk : w.heap[k]? = some (.cells c t (0, 0))) (ht : t ≠ e) : v.ownBlock ≠ some k := by
  intro e1
  obtain ⟨c', h'⟩ := row_ty h e1
  rw [hk] at h'
  simp only [Option.some.injEq, Obj.cells.injEq] at h'
  exact ht h'.2.1

theorem keepTo {w w' : World} {row : Option Nat} {k : Nat} {o : Obj} (hg : w.grownBy w' row) (h : w.heap[k]? = some o) (hne : row ≠ some k) : w'.heap[k]? = some o := (hg.block k (lt_of_block h) (Ne.symm hne)).trans h
theorem keepAlloc {w : World} {k : Nat} {o : Obj} (h : w.heap[k]? = some o) (o' : Obj) : (w.alloc o').heap[k]? = some o := (Below.heap_alloc w o' k (lt_of_block h)).trans h
theorem keepSet {w : World} {k : Nat} {o : Obj} {a : Addr} {v : Value} (h : w.heap[k]? = some o) (hne : k ≠ a.block) : (w.setCell a v).heap[k]? = some o := (Below.heap_setCell w a v k hne).trans h

theorem pushed_mk {w w1 w3 w5 : World} {B sb b nk N d ga ca c gk ck gA cA : Nat} {idv : Int} {p : Option Addr} {pv cvi cN : Value} {xs : List Int} {kp ap : List Value} {o1 o2 : Obj}
    (hb : w.heap[b]? = some (.cells #[pv, cvi, .int .i64 d, .int .u64 idv, .slice p nk c] 50 (0, 0)))
    (hss : w.heap[sb]? = some (.cells #[.slice (some ⟨ga, 0, none⟩) N ca] 52 (0, 0)))
    (hkids : w.ownsRow B 28 1 (.slice p nk c) nk kp) (hall : w.ownsRow B 28 1 (.slice (some ⟨ga, 0, none⟩) N ca) N ap) (hap : (Value.slice p nk c).ownBlock ≠ some ga)
    (hB : B ≤ w.heap.size) (hBb : B ≤ b) (hBs : B ≤ sb) (hin : Inner w1 w.heap.size cN xs) (hbel : Below w.heap.size w w1)
    (hown3 : w3.ownsRow B 28 1 (.slice (some ⟨gk, 0, none⟩) (nk + 1) ck) (nk + 1) (kp ++ [.pointer (some ⟨w1.heap.size, 0, none⟩)]))
    (hgrow3 : ((w1.alloc (.cells #[.pointer (some ⟨b, 0, none⟩), cN, .int .i64 ((d : Int) + 1), .int .u64 N, .slice none 0 0] 50)).alloc o1).grownBy w3 (Value.slice p nk c).ownBlock)
    (hat3 : (Value.slice p nk c).ownBlock = some gk ∨ gk = w1.heap.size + 1 + 1)
    (hown5 : w5.ownsRow B 28 1 (.slice (some ⟨gA, 0, none⟩) (N + 1) cA) (N + 1) (ap ++ [.pointer (some ⟨w1.heap.size, 0, none⟩)]))
    (hgrow5 : ((w3.setCell ⟨b, 4, none⟩ (.slice (some ⟨gk, 0, none⟩) (nk + 1) ck)).alloc o2).grownBy w5 (Value.slice (some ⟨ga, 0, none⟩) N ca).ownBlock)
    (hat5 : (Value.slice (some ⟨ga, 0, none⟩) N ca).ownBlock = some gA ∨ gA = w3.heap.size + 1) :
    Pushed w (w5.setCell ⟨sb, 0, none⟩ (.slice (some ⟨gA, 0, none⟩) (N + 1) cA)) B sb b w1.heap.size nk N d idv pv cvi (.slice p nk c) ga xs kp ap cN (.slice (some ⟨gk, 0, none⟩) (nk + 1) ck) (.slice (some ⟨gA, 0, none⟩) (N + 1) cA) := by
  have hs1 := hbel.size
  have hs3 : w1.heap.size + 1 + 1 ≤ w3.heap.size := by have := hgrow3.size; simpa using this
  have hs5 : w3.heap.size + 1 ≤ w5.heap.size := by have := hgrow5.size; simpa using this
  have hblt := lt_of_block hb
  have hslt := lt_of_block hss
  have hbs : b ≠ sb := by intro e; subst e; rw [hb] at hss; simp at hss
  have hkb := row_ne hkids hb (by decide)
  have hks := row_ne hkids hss (by decide)
  have hga_b := row_ne hall hb (by decide)
  have hga_s := row_ne hall hss (by decide)
  have hga := hall.lt ga rfl
  have hkl : ∀ k, (Value.slice p nk c).ownBlock = some k → B ≤ k ∧ k < w.heap.size := fun k hk => hkids.lt k hk
  simp only [Value.ownBlock, ne_eq, Option.some.injEq] at hga_b hga_s hat5
  -- any old block
  have old3 : ∀ k o, w.heap[k]? = some o → (Value.slice p nk c).ownBlock ≠ some k → w3.heap[k]? = some o := by
    intro k o hk hne
    have h1 : w1.heap[k]? = some o := (hbel.block k (lt_of_block hk)).trans hk
    exact keepTo hgrow3 (keepAlloc (keepAlloc h1 _) _) hne
  -- what is new by w1, or the node
  have new3 : ∀ k o, w.heap.size ≤ k → (w1.alloc (.cells #[.pointer (some ⟨b, 0, none⟩), cN, .int .i64 ((d : Int) + 1), .int .u64 N, .slice none 0 0] 50)).heap[k]? = some o → w3.heap[k]? = some o := by
    intro k o hle hk
    refine keepTo hgrow3 (keepAlloc hk _) fun e => ?_
    have := hkl k e
    omega
  have on6 : ∀ k o, w3.heap[k]? = some o → k ≠ b → k ≠ ga → k ≠ sb → (w5.setCell ⟨sb, 0, none⟩ (.slice (some ⟨gA, 0, none⟩) (N + 1) cA)).heap[k]? = some o := by
    intro k o hk h1 h2 h3
    exact keepSet (keepTo hgrow5 (keepAlloc (keepSet hk (by simpa using h1)) _) (by simpa [Value.ownBlock] using Ne.symm h2)) (by simpa using h3)
  have hgk : gk ≠ b ∧ gk ≠ ga ∧ gk ≠ sb := by
    rcases hat3 with h | h
    · rw [h] at hkb hks hap
      simp only [ne_eq, Option.some.injEq] at hkb hks hap
      exact ⟨hkb, hap, hks⟩
    · omega
  have hb3 := old3 b _ hb hkb
  have hs3' := old3 sb _ hss hks
  refine ⟨?_, hs1, ?_, ?_, ?_, ?_, ?_, ?_, ?_, ?_, ?_, ?_⟩
  · -- below
    have b1 : Below B w ((w1.alloc (.cells #[.pointer (some ⟨b, 0, none⟩), cN, .int .i64 ((d : Int) + 1), .int .u64 N, .slice none 0 0] 50)).alloc o1) :=
      ((hbel.mono hB).alloc (by omega) _).alloc (by simp; omega) _
    have b3 := b1.grown hgrow3 (by simp; omega) (fun k hk => (hkl k hk).1)
    have b4 := (b3.setCell (p := ⟨b, 4, none⟩) hBb (.slice (some ⟨gk, 0, none⟩) (nk + 1) ck)).alloc (by simp; omega) o2
    have b5 := b4.grown hgrow5 (by simp; omega) (fun k hk => by simp [Value.ownBlock] at hk; omega)
    exact b5.setCell hBs _
  · exact on6 _ _ (new3 _ _ hs1 (heap_alloc_new w1 _)) (by omega) (by omega) (by omega)
  · refine hin.keep fun k hk => ?_
    obtain ⟨hle, cc, hc⟩ := hin.lt k hk
    rw [hc]
    exact on6 _ _ (new3 _ _ hle (keepAlloc hc _)) (by omega) (by omega) (by omega)
  · -- the parent's block
    have h4 : (w3.setCell ⟨b, 4, none⟩ (.slice (some ⟨gk, 0, none⟩) (nk + 1) ck)).heap[b]? = some (.cells #[pv, cvi, .int .i64 d, .int .u64 idv, .slice (some ⟨gk, 0, none⟩) (nk + 1) ck] 50 (0, 0)) := by
      simp [World.setCell, Array.getElem?_modify, hb3]
    exact keepSet (keepTo hgrow5 (keepAlloc h4 _) (by simpa [Value.ownBlock] using hga_b)) (by simpa using hbs)
  · have h4 := (ownsRow_setCell_other hown3 (a := ⟨b, 4, none⟩) (by simpa [Value.ownBlock] using hgk.1) (.slice (some ⟨gk, 0, none⟩) (nk + 1) ck)).alloc o2
    exact ownsRow_setCell_other (h4.kept hgrow5 (.inr (by simpa [Value.ownBlock] using hgk.2.1))) (by simpa [Value.ownBlock] using hgk.2.2) _
  · rcases hat3 with h | h
    · exact .inl h.symm
    · exact .inr ⟨gk, rfl, by omega⟩
  · have h5 : w5.heap[sb]? = some (.cells #[.slice (some ⟨ga, 0, none⟩) N ca] 52 (0, 0)) :=
      keepTo hgrow5 (keepAlloc (keepSet hs3' (by simpa using Ne.symm hbs)) _) (by simpa [Value.ownBlock] using hga_s)
    exact one_setCell h5
  · refine ownsRow_setCell_other hown5 ?_ _
    simp only [Value.ownBlock, ne_eq, Option.some.injEq]
    rcases hat5 with h | h <;> omega
  · rcases hat5 with h | h
    · exact .inl (by simp [Value.ownBlock, h])
    · exact .inr ⟨gA, rfl, by omega⟩
  · simp only [Value.ownBlock, ne_eq, Option.some.injEq]
    rcases hat5 with h | h
    · subst h; exact Ne.symm hgk.2.1
    · have := hown3.lt gk rfl; omega
  · intro k hk h1 h2 h3 h4
    have hk' : w.heap[k]? = some w.heap[k] := Array.getElem?_eq_some_iff.2 ⟨hk, rfl⟩
    rw [hk']
    exact on6 k _ (old3 k _ hk' h3) h1 h4 h2

theorem cell5 {w : World} {b t : Nat} {x0 x1 x2 x3 x4 : Value} (h : w.heap[b]? = some (.cells #[x0, x1, x2, x3, x4] t (0, 0))) :
    w.cell? ⟨b, 0, none⟩ = some x0 ∧ w.cell? ⟨b, 1, none⟩ = some x1 ∧ w.cell? ⟨b, 2, none⟩ = some x2 ∧ w.cell? ⟨b, 3, none⟩ = some x3 ∧ w.cell? ⟨b, 4, none⟩ = some x4 ∧ w.frozen? ⟨b, 4, none⟩ = false := by
  simp [World.cell?, World.frozen?, h]

def NewPost (w : World) (B sb b nk N d : Nat) (idv : Int) (pv cvi kv : Value) (ga : Nat) (xs : List Int) (kp ap : List Value) (e : Ending) (w' : World) : Prop :=
  ∃ q cN kv' av', e = .returned (.pointer (some ⟨q, 0, none⟩)) ∧ Pushed w w' B sb b q nk N d idv pv cvi kv ga xs kp ap cN kv' av'

attribute [local go_sem ↓] Go.wp_at_zero Go.wp_at_succ

set_option maxHeartbeats 4000000 in
theorem child_new (B sb b nk c N ga ca : Nat) (p : Option Addr) (d : Nat) (idv : Int) (pv cvi v : Value) (xs : List Int) (kp ap : List Value) (K : Nat → Nat) (CV : Nat → Value) (X : Nat → List Int) (w : World) (hv : Bytes w v xs)
    (hnk : nk ≤ 1048576) (hN : N ≤ 1048576) (hd : d ≤ 1048576) (hB : B ≤ w.heap.size) (hBb : B ≤ b) (hBs : B ≤ sb)
    (hb : w.heap[b]? = some (.cells #[pv, cvi, .int .i64 d, .int .u64 idv, .slice p nk c] 50 (0, 0)))
    (hss : w.heap[sb]? = some (.cells #[.slice (some ⟨ga, 0, none⟩) N ca] 52 (0, 0)))
    (hkids : w.ownsRow B 28 1 (.slice p nk c) nk kp) (hall : w.ownsRow B 28 1 (.slice (some ⟨ga, 0, none⟩) N ca) N ap) (hap : (Value.slice p nk c).ownBlock ≠ some ga)
    (hrow : ∀ k, k < nk → ∃ g0, p = some ⟨g0, 0, none⟩ ∧ w.cell? ⟨g0, k, none⟩ = some (.pointer (some ⟨K k, 0, none⟩)))
    (hcmd : ∀ k, k < nk → w.cell? ⟨K k, 1, none⟩ = some (CV k) ∧ Bytes w (CV k) (X k)) (hno : ∀ k, k < nk → X k ≠ xs) :
    Calls Trym.prog 25 #[.pointer (some ⟨sb, 0, none⟩), .pointer (some ⟨b, 0, none⟩), v] w fun e w' => NewPost w B sb b nk N d idv pv cvi (.slice p nk c) ga xs kp ap e w' := by
  have HR : Hid (∀ k, k < nk → ∃ g0, p = some ⟨g0, 0, none⟩ ∧ w.cell? ⟨g0, k, none⟩ = some (.pointer (some ⟨K k, 0, none⟩))) := hrow
  have HC : Hid (∀ k, k < nk → w.cell? ⟨K k, 1, none⟩ = some (CV k) ∧ Bytes w (CV k) (X k)) := hcmd
  have HN : Hid (∀ k, k < nk → X k ≠ xs) := hno
  have HV : Hid (Bytes w v xs) := hv
  have HBb : Hid (w.heap[b]? = some (.cells #[pv, cvi, .int .i64 d, .int .u64 idv, .slice p nk c] 50 (0, 0))) := hb
  have HSS : Hid (w.heap[sb]? = some (.cells #[.slice (some ⟨ga, 0, none⟩) N ca] 52 (0, 0))) := hss
  have HK : Hid (w.ownsRow B 28 1 (.slice p nk c) nk kp) := hkids
  have HA : Hid (w.ownsRow B 28 1 (.slice (some ⟨ga, 0, none⟩) N ca) N ap) := hall
  have HAP : Hid ((Value.slice p nk c).ownBlock ≠ some ga) := hap
  have hb4 : w.cell? ⟨b, 4, none⟩ = some (.slice p nk c) := by simp [World.cell?, hb]
  have hb2 : w.cell? ⟨b, 2, none⟩ = some (.int .i64 d) := by simp [World.cell?, hb]
  have hs0 : w.cell? ⟨sb, 0, none⟩ = some (.slice (some ⟨ga, 0, none⟩) N ca) := by simp [World.cell?, hss]
  have hblt : b < w.heap.size := lt_of_block hb
  have hsblt : sb < w.heap.size := lt_of_block hss
  have hbs : b ≠ sb := by intro e; subst e; rw [hb] at hss; simp at hss
  clear hrow hcmd hno hv hb hss hkids hall hap
  obtain ⟨i0, hi, hz0, hz1, hz2⟩ := info_parts Trym.info28
  go_enter Trym.func25, Trym.ntmps25
  go_wp2
  go_loopg [15] nk (fun gk i wr => ∃ k : Nat, k ≤ nk ∧ gk = nk - k ∧ i = .int .i64 k ∧ wr = w)
  case atStart => exact ⟨0, Nat.zero_le _, rfl, rfl, rfl⟩
  case round =>
    obtain ⟨k, hk, hgk, rfl, rfl⟩ := hrel
    have HG : Hid (gk = nk - k) := hgk
    clear hgk
    by_cases hlt : k < nk
    · obtain ⟨g0, rfl, hr⟩ := HR.out k hlt
      obtain ⟨hc1, hc2⟩ := HC.out k hlt
      have HB : Hid (Bytes wr (CV k) (X k)) := hc2
      clear hc2
      have hne := HN.out k (by omega)
      have HNE : Hid (X k ≠ xs) := hne
      clear hne
      go_wp2_with (go_at_call 28; refine (bytesEqual_no HB.out HV.out HNE.out).mono ?_; rintro e w' ⟨rfl, rfl⟩)
      go_roundg (nk - (k + 1))
      case measure => rw [HG.out]; omega
      case rel => exact ⟨k + 1, by omega, rfl, by go_num, rfl⟩
    · have hw1 : IntKind.i64.wrap ((d : Int) + 1) = (d : Int) + 1 := by rw [IntKind.wrap_i64]; omega
      have hw2 : IntKind.u64.wrap (N : Int) = (N : Int) := by rw [IntKind.wrap_u64]; omega
      go_wp2_with fail
      go_region_held3 (fun w' => w'.cell? ⟨b, 2, none⟩ = some (.int .i64 d) ∧ w'.cell? ⟨sb, 0, none⟩ = some (.slice (some ⟨ga, 0, none⟩) N ca)) (go_keep)
        (first | (go_at_call 29; refine (bytesClone_form (w := wr.drew) (xs := xs) (HV.out.keep fun _ _ => rfl)).mono ?_; rintro e w1 ⟨pN, cN, rfl, hin, hbel⟩; have k1 : w1.cell? ⟨b, 2, none⟩ = some (.int .i64 d) := (hbel.cell (p := ⟨b, 2, none⟩) hblt).trans hb2; have k2 : w1.cell? ⟨sb, 0, none⟩ = some (.slice (some ⟨ga, 0, none⟩) N ca) := (hbel.cell (p := ⟨sb, 0, none⟩) hsblt).trans hs0))
      clear k1 k2
      obtain ⟨w2, hw2⟩ : ∃ w2, w2 = w1.alloc (.cells #[.pointer (some ⟨b, 0, none⟩), .slice pN xs.length cN, .int .i64 ((d : Int) + 1), .int .u64 N, .slice none 0 0] 50) := ⟨_, rfl⟩
      rw [← hw2]
      have hb02 : Below wr.heap.size wr w2 := by rw [hw2]; exact Below.alloc (show Below wr.heap.size wr w1 from ⟨hbel.os, hbel.tape, hbel.output, hbel.size, hbel.block⟩) hbel.size _
      have c4 : w2.cell? ⟨b, 4, none⟩ = some (.slice p nk c) := (hb02.cell (p := ⟨b, 4, none⟩) hblt).trans hb4
      have HQ : Hid (w2.heap.size = w1.heap.size + 1) := by show _ = _; rw [hw2]; simp
      have O2K : Hid (w2.ownsRow B 28 1 (.slice p nk c) nk kp) := HK.out.kept (row := none) ⟨hb02.os, hb02.tape, hb02.output, hb02.size, fun k hk _ => hb02.block k hk⟩ (by cases (Value.slice p nk c).ownBlock <;> simp)
      have O2A : Hid (w2.ownsRow B 28 1 (.slice (some ⟨ga, 0, none⟩) N ca) N ap) := HA.out.kept (row := none) ⟨hb02.os, hb02.tape, hb02.output, hb02.size, fun k hk _ => hb02.block k hk⟩ (by simp [Value.ownBlock])
      have HB2 : Hid (w2.heap[b]? = some (.cells #[pv, cvi, .int .i64 d, .int .u64 idv, .slice p nk c] 50 (0, 0))) := (hb02.block b hblt).trans HBb.out
      have HS2 : Hid (w2.heap[sb]? = some (.cells #[.slice (some ⟨ga, 0, none⟩) N ca] 52 (0, 0))) := (hb02.block sb hsblt).trans HSS.out
      have HW2 : Hid (w2 = w1.alloc (.cells #[.pointer (some ⟨b, 0, none⟩), .slice pN xs.length cN, .int .i64 ((d : Int) + 1), .int .u64 N, .slice none 0 0] 50)) := hw2
      have hBw2 : B ≤ w2.heap.size := by have := hb02.size; omega
      clear hw2 hb02 hb4 hb2 hs0
      go_wp2_with (first
        | (at_builtin; refine wpList_append_lies _ rfl (.tmp 47) (.tmp 49) 48 rfl B 28 i0 (.pointer none) 1 8 Trym.underlying48 hi hz0 hz1 hz2 rfl (by decide) (.slice p nk c) nk kp rfl (O2K.out.alloc _) ⟨w2.heap.size, 0, none⟩ 1 1 [.pointer (some ⟨w1.heap.size, 0, none⟩)] rfl rfl (cell_one_new _ _ _) (by simp [Value.oneCell']) (by omega) (by unfold maxLen; omega) (by omega) (by simp; omega) (w2.heap.size + 1) (by simp) ?_; intro gk ck w3 hown3 hgrow3 hat3 hlt3; have HB3 : Hid (w3.heap[b]? = some (.cells #[pv, cvi, .int .i64 d, .int .u64 idv, .slice p nk c] 50 (0, 0))) := keepTo hgrow3 (keepAlloc HB2.out _) (row_ne HK.out HBb.out (by decide)); have HS3 : Hid (w3.heap[sb]? = some (.cells #[.slice (some ⟨ga, 0, none⟩) N ca] 52 (0, 0))) := keepTo hgrow3 (keepAlloc HS2.out _) (row_ne HK.out HSS.out (by decide)); have c43 := (cell5 HB3.out).2.2.2.2.1; have f43 := (cell5 HB3.out).2.2.2.2.2; have s03 := cell_of_one HS3.out; have HO3 : Hid (w3.ownsRow B 28 1 (.slice (some ⟨gk, 0, none⟩) (nk + 1) ck) (nk + 1) (kp ++ [.pointer (some ⟨w1.heap.size, 0, none⟩)])) := hown3; have HG3 : Hid ((w2.alloc (.cells #[.pointer (some ⟨w1.heap.size, 0, none⟩)] 28)).grownBy w3 (Value.slice p nk c).ownBlock) := hgrow3; have HT3 : Hid ((Value.slice p nk c).ownBlock = some gk ∨ gk = w2.heap.size + 1) := hat3; have O3A : Hid (w3.ownsRow B 28 1 (.slice (some ⟨ga, 0, none⟩) N ca) N ap) := (O2A.out.alloc _).kept hgrow3 (.inr (Ne.symm HAP.out)); have hBw3 : B ≤ w3.heap.size := Nat.le_trans hBw2 (Nat.le_trans (by simp) hgrow3.size); clear hown3 hgrow3 hat3 hlt3)
        | (at_builtin; refine wpList_append_lies _ rfl (.tmp 57) (.tmp 59) 48 rfl B 28 i0 (.pointer none) 1 8 Trym.underlying48 hi hz0 hz1 hz2 rfl (by decide) (.slice (some ⟨ga, 0, none⟩) N ca) N ap rfl ((ownsRow_setCell_other O3A.out (row_ne HA.out HBb.out (by decide)) _).alloc _) ⟨w3.heap.size, 0, none⟩ 1 1 [.pointer (some ⟨w1.heap.size, 0, none⟩)] rfl rfl ?_ (by simp [Value.oneCell']) (by omega) (by unfold maxLen; omega) (by omega) (by simp; omega) (w3.heap.size + 1) (by simp) ?_))
      · have h := heap_alloc_new (w3.setCell ⟨b, 4, none⟩ (.slice (some ⟨gk, 0, none⟩) (nk + 1) ck)) (.cells #[.pointer (some ⟨w1.heap.size, 0, none⟩)] 28)
        rw [World.size_setCell] at h
        exact World.news_of_block h
      · intro gA cA w5 hown5 hgrow5 hat5 hlt5
        have HS5 : Hid (w5.heap[sb]? = some (.cells #[.slice (some ⟨ga, 0, none⟩) N ca] 52 (0, 0))) := keepTo hgrow5 (keepAlloc (keepSet HS3.out (by simpa using Ne.symm hbs)) _) (row_ne HA.out HSS.out (by decide))
        have s05 := cell_of_one HS5.out
        have fs05 := free_of_one HS5.out
        have HO5 : Hid (w5.ownsRow B 28 1 (.slice (some ⟨gA, 0, none⟩) (N + 1) cA) (N + 1) (ap ++ [.pointer (some ⟨w1.heap.size, 0, none⟩)])) := hown5
        have HG5 := hide hgrow5
        have HT5 := hide hat5
        clear hown5 hgrow5 hat5 hlt5
        go_wp2
        go_ret
        have e2 := HW2.out
        have g3 := HG3.out
        have t3 := HT3.out
        rw [HQ.out] at t3
        rw [e2] at g3
        exact ⟨_, _, _, _, rfl, pushed_mk HBb.out HSS.out HK.out HA.out HAP.out hB hBb hBs hin ⟨hbel.os, hbel.tape, hbel.output, hbel.size, hbel.block⟩ HO3.out g3 t3 HO5.out HG5.out HT5.out⟩

end Go.Proofs.Qxb6600170aMods
