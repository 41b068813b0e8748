/-
  Contracts: bytes.Equal, bytes.Clone, cloneList.
-/
import Derived.Test.Qxb6600170aModsWalkB
import Derived.Laws.CopyOwn
import Derived.Deep.OwnRows
namespace Go.Proofs.Qxb6600170aMods
set_option linter.unusedVariables false
set_option linter.unusedSimpArgs false
open Go.RowKit

theorem Trym.info5 : (Trym.prog.info? 5).map (fun i => (i.zero, i.size, i.bytes)) = some (some (.int .u8 0), 1, 1) := by kernel_rfl
theorem Trym.info35 : (Trym.prog.info? 35).map (fun i => (i.zero, i.size, i.bytes)) = some (some (.slice none 0 0), 1, 24) := by kernel_rfl
theorem Trym.size5 : (Trym.prog.info? 5).map (·.size) = some 1 := by kernel_rfl

/-! ### bytes.Equal -/
theorem convert_bytes {w : World} {p : Option Addr} {c : Nat} {xs : List Int} (h : Bytes w (.slice p xs.length c) xs) :
    (convert 35 9 (.slice p xs.length c)).run Trym.prog w = .ok (.string (strOfNums xs)) w := by
  obtain ⟨p', c', e, hl, hb, hc⟩ := h
  simp only [Value.slice.injEq, true_and] at e
  obtain ⟨rfl, rfl⟩ := e
  by_cases h0 : xs = []
  · subst h0
    rw [run_convert_bytes_string w 35 9 5 _ _ c Trym.underlying35 Trym.underlying5 Trym.underlying9]
    cases p <;> simp [Conv.bytesToString, loadCells]
    all_goals rfl
  · obtain ⟨b, o, rfl, hcx⟩ := hc h0
    exact run_convert_bytes_arg w 35 5 Trym.underlying35 Trym.underlying5 b o _ c xs rfl hcx 9 Trym.underlying9

theorem byte_inj {x y : Int} (hx : 0 ≤ x ∧ x < 256) (hy : 0 ≤ y ∧ y < 256) (h : UInt8.ofNat x.toNat = UInt8.ofNat y.toNat) : x = y := by
  have := congrArg UInt8.toNat h
  simp at this
  omega

theorem map_byte_inj : ∀ {xs ys : List Int}, (∀ x ∈ xs, 0 ≤ x ∧ x < 256) → (∀ x ∈ ys, 0 ≤ x ∧ x < 256) → xs.map (fun n : Int => UInt8.ofNat n.toNat) = ys.map (fun n : Int => UInt8.ofNat n.toNat) → xs = ys
  | [], [], _, _, _ => rfl
  | [], _ :: _, _, _, h => by simp at h
  | _ :: _, [], _, _, h => by simp at h
  | x :: xs, y :: ys, hx, hy, h => by
    simp only [List.map_cons, List.cons.injEq] at h
    rw [byte_inj (hx x (by simp)) (hy y (by simp)) h.1, map_byte_inj (fun z hz => hx z (by simp [hz])) (fun z hz => hy z (by simp [hz])) h.2]

theorem str_eq {xs ys : List Int} (hx : ∀ x ∈ xs, 0 ≤ x ∧ x < 256) (hy : ∀ x ∈ ys, 0 ≤ x ∧ x < 256) : ((strOfNums xs).toList == (strOfNums ys).toList) = decide (xs = ys) := by
  have e : ∀ zs : List Int, (strOfNums zs).toList = zs.map fun n => UInt8.ofNat n.toNat := fun zs => by
    rw [← strOfNums_data]; exact ByteArray.toList_eq _
  rw [e, e, Bool.eq_iff_iff]
  simp only [beq_iff_eq, decide_eq_true_eq]
  exact ⟨fun h => map_byte_inj hx hy h, fun h => by rw [h]⟩

set_option maxHeartbeats 400000 in
theorem bytesEqual_any {w : World} {u v : Value} {xs ys : List Int} (hu : Bytes w u xs) (hv : Bytes w v ys) :
    Calls Trym.prog 28 #[u, v] w fun e w' => e = .returned (.bool (decide (xs = ys))) ∧ w' = w := by
  have hu' := hu
  have hv' := hv
  obtain ⟨p, c, rfl, hl, hx, hc⟩ := hu
  obtain ⟨q, d, rfl, hl', hy, hd⟩ := hv
  have k1 := convert_bytes hu'
  have k2 := convert_bytes hv'
  rw [← str_eq hx hy]
  clear hc hd hu' hv' hx hy
  generalize strOfNums xs = s at *
  generalize strOfNums ys = t at *
  go_enter Trym.func28, Trym.ntmps28
  go_wp2
  go_ret
  exact ⟨rfl, rfl⟩

/-! ### bytes.Clone -/
/-- A slice of the bytes xs in memory of the call's own, from block B on; or nil, of none. -/
def Inner (w : World) (B : Nat) (v : Value) (xs : List Int) : Prop :=
  xs.length ≤ 1048576 ∧ (∀ x ∈ xs, 0 ≤ x ∧ x < 256) ∧
  ((v = .slice none 0 0 ∧ xs = []) ∨ ∃ g c, v = .slice (some ⟨g, 0, none⟩) xs.length c ∧ B ≤ g ∧ ∃ m f, w.rowIs g 5 m f ∧ xs.length ≤ m ∧ ∀ i, i < xs.length → f i = .int .u8 (xs.getD i 0))

theorem Inner.bytes {w : World} {B : Nat} {v : Value} {xs : List Int} (h : Inner w B v xs) : Bytes w v xs := by
  obtain ⟨hl, hb, h⟩ := h
  rcases h with ⟨rfl, rfl⟩ | ⟨g, c, rfl, hg, m, f, hr, hm, hf⟩
  · exact ⟨none, 0, rfl, by simp, by simp, by simp⟩
  · exact ⟨_, c, rfl, hl, hb, fun _ => ⟨g, 0, rfl, fun i hi => by rw [Nat.zero_add, hr.cell (by omega), hf i hi]⟩⟩

theorem Inner.keep {w w' : World} {B : Nat} {v : Value} {xs : List Int} (h : Inner w B v xs) (hk : ∀ k, v.ownBlock = some k → w'.heap[k]? = w.heap[k]?) : Inner w' B v xs := by
  obtain ⟨hl, hb, h⟩ := h
  refine ⟨hl, hb, ?_⟩
  rcases h with h | ⟨g, c, rfl, hg, m, f, hr, hm, hf⟩
  · exact .inl h
  · exact .inr ⟨g, c, rfl, hg, m, f, hr.of_block (hk g rfl), hm, hf⟩

theorem Inner.lt {w : World} {B : Nat} {v : Value} {xs : List Int} (h : Inner w B v xs) : ∀ k, v.ownBlock = some k → B ≤ k ∧ ∃ c, w.heap[k]? = some (.cells c 5 (0, 0)) := by
  intro k hk
  obtain ⟨hl, hb, h⟩ := h
  rcases h with ⟨rfl, _⟩ | ⟨g, c, rfl, hg, m, f, hr, hm, hf⟩
  · simp [Value.ownBlock] at hk
  · simp [Value.ownBlock] at hk
    subst hk
    obtain ⟨c', h', _⟩ := hr
    exact ⟨hg, c', h'⟩

theorem inner_of_owns {w : World} {B : Nat} {v : Value} {xs : List Int} (hl : xs.length ≤ 1048576) (hb : ∀ x ∈ xs, 0 ≤ x ∧ x < 256) (h : w.ownsRow B 5 1 v xs.length (xs.map (Value.int .u8))) : Inner w B v xs := by
  refine ⟨hl, hb, ?_⟩
  rcases h.2 with ⟨rfl, h0⟩ | ⟨g, cap, cur, rfl, hB, hg, hn, hm, hs, ht⟩
  · exact .inl ⟨rfl, List.eq_nil_of_length_eq_zero h0⟩
  · refine .inr ⟨g, cap, rfl, hB, cap, fun i => (cur[i]?).getD (.int .u8 0), ⟨cur, hg, by simpa using hs, fun i hi => ?_⟩, hn, fun i hi => ?_⟩
    · have : i < cur.size := by simp at hs; omega
      simp [this]
    · have h1 : (cur.toList.take (xs.length * 1))[i]? = (xs.map (Value.int .u8))[i]? := by rw [ht]
      simp only [Nat.mul_one, List.getElem?_take, hi, if_true, Array.getElem?_toList, List.getElem?_map] at h1
      show (cur[i]?).getD (.int .u8 0) = _
      rw [h1]
      simp [hi]

set_option maxHeartbeats 1000000 in
theorem bytesClone_any {w : World} {v : Value} {xs : List Int} (hv : Bytes w v xs) :
    Calls Trym.prog 29 #[v] w fun e w' => ∃ v', e = .returned v' ∧ Inner w' w.heap.size v' xs ∧ Below w.heap.size w w' := by
  obtain ⟨p, c, rfl, hl, hb, hc⟩ := hv
  have q22 : ∀ (w : World) (a : Option Addr) (n c n' c' : Nat), (binOp .eql 35 (.slice a n c) (.slice none n' c')).run Trym.prog w = .ok (.bool a.isNone) w := fun w a n c n' c' => Lib.run_eql_slice_nil w _ _ a n c n' c' Trym.underlying35
  cases p with
  | none =>
    have h0 : xs = [] := Classical.byContradiction fun h => by obtain ⟨b, o, h1, _⟩ := hc h; cases h1
    subst h0
    clear hc hb hl
    refine Calls.mono (R := fun e w' => e = .returned (.slice none 0 0) ∧ w' = w) ?_ ?_
    · go_enter Trym.func29, Trym.ntmps29
      go_wp2
      go_ret
      exact ⟨rfl, rfl⟩
    · rintro e w' ⟨rfl, rfl⟩
      exact ⟨_, rfl, ⟨by simp, by simp, .inl ⟨rfl, rfl⟩⟩, Below.refl _ _⟩
  | some a =>
    obtain ⟨i0, hi, hz0, hz1, hz2⟩ := info_parts Trym.info5
    have hca : ∀ i, i < xs.length → w.cell? (a.add i) = some (.int .u8 (xs.getD i 0)) := by
      intro i hi
      obtain ⟨b, o, e, h⟩ := hc (fun h => by subst h; simp at hi)
      cases e
      rw [show (⟨b, o, none⟩ : Addr).add i = ⟨b, o + i, none⟩ from by unfold Addr.add; split <;> simp_all]; exact h i hi
    clear hc
    have A : Hid (∀ i, i < xs.length → w.cell? (a.add i) = some (.int .u8 (xs.getD i 0))) := hca
    clear hca
    have HB : Hid (∀ x ∈ xs, 0 ≤ x ∧ x < 256) := hb
    clear hb
    go_enter Trym.func29, Trym.ntmps29
    go_wp2_with (at_builtin; refine wpList_append_own _ rfl _ _ 35 rfl w.heap.size 5 i0 (.int .u8 0) 1 1 Trym.underlying35 hi hz0 hz1 hz2 rfl (by decide) _ _ _ rfl (World.ownsRow_made w #[] 0 (Nat.le_refl _) (Nat.zero_le _) rfl) a xs.length c (xs.map (Value.int .u8)) rfl ?qc1 ?qc2 ?qc3 ?qc4 ?qc5 ?qc6 ?_)
    case qc1 => simp
    case qc2 =>
      intro j u hj
      have hjn : j < xs.length := by
        have := (List.getElem?_eq_some_iff.1 hj).1
        simpa using this
      have e : (xs.map (Value.int .u8))[j]? = some (Value.int .u8 (xs.getD j 0)) := by simp [List.getD, List.getElem?_eq_getElem hjn]
      rw [e] at hj
      have hcl := A.out j hjn
      rw [World.cell?_alloc_lt _ _ _ (World.block_lt_of_cell? _ _ hcl), hcl]
      exact hj
    case qc3 => intro u hu; obtain ⟨x, _, rfl⟩ := List.mem_map.1 hu; rfl
    case qc4 => unfold maxLen; omega
    case qc5 => omega
    case qc6 => simp
    intro v' w1 hown hgrow hnil
    go_wp2
    go_ret
    refine ⟨v', rfl, inner_of_owns hl HB.out (by simpa using hown), ?_⟩
    exact ((Below.refl _ w).alloc (Nat.le_refl _) _).grown hgrow (by simp) (by intro k hk; simp [Value.ownBlock] at hk; omega)


/-! ### cloneList -/
/-- A LIST OF BYTE SLICES IN MEMORY OF THE CALL's OWN, from block B on: no two share memory. -/
structure Cloned (w : World) (B : Nat) (v : Value) (V : Nat → Value) (xss : List (List Int)) : Prop where
  outer : (v = .slice none 0 0 ∧ xss = []) ∨ ∃ g, v = .slice (some ⟨g, 0, none⟩) xss.length xss.length ∧ B ≤ g ∧ w.rowIs g 35 xss.length V
  inner : ∀ i, i < xss.length → Inner w B (V i) (xss.getD i [])
  apart : ∀ i j, i < j → j < xss.length → (V i).ownBlock = none ∨ (V i).ownBlock ≠ (V j).ownBlock

/-- What a round of cloneList keeps. -/
structure Cloning (w : World) (B g n k : Nat) (V : Nat → Value) (xss : List (List Int)) : Prop where
  row : w.rowIs g 35 n V
  inner : ∀ i, i < k → Inner w B (V i) (xss.getD i [])
  apart : ∀ i j, i < j → j < k → (V i).ownBlock = none ∨ (V i).ownBlock ≠ (V j).ownBlock
  rest : ∀ i, k ≤ i → i < n → V i = .slice none 0 0

theorem Cloning.skip {w : World} {B g n k : Nat} {V : Nat → Value} {xss : List (List Int)} (h : Cloning w B g n k V xss) (hk : k < n) (hx : xss.getD k [] = []) : Cloning w B g n (k + 1) V xss := by
  refine ⟨h.row, fun i hi => ?_, fun i j hij hj => ?_, fun i hi hn => h.rest i (by omega) hn⟩
  · by_cases e : i = k
    · subst e; rw [hx, h.rest i (Nat.le_refl _) hk]; exact ⟨by simp, by simp, .inl ⟨rfl, rfl⟩⟩
    · exact h.inner i (by omega)
  · by_cases e : j = k
    · subst e
      rw [h.rest j (Nat.le_refl _) hk]
      cases hb : (V i).ownBlock with
      | none => exact .inl rfl
      | some q => exact .inr (by simp [Value.ownBlock])
    · exact h.apart i j hij (by omega)

/-- The copy of one element into a new row. -/
theorem copy_row (wr : World) (len c : Nat) (p : Option Addr) (xs : List Int) (hlen : xs.length = len) (hl : xs.length ≤ 1048576) (hv : Bytes wr (.slice p len c) xs) :
    ∃ w2, (∀ ty, (Builtin.copy_ #[35, 35] ty #[.slice (some ⟨wr.heap.size, 0, none⟩) len len, .slice p len c]).run Trym.prog (wr.alloc (.cells (madeCells #[.int .u8 0] len) 5)) = .ok (goInt len) w2) ∧
      w2.rowIs wr.heap.size 5 len (fun i => .int .u8 (xs.getD i 0)) ∧ Below wr.heap.size wr w2 ∧ wr.heap.size < w2.heap.size := by
  obtain ⟨p', c', e, _, hb, hc⟩ := hv
  simp only [Value.slice.injEq] at e
  obtain ⟨rfl, _, rfl⟩ := e
  have hrow := World.rowIs_made wr (.int .u8 0) len 5
  by_cases h0 : xs = []
  · subst h0
    simp at hlen
    subst hlen
    refine ⟨_, fun ty => run_copy_none _ 35 35 ty 5 _ _ 0 0 0 c Trym.underlying35 Trym.size5 (by simp), hrow.congr (fun i hi => absurd hi (Nat.not_lt_zero i)), (Below.refl _ _).alloc (Nat.le_refl _) _, by simp⟩
  · obtain ⟨b, o, rfl, hcx⟩ := hc h0
    obtain ⟨cur, hg, hcs, _⟩ := hrow
    have hblt : b < wr.heap.size := World.block_lt_of_cell? _ _ (hcx 0 (List.length_pos_iff.2 h0))
    have hr := fun ty => run_copy_row (P := Trym.prog) (wr.alloc (.cells (madeCells #[.int .u8 0] len) 5)) 35 35 ty 5 wr.heap.size 0 len len ⟨b, o, none⟩ len c cur 5 (xs.map (Value.int .u8)) Trym.underlying35 Trym.size5 hg (by simp [hlen])
      (fun j v hj => by
        have hjn : j < xs.length := by
          have := (List.getElem?_eq_some_iff.1 hj).1
          simpa using this
        have e : (xs.map (Value.int .u8))[j]? = some (Value.int .u8 (xs.getD j 0)) := by simp [List.getD, List.getElem?_eq_getElem hjn]
        rw [e] at hj
        rw [show (⟨b, o, none⟩ : Addr).add j = ⟨b, o + j, none⟩ from by unfold Addr.add; split <;> simp_all]
        rw [World.cell?_alloc_lt _ _ _ hblt, hcx j hjn]
        exact hj) (by simp [hcs, hlen]) (fun v hv => by obtain ⟨x, _, rfl⟩ := List.mem_map.1 hv; rfl)
    have hd : cur.toList.drop (0 + len) = [] := by simp [hcs]
    simp only [List.length_map, hlen, hd, List.take_zero, List.nil_append, List.append_nil] at hr
    refine ⟨_, hr, ⟨(xs.map (Value.int .u8)).toArray, setRow_heap _ _ _ _ _ _ hg, by simp [hlen], fun i hi => ?_⟩, below_setRow ((Below.refl _ _).alloc (Nat.le_refl _) _) (Nat.le_refl _) _, by simp⟩
    have hi' : i < xs.length := by omega
    simp [hi']

theorem Cloning.step {w w2 : World} {B g n k len : Nat} {V : Nat → Value} {xss : List (List Int)} (h : Cloning w B g n k V xss) (hk : k < n) (hB : B ≤ w.heap.size) (hlen : (xss.getD k []).length = len) (hl : len ≤ 1048576) (hb : ∀ x ∈ xss.getD k [], 0 ≤ x ∧ x < 256)
    (hr : w2.rowIs w.heap.size 5 len (fun i => .int .u8 ((xss.getD k []).getD i 0))) (hbel : Below w.heap.size w w2) :
    Cloning (w2.setCell ⟨g, k, none⟩ (.slice (some ⟨w.heap.size, 0, none⟩) len len)) B g n (k + 1) (fun j => if j = k then .slice (some ⟨w.heap.size, 0, none⟩) len len else V j) xss := by
  have hg := h.row.lt
  have hV : ∀ i, i < k → ∀ q, (V i).ownBlock = some q → q < w.heap.size ∧ q ≠ g := by
    intro i hi q hq
    obtain ⟨_, c, hc⟩ := (h.inner i hi).lt q hq
    refine ⟨lt_of_block hc, fun e => ?_⟩
    subst e
    obtain ⟨c', hc', _⟩ := h.row
    rw [hc] at hc'
    simp at hc'
  refine ⟨(h.row.of_block (hbel.block g hg)).set k _, fun i hi => ?_, fun i j hij hj => ?_, fun i hi hn => ?_⟩
  · by_cases e : i = k
    · subst e
      simp only [if_true]
      refine ⟨by omega, hb, .inr ⟨w.heap.size, len, by rw [hlen], hB, len, _, hr.setOther (by simp; omega) _, by omega, fun _ _ => rfl⟩⟩
    · simp only [if_neg e]
      refine (h.inner i (by omega)).keep fun q hq => ?_
      obtain ⟨h1, h2⟩ := hV i (by omega) q hq
      rw [Below.heap_setCell _ _ _ _ (by simpa using h2)]
      exact hbel.block q h1
  · by_cases e : j = k
    · subst e
      simp only [if_true, if_neg (show i ≠ j by omega)]
      cases hb : (V i).ownBlock with
      | none => exact .inl rfl
      | some q =>
        refine .inr ?_
        simp only [Value.ownBlock, ne_eq, Option.some.injEq]
        have := (hV i (by omega) q hb).1
        omega
    · simp only [if_neg e, if_neg (show i ≠ k by omega)]
      exact h.apart i j hij (by omega)
  · simp only [if_neg (show i ≠ k by omega)]
    exact h.rest i (by omega) hn

/-- cloneList's own loop. -/
def CloneRel (w : World) (B g n : Nat) (xss : List (List Int)) (k : Nat) (wr : World) : Prop := ∃ V, Cloning wr B g n k V xss ∧ Below B w wr ∧ B ≤ wr.heap.size

set_option maxHeartbeats 1600000 in
theorem cloneList_some (b o n c : Nat) (A : Nat → Option Addr) (C : Nat → Nat) (xss : List (List Int)) (w : World) (hn : xss.length = n) (hn1 : n ≤ 1048576) (hpos : 0 < n)
    (hcell : ∀ i, i < n → w.cell? ⟨b, o + i, none⟩ = some (.slice (A i) (xss.getD i []).length (C i))) (hby : ∀ i, i < n → Bytes w (.slice (A i) (xss.getD i []).length (C i)) (xss.getD i [])) :
    Calls Trym.prog 10 #[.slice (some ⟨b, o, none⟩) n c] w fun e w' => e = .returned (.slice (some ⟨w.heap.size, 0, none⟩) n n) ∧ CloneRel w w.heap.size w.heap.size n xss n w' := by
  have q23 : ∀ (w : World) (a : Option Addr) (n c n' c' : Nat), (binOp .eql 23 (.slice a n c) (.slice none n' c')).run Trym.prog w = .ok (.bool a.isNone) w := fun w a n c n' c' => Lib.run_eql_slice_nil w _ _ a n c n' c' Trym.underlying23
  have q35 : ∀ (w : World) (a : Option Addr) (n c : Nat), (binOp .neq 35 (.slice a n c) (.slice none 0 0)).run Trym.prog w = .ok (.bool (!a.isNone)) w := fun w a n c => run_neq_slice_nil w 35 5 a n c Trym.underlying35
  have hmk := fun w => run_make_row' (P := Trym.prog) 23 35 (.slice none 0 0) 24 Trym.underlying23 Trym.info35 rfl .i64 .i64 n (by omega) (by omega) w
  have hblt : b < w.heap.size := World.block_lt_of_cell? _ _ (hcell 0 hpos)
  have HB : Hid (∀ i, i < n → Bytes w (.slice (A i) (xss.getD i []).length (C i)) (xss.getD i [])) := hby
  have HC : Hid (∀ i, i < n → w.cell? ⟨b, o + i, none⟩ = some (.slice (A i) (xss.getD i []).length (C i))) := hcell
  have HN : Hid (xss.length = n) := hn
  clear hby hcell hn
  go_enter Trym.func10, Trym.ntmps10
  go_wp2
  go_loopg [4] n (fun gk i wr => ∃ k : Nat, k ≤ n ∧ gk = n - k ∧ i = .int .i64 k ∧ CloneRel w w.heap.size w.heap.size n xss k wr)
  case atStart =>
    refine ⟨0, Nat.zero_le _, rfl, rfl, fun _ => .slice none 0 0, ⟨World.rowIs_made w _ n 35, fun i hi => absurd hi (Nat.not_lt_zero i), fun i j hij hj => absurd hj (Nat.not_lt_zero j), fun _ _ _ => rfl⟩, (Below.refl _ _).alloc (Nat.le_refl _) _, by simp⟩
  case round =>
    obtain ⟨k, hk, hgk, rfl, hrel⟩ := hrel
    have HG : Hid (gk = n - k) := hgk
    clear hgk
    by_cases hlt : k < n
    · obtain ⟨V, hcl, hbel, hB⟩ := hrel
      have hck : wr.cell? ⟨b, o + k, none⟩ = some (.slice (A k) (xss.getD k []).length (C k)) := (hbel.cell (p := ⟨b, o + k, none⟩) hblt).trans (HC.out k hlt)
      have hbk : Bytes wr (.slice (A k) (xss.getD k []).length (C k)) (xss.getD k []) := (HB.out k hlt).below hbel (Nat.le_refl _)
      obtain ⟨xs, hxs⟩ : ∃ xs, xs = xss.getD k [] := ⟨_, rfl⟩
      rw [← hxs] at hck hbk
      obtain ⟨len, hlen⟩ : ∃ len, xs.length = len := ⟨_, rfl⟩
      rw [hlen] at hck hbk
      have hlen1 : len ≤ 1048576 := by obtain ⟨_, _, _, h, _⟩ := hbk; omega
      have hbd : ∀ x ∈ xs, 0 ≤ x ∧ x < 256 := by obtain ⟨_, _, _, _, h, _⟩ := hbk; exact h
      have HX : Hid (xs = xss.getD k []) := hxs
      have HL : Hid (xs.length = len) := hlen
      cases hA : A k with
      | none =>
        have h0 : xs = [] := by
          obtain ⟨p, c', e, _, _, h⟩ := hbk
          rw [hA] at e
          simp only [Value.slice.injEq] at e
          refine Classical.byContradiction fun hne => ?_
          obtain ⟨b', o', h1, _⟩ := h hne
          rw [← e.1] at h1
          cases h1
        have hstep := hcl.skip hlt (by rw [← hxs, h0])
        have HS : Hid (Cloning wr w.heap.size w.heap.size n (k + 1) V xss) := hstep
        have HBL : Hid (Below w.heap.size w wr) := hbel
        rw [hA] at hck
        clear hstep hbk hbd hxs hlen h0 hcl hbel hA
        go_wp2
        go_roundg (n - (k + 1))
        case measure => rw [HG.out]; omega
        case rel => exact ⟨k + 1, by omega, rfl, by go_num, V, HS.out, HBL.out, hB⟩
      | some a =>
        rw [hA] at hck hbk
        obtain ⟨w2, hrun, hr2, hb2, hs2⟩ := copy_row wr len (C k) (some a) xs hlen (by omega) hbk
        have hmk2 := run_make_row' (P := Trym.prog) 35 5 (.int .u8 0) 1 Trym.underlying35 Trym.info5 rfl .i64 .i64 len (by omega) (by omega) wr
        have hstep := hcl.step hlt hB (by rw [← hxs]; exact hlen) hlen1 (by rw [← hxs]; exact hbd) (by rw [← hxs]; exact hr2) hb2
        have HS : Hid (Cloning (w2.setCell ⟨w.heap.size, k, none⟩ (.slice (some ⟨wr.heap.size, 0, none⟩) len len)) w.heap.size w.heap.size n (k + 1) (fun j => if j = k then .slice (some ⟨wr.heap.size, 0, none⟩) len len else V j) xss) := hstep
        have hw2c : w2.cell? ⟨b, o + k, none⟩ = some (.slice (some a) len (C k)) := by
          rw [hb2.cell (p := ⟨b, o + k, none⟩) (by simp; omega)]; exact hck
        have hwac : (wr.alloc (.cells (madeCells #[.int .u8 0] len) 5)).cell? ⟨b, o + k, none⟩ = some (.slice (some a) len (C k)) := by
          rw [World.cell?_alloc_lt _ _ _ (by simp; omega)]; exact hck
        have hg := hcl.row.lt
        have hgc : w2.cell? ⟨w.heap.size, k, none⟩ = some (V k) := by rw [hb2.cell (p := ⟨w.heap.size, k, none⟩) hg]; exact hcl.row.cell hlt
        have hgf : w2.frozen? ⟨w.heap.size, k, none⟩ = false := by rw [hb2.frozen (p := ⟨w.heap.size, k, none⟩) hg]; exact hcl.row.frozen k
        have HBL : Hid (Below w.heap.size w (w2.setCell ⟨w.heap.size, k, none⟩ (.slice (some ⟨wr.heap.size, 0, none⟩) len len))) := (hbel.trans (hb2.mono hB)).setCell (Nat.le_refl _) _
        have HSZ : Hid (w.heap.size ≤ w2.heap.size) := (by omega : w.heap.size ≤ w2.heap.size)
        clear hstep hbk hbd hxs hlen hcl hbel hr2 hb2 hA
        go_wp2
        go_roundg (n - (k + 1))
        case measure => rw [HG.out]; omega
        case rel => exact ⟨k + 1, by omega, rfl, by go_num, _, HS.out, HBL.out, by simpa using HSZ.out⟩
    · go_wp2
      go_ret
      obtain rfl : k = n := by omega
      exact ⟨rfl, hrel⟩


set_option maxHeartbeats 400000 in
theorem cloneList_empty (a : Addr) (c : Nat) (w : World) :
    Calls Trym.prog 10 #[.slice (some a) 0 c] w fun e w' => e = .returned (.slice (some ⟨w.heap.size, 0, none⟩) 0 0) ∧ w' = w.alloc (.cells (madeCells #[.slice none 0 0] 0) 35) := by
  have q23 : ∀ (w : World) (a : Option Addr) (n c n' c' : Nat), (binOp .eql 23 (.slice a n c) (.slice none n' c')).run Trym.prog w = .ok (.bool a.isNone) w := fun w a n c n' c' => Lib.run_eql_slice_nil w _ _ a n c n' c' Trym.underlying23
  have hmk := fun w => run_make_row' (P := Trym.prog) 23 35 (.slice none 0 0) 24 Trym.underlying23 Trym.info35 rfl .i64 .i64 0 (by omega) (by omega) w
  simp only [Int.ofNat_eq_natCast, Int.natCast_zero] at hmk
  go_enter Trym.func10, Trym.ntmps10
  go_wp2
  refine wp_loop_rounds 1 ?_; rw [rounds_succ]
  go_wp2
  go_ret
  exact ⟨rfl, rfl⟩

set_option maxHeartbeats 400000 in
theorem cloneList_nil (w : World) :
    Calls Trym.prog 10 #[.slice none 0 0] w fun e w' => e = .returned (.slice none 0 0) ∧ w' = w := by
  have q23 : ∀ (w : World) (a : Option Addr) (n c n' c' : Nat), (binOp .eql 23 (.slice a n c) (.slice none n' c')).run Trym.prog w = .ok (.bool a.isNone) w := fun w a n c n' c' => Lib.run_eql_slice_nil w _ _ a n c n' c' Trym.underlying23
  go_enter Trym.func10, Trym.ntmps10
  go_wp2
  go_ret
  exact ⟨rfl, rfl⟩

/-- THE VALUE v IS A SLICE OF BYTE SLICES, element i the value V i, of the bytes xss[i]. -/
def Cmds (w : World) (v : Value) (V : Nat → Value) (xss : List (List Int)) : Prop :=
  ∃ p c, v = .slice p xss.length c ∧ xss.length ≤ 1048576 ∧ (p = none → c = 0) ∧ (xss ≠ [] → ∃ b o, p = some ⟨b, o, none⟩ ∧ ∀ i, i < xss.length → w.cell? ⟨b, o + i, none⟩ = some (V i)) ∧
    ∀ i, i < xss.length → Bytes w (V i) (xss.getD i [])

def addrOf : Value → Option Addr | .slice p _ _ => p | _ => none
def capOf : Value → Nat | .slice _ _ c => c | _ => 0

theorem Bytes.form {w : World} {v : Value} {xs : List Int} (h : Bytes w v xs) : v = .slice (addrOf v) xs.length (capOf v) := by
  obtain ⟨p, c, rfl, _⟩ := h; rfl

theorem Cloned.cmds {w : World} {B : Nat} {v : Value} {V : Nat → Value} {xss : List (List Int)} (h : Cloned w B v V xss) (hl : xss.length ≤ 1048576) : Cmds w v V xss := by
  rcases h.outer with ⟨rfl, rfl⟩ | ⟨g, rfl, hg, hr⟩
  · exact ⟨none, 0, rfl, by simp, fun _ => rfl, by simp, by simp⟩
  · exact ⟨_, _, rfl, hl, (fun e => by cases e), fun _ => ⟨g, 0, rfl, fun i hi => by rw [Nat.zero_add]; exact hr.cell hi⟩, fun i hi => (h.inner i hi).bytes⟩

/-- cloneList: a copy, in memory of the call's own. -/
theorem cloneList_any {w : World} {v : Value} {V : Nat → Value} {xss : List (List Int)} (h : Cmds w v V xss) :
    Calls Trym.prog 10 #[v] w fun e w' => ∃ v' V', e = .returned v' ∧ Cloned w' w.heap.size v' V' xss ∧ Below w.heap.size w w' := by
  obtain ⟨p, c, rfl, hl, hp, hc, hb⟩ := h
  cases hx : xss with
  | nil =>
    subst hx
    cases p with
    | none =>
      obtain rfl := hp rfl
      exact (cloneList_nil w).mono fun e w' ⟨h1, h2⟩ => by subst h1; subst h2; exact ⟨_, fun _ => .slice none 0 0, rfl, ⟨.inl ⟨rfl, rfl⟩, by simp, by simp⟩, Below.refl _ _⟩
    | some a =>
      exact (cloneList_empty a c w).mono fun e w' ⟨h1, h2⟩ => by
        subst h1; subst h2
        exact ⟨_, fun _ => .slice none 0 0, rfl, ⟨.inr ⟨_, rfl, Nat.le_refl _, World.rowIs_made w _ 0 35⟩, by simp, by simp⟩, (Below.refl _ _).alloc (Nat.le_refl _) _⟩
  | cons y ys =>
    rw [← hx]
    have hne : xss ≠ [] := by rw [hx]; simp
    obtain ⟨b, o, rfl, hcx⟩ := hc hne
    have hf : ∀ i, i < xss.length → V i = .slice (addrOf (V i)) (xss.getD i []).length (capOf (V i)) := fun i hi => (hb i hi).form
    refine (cloneList_some b o xss.length c (fun i => addrOf (V i)) (fun i => capOf (V i)) xss w rfl hl (List.length_pos_iff.2 hne) (fun i hi => by rw [hcx i hi]; exact congrArg some (hf i hi)) (fun i hi => by rw [← hf i hi]; exact hb i hi)).mono fun e w' ⟨h1, V', h2, h3, h4⟩ => ?_
    exact ⟨_, V', h1, ⟨.inr ⟨_, rfl, Nat.le_refl _, h2.row⟩, h2.inner, h2.apart⟩, h3⟩

end Go.Proofs.Qxb6600170aMods
