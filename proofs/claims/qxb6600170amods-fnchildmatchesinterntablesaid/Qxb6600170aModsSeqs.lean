/-
  THE TABLE OF SEQUENCES IN MEMORY, and the contracts of child and last over the plain model.
-/
import Derived.Test.Qxb6600170aModsChild
import Derived.Test.Qxb6600170aModsModel
namespace Go.Proofs.Qxb6600170aMods
set_option linter.unusedVariables false
set_option linter.unusedSimpArgs false
open Go.RowKit

/-- A node's parent, as a value. -/
def pp (M : Tab) (nb : Nat → Nat) (i : Nat) : Value := if i = 0 then .pointer none else .pointer (some ⟨nb (par M i), 0, none⟩)

structure Seqs (w : World) (B sb : Nat) (M : Tab) (nb : Nat → Nat) (cv hv : Nat → Value) (av : Value) : Prop where
  good : Good M
  base : B ≤ w.heap.size
  sbB : B ≤ sb
  top : w.heap[sb]? = some (.cells #[av] 52 (0, 0))
  all : w.ownsRow B 28 1 av (M.length + 1) ((List.range (M.length + 1)).map fun i => .pointer (some ⟨nb i, 0, none⟩))
  node : ∀ i, i ≤ M.length → w.heap[nb i]? = some (.cells #[pp M nb i, cv i, .int .i64 (dep M i), .int .u64 i, hv i] 50 (0, 0))
  nbB : ∀ i, i ≤ M.length → B ≤ nb i
  kid : ∀ i, i ≤ M.length → w.ownsRow B 28 1 (hv i) (kids M i).length ((kids M i).map fun j => .pointer (some ⟨nb j, 0, none⟩))
  cmds : ∀ i, 0 < i → i ≤ M.length → Inner w B (cv i) (cmd M i)
  inj : ∀ i j, i ≤ M.length → j ≤ M.length → nb i = nb j → i = j
  apart : ∀ i j, i ≤ M.length → j ≤ M.length → i ≠ j → (hv i).ownBlock = none ∨ (hv i).ownBlock ≠ (hv j).ownBlock
  apartA : ∀ i, i ≤ M.length → (hv i).ownBlock ≠ av.ownBlock

def Table (w : World) (B sb : Nat) (M : Tab) (nb : Nat → Nat) : Prop := ∃ cv hv av, Seqs w B sb M nb cv hv av

/-- Whatever turns no block of the table's kinds from B on keeps the table. -/
theorem Seqs.keep {w w' : World} {B sb : Nat} {M : Tab} {nb : Nat → Nat} {cv hv : Nat → Value} {av : Value} (h : Seqs w B sb M nb cv hv av) (hs : w.heap.size ≤ w'.heap.size)
    (hk : ∀ (k : Nat) (c : Array Value) (t : TypeId), B ≤ k → w.heap[k]? = some (.cells c t (0, 0)) → (t = 5 ∨ t = 28 ∨ t = 50 ∨ t = 52) → w'.heap[k]? = w.heap[k]?) : Seqs w' B sb M nb cv hv av := by
  have row : ∀ {v n xs}, w.ownsRow B 28 1 v n xs → w'.ownsRow B 28 1 v n xs := by
    intro v n xs ho
    refine ⟨ho.1, ?_⟩
    rcases ho.2 with h0 | ⟨g, cap, cur, hv, hg, hh, r⟩
    · exact .inl h0
    · exact .inr ⟨g, cap, cur, hv, hg, (hk g _ _ hg hh (by simp)).trans hh, r⟩
  exact ⟨h.good, Nat.le_trans h.base hs, h.sbB, (hk sb _ _ h.sbB h.top (by simp)).trans h.top, row h.all, fun i hi => (hk _ _ _ (h.nbB i hi) (h.node i hi) (by simp)).trans (h.node i hi), h.nbB, fun i hi => row (h.kid i hi),
    fun i h1 h2 => (h.cmds i h1 h2).keep fun k hk' => by obtain ⟨hle, c, hc⟩ := (h.cmds i h1 h2).lt k hk'; exact hk k c 5 hle hc (by simp), h.inj, h.apart, h.apartA⟩

theorem Table.keep {w w' : World} {B sb : Nat} {M : Tab} {nb : Nat → Nat} (h : Table w B sb M nb) (hs : w.heap.size ≤ w'.heap.size)
    (hk : ∀ (k : Nat) (c : Array Value) (t : TypeId), B ≤ k → w.heap[k]? = some (.cells c t (0, 0)) → (t = 5 ∨ t = 28 ∨ t = 50 ∨ t = 52) → w'.heap[k]? = w.heap[k]?) : Table w' B sb M nb := by
  obtain ⟨cv, hv, av, h⟩ := h
  exact ⟨cv, hv, av, h.keep hs hk⟩

theorem Table.below {w w' : World} {B sb : Nat} {M : Tab} {nb : Nat → Nat} (h : Table w B sb M nb) (hb : Below w.heap.size w w') : Table w' B sb M nb :=
  h.keep hb.size fun k _ _ _ hk _ => hb.block k (lt_of_block hk)

theorem Table.drewN {w : World} {B sb : Nat} {M : Tab} {nb : Nat → Nat} (h : Table w B sb M nb) (q : Nat) : Table (w.drewN q) B sb M nb := h.keep (Nat.le_refl _) fun _ _ _ _ _ _ => rfl

/-- What a call of child leaves of everything else: blocks of other kinds are as they were. -/
def Frame (w w' : World) : Prop := w.heap.size ≤ w'.heap.size ∧ ∀ (k : Nat) (c : Array Value) (t : TypeId), w.heap[k]? = some (.cells c t (0, 0)) → t ≠ 28 → t ≠ 50 → t ≠ 52 → w'.heap[k]? = w.heap[k]?

theorem Frame.refl (w : World) : Frame w w := ⟨Nat.le_refl _, fun _ _ _ _ _ _ _ => rfl⟩

def ChildPost (w : World) (B sb : Nat) (M : Tab) (nb : Nat → Nat) (i : Nat) (xs : List Int) (e : Ending) (w' : World) : Prop :=
  ∃ nb', e = .returned (.pointer (some ⟨nb' (child M i xs).2, 0, none⟩)) ∧ Table w' B sb (child M i xs).1 nb' ∧ (∀ j, j ≤ M.length → nb' j = nb j) ∧ Below B w w' ∧ Frame w w'

theorem pp_snoc {M : Tab} {nb nb' : Nat → Nat} {e : Nat × List Int} {i : Nat} (g : Good M) (hi : i ≤ M.length) (h : ∀ j, j ≤ M.length → nb' j = nb j) : pp (M ++ [e]) nb' i = pp M nb i := by
  unfold pp
  by_cases h0 : i = 0
  · rw [if_pos h0, if_pos h0]
  · have hp := par_lt g (show 0 < i by omega) hi
    rw [if_neg h0, if_neg h0, par_snoc (by omega) hi, h _ (by omega)]

set_option maxHeartbeats 1000000 in
theorem seqs_push {w w' : World} {B sb : Nat} {M : Tab} {nb : Nat → Nat} {cv hv : Nat → Value} {av : Value} (h : Seqs w B sb M nb cv hv av) {i : Nat} (hi : i ≤ M.length) {xs : List Int} (hf : find M i xs = none)
    {q ga : Nat} {cN kv' av' : Value} (hga : av.ownBlock = some ga)
    (hp : Pushed w w' B sb (nb i) q (kids M i).length (M.length + 1) (dep M i) i (pp M nb i) (cv i) (hv i) ga xs ((kids M i).map fun j => .pointer (some ⟨nb j, 0, none⟩)) ((List.range (M.length + 1)).map fun i => .pointer (some ⟨nb i, 0, none⟩)) cN kv' av') :
    Seqs w' B sb (M ++ [(i, xs)]) (fun j => if j = M.length + 1 then q else nb j) (fun j => if j = M.length + 1 then cN else cv j) (fun j => if j = M.length + 1 then .slice none 0 0 else if j = i then kv' else hv j) av' := by
  have hlen : (M ++ [(i, xs)]).length = M.length + 1 := by simp
  have hnlt : ∀ j, j ≤ M.length → nb j < w.heap.size := fun j hj => lt_of_block (h.node j hj)
  have hag : ∀ j, j ≤ M.length → (if j = M.length + 1 then q else nb j) = nb j := fun j hj => if_neg (by omega)
  have hpt : ∀ l : List Nat, (∀ j ∈ l, j ≤ M.length) → (l.map fun j => Value.pointer (some ⟨if j = M.length + 1 then q else nb j, 0, none⟩)) = l.map fun j => .pointer (some ⟨nb j, 0, none⟩) := fun l hl =>
    List.map_congr_left fun j hj => by rw [hag j (hl j hj)]
  have hkl : ∀ a, ∀ j ∈ kids M a, j ≤ M.length := fun a j hj => (mem_kids.1 hj).2.1
  -- another node's row is none of those that were written
  have hvi_ty : ∀ j, j ≤ M.length → ∀ k, (hv j).ownBlock = some k → ∃ c, w.heap[k]? = some (.cells c 28 (0, 0)) := fun j hj k hk => row_ty (h.kid j hj) hk
  have ne_node : ∀ k c, w.heap[k]? = some (.cells c 28 (0, 0)) → k ≠ nb i ∧ k ≠ sb := by
    intro k c hk
    refine ⟨fun e => ?_, fun e => ?_⟩
    · subst e; rw [h.node i hi] at hk; simp at hk
    · subst e; rw [h.top] at hk; simp at hk
  have keepKid : ∀ j, j ≤ M.length → j ≠ i → w'.ownsRow B 28 1 (hv j) (kids M j).length ((kids M j).map fun j => .pointer (some ⟨nb j, 0, none⟩)) := by
    intro j hj hji
    have ho := h.kid j hj
    refine ⟨ho.1, ?_⟩
    rcases ho.2 with h0 | ⟨g, cap, cur, hvj, hg, hh, r⟩
    · exact .inl h0
    · have hgb : (hv j).ownBlock = some g := by rw [hvj]; rfl
      obtain ⟨n1, n2⟩ := ne_node g _ hh
      refine .inr ⟨g, cap, cur, hvj, hg, (hp.kept g (lt_of_block hh) n1 n2 ?_ ?_).trans hh, r⟩
      · rcases h.apart j i hj hi hji with h1 | h1
        · rw [hgb] at h1; cases h1
        · rw [hgb] at h1; exact Ne.symm h1
      · intro e; subst e
        have := h.apartA j hj
        rw [hgb, hga] at this
        exact this rfl
  refine ⟨h.good.push hi hf, Nat.le_trans h.base hp.below.size, h.sbB, hp.top, ?_, ?_, ?_, ?_, ?_, ?_, ?_, ?_⟩
  · have := hp.all
    rw [hlen, List.range_succ, List.map_append]
    rw [hpt (List.range (M.length + 1)) (fun j hj => by have := List.mem_range.1 hj; omega)]
    simpa using this
  · intro j hj
    rw [hlen] at hj
    by_cases e : j = M.length + 1
    · subst e
      simp only [if_true]
      have := hp.node
      have e1 : pp (M ++ [(i, xs)]) (fun j => if j = M.length + 1 then q else nb j) (M.length + 1) = .pointer (some ⟨nb i, 0, none⟩) := by
        unfold pp
        rw [if_neg (by omega), par_new]
        simp only [hag i hi]
      rw [e1, dep_new]
      exact this
    · have hj' : j ≤ M.length := by omega
      rw [pp_snoc h.good hj' hag, dep_snoc hj']
      simp only [if_neg e]
      by_cases e2 : j = i
      · subst e2
        simp only [if_true]
        exact hp.parent
      · simp only [if_neg e2]
        have hb := h.node j hj'
        refine (hp.kept (nb j) (hnlt j hj') (fun e3 => e2 (h.inj j i hj' hi e3)) (fun e3 => ?_) ?_ ?_).trans hb
        · rw [e3, h.top] at hb; simp at hb
        · exact row_ne (h.kid i hi) hb (by decide)
        · intro e3
          have := row_ne h.all hb (by decide)
          rw [hga, e3] at this
          exact this rfl
  · intro j hj
    rw [hlen] at hj
    by_cases e : j = M.length + 1
    · simp only [if_pos e]; have := hp.new; have := h.base; omega
    · simp only [if_neg e]; exact h.nbB j (by omega)
  · intro j hj
    rw [hlen] at hj
    by_cases e : j = M.length + 1
    · subst e
      simp only [if_true]
      rw [kids_new h.good hi]
      exact World.ownsRow_nil _ _ _ _
    · have hj' : j ≤ M.length := by omega
      simp only [if_neg e]
      by_cases e2 : j = i
      · subst e2
        simp only [if_true]
        rw [kids_snoc, if_pos rfl, List.map_append, hpt _ (hkl j)]
        have := hp.kids
        simpa using this
      · simp only [if_neg e2]
        rw [kids_snoc, if_neg (by simpa using Ne.symm e2), hpt _ (hkl j)]
        exact keepKid j hj' e2
  · intro j h1 h2
    rw [hlen] at h2
    by_cases e : j = M.length + 1
    · subst e
      simp only [if_true]
      rw [cmd_new]
      obtain ⟨a1, a2, a3⟩ := hp.cmd
      refine ⟨a1, a2, ?_⟩
      rcases a3 with a3 | ⟨g, c, b1, b2, b3⟩
      · exact .inl a3
      · exact .inr ⟨g, c, b1, Nat.le_trans h.base b2, b3⟩
    · have hj' : j ≤ M.length := by omega
      simp only [if_neg e]
      rw [cmd_snoc h1 hj']
      refine (h.cmds j h1 hj').keep fun k hk => ?_
      obtain ⟨_, c, hc⟩ := (h.cmds j h1 hj').lt k hk
      refine hp.kept k (lt_of_block hc) (fun e3 => ?_) (fun e3 => ?_) (row_ne (h.kid i hi) hc (by decide)) (fun e3 => ?_)
      · subst e3; rw [h.node i hi] at hc; simp at hc
      · subst e3; rw [h.top] at hc; simp at hc
      · have := row_ne h.all hc (by decide)
        rw [hga, e3] at this
        exact this rfl
  · intro a b ha hb he
    rw [hlen] at ha hb
    have hq := hp.new
    by_cases e1 : a = M.length + 1
    · by_cases e2 : b = M.length + 1
      · omega
      · simp only [if_pos e1, if_neg e2] at he
        have := hnlt b (by omega); omega
    · by_cases e2 : b = M.length + 1
      · simp only [if_neg e1, if_pos e2] at he
        have := hnlt a (by omega); omega
      · simp only [if_neg e1, if_neg e2] at he
        exact h.inj a b (by omega) (by omega) he
  · intro a b ha hb hab
    rw [hlen] at ha hb
    have key : ∀ j, j ≤ M.length → j ≠ i → (hv j).ownBlock = none ∨ (hv j).ownBlock ≠ kv'.ownBlock := by
      intro j hj hji
      cases hb : (hv j).ownBlock with
      | none => exact .inl rfl
      | some g =>
        right
        rcases hp.kidsAt with h1 | ⟨g', h1, h2⟩
        · rw [h1]
          rcases h.apart j i hj hi hji with h3 | h3
          · rw [hb] at h3; cases h3
          · rw [hb] at h3; exact h3
        · rw [h1]
          obtain ⟨c, hc⟩ := hvi_ty j hj g hb
          have := lt_of_block hc
          simp only [ne_eq, Option.some.injEq]
          omega
    by_cases e1 : a = M.length + 1
    · simp only [if_pos e1]; exact .inl rfl
    · by_cases e2 : b = M.length + 1
      · simp only [if_neg e1, if_pos e2]
        generalize (if a = i then kv' else hv a).ownBlock = o
        cases o with
        | none => exact .inl rfl
        | some g => exact .inr (by simp [Value.ownBlock])
      · simp only [if_neg e1, if_neg e2]
        by_cases e3 : a = i
        · by_cases e4 : b = i
          · omega
          · simp only [if_pos e3, if_neg e4]
            rcases key b (by omega) e4 with h1 | h1
            · cases hk : kv'.ownBlock with
              | none => exact .inl rfl
              | some g => right; rw [h1]; simp
            · exact .inr (Ne.symm h1)
        · by_cases e4 : b = i
          · simp only [if_neg e3, if_pos e4]; exact key a (by omega) e3
          · simp only [if_neg e3, if_neg e4]; exact h.apart a b (by omega) (by omega) hab
  · intro j hj
    rw [hlen] at hj
    have hnn : ∃ g, av'.ownBlock = some g := by
      rcases hp.allAt with h1 | ⟨g, h1, _⟩
      · exact ⟨_, h1⟩
      · exact ⟨_, h1⟩
    by_cases e : j = M.length + 1
    · simp only [if_pos e]
      obtain ⟨g, hg⟩ := hnn
      rw [hg]
      simp [Value.ownBlock]
    · simp only [if_neg e]
      by_cases e2 : j = i
      · simp only [if_pos e2]; exact Ne.symm hp.apart
      · simp only [if_neg e2]
        rcases hp.allAt with h1 | ⟨g, h1, h2⟩
        · rw [h1, ← hga]; exact h.apartA j (by omega)
        · rw [h1]
          intro hk
          obtain ⟨c, hc⟩ := hvi_ty j (by omega) g hk
          have := lt_of_block hc
          omega

theorem frame_push {w w' : World} {B sb : Nat} {M : Tab} {nb : Nat → Nat} {cv hv : Nat → Value} {av : Value} (h : Seqs w B sb M nb cv hv av) {i : Nat} (hi : i ≤ M.length) {xs : List Int}
    {q ga : Nat} {cN kv' av' : Value} (hga : av.ownBlock = some ga) {kp ap : List Value} {nk N d : Nat} {idv : Int} {pv cvi : Value}
    (hp : Pushed w w' B sb (nb i) q nk N d idv pv cvi (hv i) ga xs kp ap cN kv' av') : Frame w w' := by
  refine ⟨hp.below.size, fun k c t hk h1 h2 h3 => hp.kept k (lt_of_block hk) (fun e => ?_) (fun e => ?_) (row_ne (h.kid i hi) hk h1) (fun e => ?_)⟩
  · subst e; rw [h.node i hi] at hk; simp at hk; exact h2 hk.2.symm
  · subst e; rw [h.top] at hk; simp at hk; exact h3 hk.2.symm
  · have := row_ne h.all hk h1
    rw [hga, e] at this
    exact this rfl


theorem find_none_all {M : Tab} {i : Nat} {xs : List Int} (h : find M i xs = none) : ∀ k, k < (kids M i).length → cmd M ((kids M i).getD k 0) ≠ xs := by
  intro k hk
  have hm : (kids M i).getD k 0 ∈ kids M i := by simp [List.getD, hk]
  have := List.find?_eq_none.1 h _ hm
  simpa using this

theorem find_first {M : Tab} {i j : Nat} {xs : List Int} (h : find M i xs = some j) : ∃ k, k < (kids M i).length ∧ (kids M i).getD k 0 = j ∧ cmd M j = xs ∧ ∀ k', k' < k → cmd M ((kids M i).getD k' 0) ≠ xs := by
  unfold find at h
  obtain ⟨h1, l1, l2, h2, h3⟩ := List.find?_eq_some_iff_append.1 h
  refine ⟨l1.length, by rw [h2]; simp, by rw [h2]; simp [List.getD], by simpa using h1, fun k' hk' => ?_⟩
  rw [h2]
  have : (l1 ++ j :: l2).getD k' 0 = l1.getD k' 0 := by simp [List.getD, List.getElem?_append_left hk']
  rw [this]
  have hm : l1.getD k' 0 ∈ l1 := by simp [List.getD, hk']
  simpa using h3 _ hm

/-- child, over the plain model. -/
theorem child_any {w : World} {B sb : Nat} {M : Tab} {nb : Nat → Nat} (h : Table w B sb M nb) {i : Nat} (hi : i ≤ M.length) (hM : M.length ≤ 1000000) {v : Value} {xs : List Int} (hv : Bytes w v xs) :
    Calls Trym.prog 25 #[.pointer (some ⟨sb, 0, none⟩), .pointer (some ⟨nb i, 0, none⟩), v] w fun e w' => ChildPost w B sb M nb i xs e w' := by
  obtain ⟨cv, hv', av, S⟩ := h
  have hd := dep_le S.good i hi
  have hkl : (kids M i).length ≤ M.length := by
    unfold kids
    rw [List.length_map]
    have := List.length_filter_le (fun j => (M.getD j (0, [])).1 == i) (List.range M.length)
    simpa using this
  have hks : ∀ k, k < (kids M i).length → 0 < (kids M i).getD k 0 ∧ (kids M i).getD k 0 ≤ M.length := by
    intro k hk
    have hm : (kids M i).getD k 0 ∈ kids M i := by simp [List.getD, hk]
    obtain ⟨a, b, _⟩ := mem_kids.1 hm
    exact ⟨a, b⟩
  have hcmd : ∀ k, k < (kids M i).length → w.cell? ⟨nb ((kids M i).getD k 0), 1, none⟩ = some (cv ((kids M i).getD k 0)) ∧ Bytes w (cv ((kids M i).getD k 0)) (cmd M ((kids M i).getD k 0)) := fun k hk =>
    ⟨(cell5 (S.node _ (hks k hk).2)).2.1, (S.cmds _ (hks k hk).1 (hks k hk).2).bytes⟩
  obtain ⟨p, c, hp, hrow⟩ : ∃ p c, hv' i = .slice p (kids M i).length c ∧ ∀ k, k < (kids M i).length → ∃ g0, p = some ⟨g0, 0, none⟩ ∧ w.cell? ⟨g0, k, none⟩ = some (.pointer (some ⟨nb ((kids M i).getD k 0), 0, none⟩)) := by
    have hk := S.kid i hi
    rcases hk.2 with ⟨h0, h1⟩ | ⟨g, cap, cur, h0, h1, h2, h3⟩
    · exact ⟨none, 0, by rw [h1]; exact h0, fun k hk => by omega⟩
    · refine ⟨_, cap, h0, fun k hk' => ⟨g, rfl, ?_⟩⟩
      have := hk.cells (g := g) (by rw [h0]; rfl) k (.pointer (some ⟨nb ((kids M i).getD k 0), 0, none⟩)) (by simp [hk'])
      rwa [show (⟨g, 0, none⟩ : Addr).add k = ⟨g, k, none⟩ from by unfold Addr.add; split <;> simp_all] at this
  cases hf : find M i xs with
  | some j =>
    obtain ⟨k0, h1, h2, h3, h4⟩ := find_first hf
    obtain ⟨g0, rfl, _⟩ := hrow k0 h1
    have hb4 := (cell5 (S.node i hi)).2.2.2.2.1
    rw [hp] at hb4
    refine (child_found sb (nb i) g0 (kids M i).length c k0 v xs (fun k => nb ((kids M i).getD k 0)) (fun k => cv ((kids M i).getD k 0)) (fun k => cmd M ((kids M i).getD k 0)) w hv (by omega) h1 hb4 (fun k hk => by
      obtain ⟨g, e, hc⟩ := hrow k hk; cases e; exact hc) hcmd h4 (by rw [h2]; exact h3)).mono fun e w' ⟨he, hw⟩ => ?_
    subst hw
    have hc : child M i xs = (M, j) := by unfold child; rw [hf]
    unfold ChildPost
    rw [hc]
    exact ⟨nb, by rw [he, h2], ⟨cv, hv', av, S⟩, fun _ _ => rfl, Below.refl _ _, Frame.refl _⟩
  | none =>
    obtain ⟨ga, ca, hav, _, _⟩ := S.all.form (by omega)
    have hga : av.ownBlock = some ga := by rw [hav]; rfl
    have hb := S.node i hi
    rw [hp] at hb
    have hall := S.all
    have htop := S.top
    rw [hav] at hall htop
    have hkid := S.kid i hi
    rw [hp] at hkid
    have hap := S.apartA i hi
    rw [hga, hp] at hap
    refine (child_new B sb (nb i) (kids M i).length c (M.length + 1) ga ca p (dep M i) i (pp M nb i) (cv i) v xs _ _ (fun k => nb ((kids M i).getD k 0)) (fun k => cv ((kids M i).getD k 0)) (fun k => cmd M ((kids M i).getD k 0)) w hv
      (by omega) (by omega) (by omega) S.base (S.nbB i hi) S.sbB hb htop hkid hall hap hrow hcmd (find_none_all hf)).mono fun e w' ⟨q, cN, kv', av', he, hP⟩ => ?_
    rw [← hp] at hP
    have hc : child M i xs = (M ++ [(i, xs)], M.length + 1) := by unfold child; rw [hf]
    unfold ChildPost
    rw [hc]
    exact ⟨_, by rw [he]; simp, ⟨_, _, _, seqs_push S hi hf hga hP⟩, fun j hj => if_neg (by omega), hP.below, frame_push S hi hga hP⟩

set_option maxHeartbeats 400000 in
theorem zzchild_any {w : World} {B sb : Nat} {M : Tab} {nb : Nat → Nat} (h : Table w B sb M nb) {i : Nat} (hi : i ≤ M.length) (hM : M.length ≤ 1000000) {p : Option Addr} {n c : Nat} {xs : List Int} (hv : Bytes w (.slice p n c) xs) :
    Calls Trym.prog 16 #[.pointer (some ⟨sb, 0, none⟩), .pointer (some ⟨nb i, 0, none⟩), .slice p n c] w fun e w' => ChildPost w B sb M nb i xs e w' := by
  have H := hide (child_any h hi hM hv)
  clear h hi hM hv
  go_enter Trym.func16, Trym.ntmps16
  go_wp2_with (go_at_call 25; refine H.out.mono ?_; intro e w' hpost; obtain ⟨nb', he, hr⟩ := hpost; subst he)
  go_ret
  exact ⟨nb', rfl, hr⟩

end Go.Proofs.Qxb6600170aMods
