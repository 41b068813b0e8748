/-
  What the loop of 'FnChildMatchesInternTable' carries: the table of sequences beside the law's own three slices.
-/
import Derived.Test.Qxb6600170aModsRoads
import Derived.Test.Qxb6600170aModsU16
namespace Go.Proofs.Qxb6600170aMods
set_option linter.unusedVariables false
set_option linter.unusedSimpArgs false
open Go.RowKit

theorem Trym.info3 : (Trym.prog.info? 3).map (fun i => (i.zero, i.size, i.bytes)) = some (some (.int .i64 0), 1, 8) := by kernel_rfl

/-! ### The plain law -/
theorem find_eq {M : Tab} (g : Good M) {i j : Nat} {xs : List Int} (h0 : 0 < j) (hj : j ≤ M.length) (hp : par M j = i) (hc : cmd M j = xs) : find M i xs = some j := by
  cases hf : find M i xs with
  | none => exact absurd hc (find_none hf j h0 hj hp)
  | some j' =>
    obtain ⟨a, b, c, d⟩ := find_some hf
    have := g.once (j' - 1) (j - 1) (by omega) (by omega) (by rw [pair_eq M j' a, pair_eq M j h0, c, d, hp, hc])
    congr 1; omega

theorem find_none_of {M : Tab} {i : Nat} {xs : List Int} (h : ∀ j, 0 < j → j ≤ M.length → ¬ (par M j = i ∧ cmd M j = xs)) : find M i xs = none := by
  cases hf : find M i xs with
  | none => rfl
  | some j =>
    obtain ⟨a, b, c, d⟩ := find_some hf
    exact absurd ⟨c, d⟩ (h j a b)

/-! ### Rows of the call's own -/
theorem owns_of_blocks {w w' : World} {B e : Nat} {v : Value} {n : Nat} {xs : List Value} (h : w.ownsRow B e 1 v n xs) (hk : ∀ k, v.ownBlock = some k → w'.heap[k]? = w.heap[k]?) : w'.ownsRow B e 1 v n xs := by
  refine ⟨h.1, ?_⟩
  rcases h.2 with h0 | ⟨g, cap, cur, hv, hg, hh, r⟩
  · exact .inl h0
  · exact .inr ⟨g, cap, cur, hv, hg, (hk g (by rw [hv]; rfl)).trans hh, r⟩

theorem owns_frame {w w' : World} {B e : Nat} {v : Value} {n : Nat} {xs : List Value} (h : w.ownsRow B e 1 v n xs) (hf : Frame w w') (h1 : e ≠ 28) (h2 : e ≠ 50) (h3 : e ≠ 52) : w'.ownsRow B e 1 v n xs :=
  owns_of_blocks h fun k hk => by
    obtain ⟨c, hc⟩ := row_ty h hk
    exact hf.2 k c e hc h1 h2 h3

theorem owns_below {w w' : World} {B e : Nat} {v : Value} {n : Nat} {xs : List Value} (h : w.ownsRow B e 1 v n xs) (hb : Below w.heap.size w w') : w'.ownsRow B e 1 v n xs :=
  owns_of_blocks h fun k hk => by
    obtain ⟨c, hc⟩ := row_ty h hk
    exact hb.block k (lt_of_block hc)

theorem owns_cells {w : World} {B e : Nat} {v : Value} {n : Nat} {f : Nat → Value} (h : w.ownsRow B e 1 v n ((List.range n).map f)) (hn : 0 < n) :
    ∃ g c, v = .slice (some ⟨g, 0, none⟩) n c ∧ ∀ j, j < n → w.cell? ⟨g, j, none⟩ = some (f j) := by
  obtain ⟨g, c, hv, _, _⟩ := h.form hn
  refine ⟨g, c, hv, fun j hj => ?_⟩
  have := h.cells (g := g) (by rw [hv]; rfl) j (f j) (by simp [hj])
  rwa [add_at, Nat.zero_add] at this

theorem Table.grown {w w' : World} {B sb : Nat} {M : Tab} {nb : Nat → Nat} (h : Table w B sb M nb) {e : Nat} {v : Value} {n : Nat} {xs : List Value} (ho : w.ownsRow B e 1 v n xs) (he : e ≠ 5 ∧ e ≠ 28 ∧ e ≠ 50 ∧ e ≠ 52) (hg : w.grownBy w' v.ownBlock) : Table w' B sb M nb :=
  h.keep hg.size fun k c t hk hc ht => hg.block k (lt_of_block hc) fun e1 => by
    obtain ⟨c', hc'⟩ := row_ty ho e1.symm
    rw [hc] at hc'
    simp only [Option.some.injEq, Obj.cells.injEq] at hc'
    obtain ⟨_, h2, _⟩ := hc'
    subst h2
    rcases ht with h | h | h | h
    · exact he.1 h
    · exact he.2.1 h
    · exact he.2.2.1 h
    · exact he.2.2.2 h

theorem Table.alloc {w : World} {B sb : Nat} {M : Tab} {nb : Nat → Nat} (h : Table w B sb M nb) (o : Obj) : Table (w.alloc o) B sb M nb :=
  h.below ((Below.refl _ _).alloc (Nat.le_refl _) o)

/-! ### The loop's state -/
def ip (M : Tab) (j : Nat) : Int := if j = 0 then -1 else (par M j : Int)

structure Tables (w1 wr : World) (B sb : Nat) (M : Tab) (nb : Nat → Nat) (CV : Nat → Value) (vp vc vl : Value) : Prop where
  table : Table wr B sb M nb
  below : Below B w1 wr
  rp : wr.ownsRow B 3 1 vp (M.length + 1) ((List.range (M.length + 1)).map fun j => .int .i64 (ip M j))
  rc : wr.ownsRow B 35 1 vc (M.length + 1) ((List.range (M.length + 1)).map CV)
  rl : wr.ownsRow B 3 1 vl (M.length + 1) ((List.range (M.length + 1)).map fun j => .int .i64 (dep M j))
  apart : vp.ownBlock ≠ vl.ownBlock
  cv : ∀ j, 0 < j → j ≤ M.length → Bytes w1 (CV j) (cmd M j)

theorem Tables.step {w1 wr w' : World} {B sb : Nat} {M : Tab} {nb : Nat → Nat} {CV : Nat → Value} {vp vc vl : Value} (h : Tables w1 wr B sb M nb CV vp vc vl) (hb : Below wr.heap.size wr w') (hB : B ≤ wr.heap.size) : Tables w1 w' B sb M nb CV vp vc vl :=
  ⟨h.table.below hb, h.below.trans (hb.mono hB), owns_below h.rp hb, owns_below h.rc hb, owns_below h.rl hb, h.apart, h.cv⟩

theorem Tables.drewN {w1 wr : World} {B sb : Nat} {M : Tab} {nb : Nat → Nat} {CV : Nat → Value} {vp vc vl : Value} (h : Tables w1 wr B sb M nb CV vp vc vl) (q : Nat) : Tables w1 (wr.drewN q) B sb M nb CV vp vc vl :=
  ⟨h.table.drewN q, h.below.trans ⟨rfl, rfl, rfl, Nat.le_refl _, fun _ _ => rfl⟩, h.rp, h.rc, h.rl, h.apart, h.cv⟩

/-- The rows beside a table that child has turned. -/
structure Beside (w1 wr : World) (B sb : Nat) (M M' : Tab) (nb : Nat → Nat) (CV : Nat → Value) (vp vc vl : Value) : Prop where
  table : Table wr B sb M' nb
  below : Below B w1 wr
  rp : wr.ownsRow B 3 1 vp (M.length + 1) ((List.range (M.length + 1)).map fun j => .int .i64 (ip M j))
  rc : wr.ownsRow B 35 1 vc (M.length + 1) ((List.range (M.length + 1)).map CV)
  rl : wr.ownsRow B 3 1 vl (M.length + 1) ((List.range (M.length + 1)).map fun j => .int .i64 (dep M j))
  apart : vp.ownBlock ≠ vl.ownBlock
  cv : ∀ j, 0 < j → j ≤ M.length → Bytes w1 (CV j) (cmd M j)

theorem Tables.child {w1 wr w' : World} {B sb : Nat} {M M' : Tab} {nb nb' : Nat → Nat} {CV : Nat → Value} {vp vc vl : Value} (h : Tables w1 wr B sb M nb CV vp vc vl) (ht : Table w' B sb M' nb') (hb : Below B wr w') (hf : Frame wr w') : Beside w1 w' B sb M M' nb' CV vp vc vl :=
  ⟨ht, h.below.trans hb, owns_frame h.rp hf (by decide) (by decide) (by decide), owns_frame h.rc hf (by decide) (by decide) (by decide), owns_frame h.rl hf (by decide) (by decide) (by decide), h.apart, h.cv⟩

theorem Beside.step {w1 wr w' : World} {B sb : Nat} {M M' : Tab} {nb : Nat → Nat} {CV : Nat → Value} {vp vc vl : Value} (h : Beside w1 wr B sb M M' nb CV vp vc vl) (hb : Below wr.heap.size wr w') (hB : B ≤ wr.heap.size) : Beside w1 w' B sb M M' nb CV vp vc vl :=
  ⟨h.table.below hb, h.below.trans (hb.mono hB), owns_below h.rp hb, owns_below h.rc hb, owns_below h.rl hb, h.apart, h.cv⟩

theorem Beside.drewN {w1 wr : World} {B sb : Nat} {M M' : Tab} {nb : Nat → Nat} {CV : Nat → Value} {vp vc vl : Value} (h : Beside w1 wr B sb M M' nb CV vp vc vl) (q : Nat) : Beside w1 (wr.drewN q) B sb M M' nb CV vp vc vl :=
  ⟨h.table.drewN q, h.below.trans ⟨rfl, rfl, rfl, Nat.le_refl _, fun _ _ => rfl⟩, h.rp, h.rc, h.rl, h.apart, h.cv⟩

theorem Beside.same {w1 wr : World} {B sb : Nat} {M : Tab} {nb : Nat → Nat} {CV : Nat → Value} {vp vc vl : Value} (h : Beside w1 wr B sb M M nb CV vp vc vl) : Tables w1 wr B sb M nb CV vp vc vl :=
  ⟨h.table, h.below, h.rp, h.rc, h.rl, h.apart, h.cv⟩

theorem ip_snoc {M : Tab} {e : Nat × List Int} {j : Nat} (h : j ≤ M.length) : ip (M ++ [e]) j = ip M j := by
  unfold ip
  by_cases h0 : j = 0
  · rw [if_pos h0, if_pos h0]
  · rw [if_neg h0, if_neg h0, par_snoc (by omega) h]
theorem ip_new (M : Tab) (e : Nat × List Int) : ip (M ++ [e]) (M.length + 1) = e.1 := by unfold ip; rw [if_neg (by omega), par_new]

/-- THE ROUND THAT FOUND NOTHING: behind its three appends. -/
theorem tables_push {w1 wr w6 w7 w8 : World} {B sb : Nat} {M : Tab} {nb : Nat → Nat} {CV : Nat → Value} {vp vc vl vp' vc' vl' : Value} {P : Nat} {xs : List Int} {c : Value} {o1 o2 o3 : Obj} (hP : P ≤ M.length) (hB : B ≤ wr.heap.size)
    (h : Beside w1 wr B sb M (M ++ [(P, xs)]) nb CV vp vc vl) (hc : Bytes w1 c xs)
    (a1 : w6.ownsRow B 3 1 vp' (M.length + 1 + 1) (((List.range (M.length + 1)).map fun j => .int .i64 (ip M j)) ++ [.int .i64 (P : Int)])) (g1 : (wr.alloc o1).grownBy w6 vp.ownBlock) (l1 : vp'.ownBlock = vp.ownBlock ∨ vp'.ownBlock = some (wr.heap.size + 1))
    (a2 : w7.ownsRow B 35 1 vc' (M.length + 1 + 1) (((List.range (M.length + 1)).map CV) ++ [c])) (g2 : (w6.alloc o2).grownBy w7 vc.ownBlock)
    (a3 : w8.ownsRow B 3 1 vl' (M.length + 1 + 1) (((List.range (M.length + 1)).map fun j => .int .i64 (dep M j)) ++ [.int .i64 ((dep M P : Int) + 1)])) (g3 : (w7.alloc o3).grownBy w8 vl.ownBlock) (l3 : vl'.ownBlock = vl.ownBlock ∨ vl'.ownBlock = some (w7.heap.size + 1)) :
    Tables w1 w8 B sb (M ++ [(P, xs)]) nb (fun j => if j = M.length + 1 then c else CV j) vp' vc' vl' := by
  have hs6 : wr.heap.size + 1 ≤ w6.heap.size := by have := g1.size; simpa using this
  have hs7 : w6.heap.size + 1 ≤ w7.heap.size := by have := g2.size; simpa using this
  have hs8 : w7.heap.size + 1 ≤ w8.heap.size := by have := g3.size; simpa using this
  have hlen : (M ++ [(P, xs)]).length = M.length + 1 := by simp
  have hvp := fun k (hk : vp.ownBlock = some k) => h.rp.lt k hk
  have hvc := fun k (hk : vc.ownBlock = some k) => h.rc.lt k hk
  have hvl := fun k (hk : vl.ownBlock = some k) => h.rl.lt k hk
  -- the rows that are not written
  have c_at6 : w6.ownsRow B 35 1 vc (M.length + 1) ((List.range (M.length + 1)).map CV) := (h.rc.alloc o1).kept g1 (by
    by_cases e : vc.ownBlock = vp.ownBlock
    · cases hb : vc.ownBlock with
      | none => exact .inl rfl
      | some k =>
        obtain ⟨q1, hq1⟩ := row_ty h.rc hb
        obtain ⟨q2, hq2⟩ := row_ty h.rp (by rw [← e]; exact hb)
        rw [hq1] at hq2
        simp at hq2
    · exact .inr e)
  have l_at6 : w6.ownsRow B 3 1 vl (M.length + 1) ((List.range (M.length + 1)).map fun j => .int .i64 (dep M j)) := (h.rl.alloc o1).kept g1 (.inr (Ne.symm h.apart))
  have l_at7 : w7.ownsRow B 3 1 vl (M.length + 1) ((List.range (M.length + 1)).map fun j => .int .i64 (dep M j)) := (l_at6.alloc o2).kept g2 (by
    by_cases e : vl.ownBlock = vc.ownBlock
    · cases hb : vl.ownBlock with
      | none => exact .inl rfl
      | some k =>
        obtain ⟨q1, hq1⟩ := row_ty l_at6 hb
        obtain ⟨q2, hq2⟩ := row_ty c_at6 (by rw [← e]; exact hb)
        rw [hq1] at hq2
        simp at hq2
    · exact .inr e)
  have p_at7 : w7.ownsRow B 3 1 vp' (M.length + 1 + 1) (((List.range (M.length + 1)).map fun j => .int .i64 (ip M j)) ++ [.int .i64 (P : Int)]) := (a1.alloc o2).kept g2 (by
    by_cases e : vp'.ownBlock = vc.ownBlock
    · cases hb : vp'.ownBlock with
      | none => exact .inl rfl
      | some k =>
        obtain ⟨q1, hq1⟩ := row_ty a1 hb
        obtain ⟨q2, hq2⟩ := row_ty c_at6 (by rw [← e]; exact hb)
        rw [hq1] at hq2
        simp at hq2
    · exact .inr e)
  have hpl : vp'.ownBlock ≠ vl.ownBlock := by
    rcases l1 with e | e
    · rw [e]; exact h.apart
    · rw [e]; intro e2
      have := hvl _ e2.symm
      omega
  have p_at8 := (p_at7.alloc o3).kept g3 (.inr hpl)
  have c_at8 : w8.ownsRow B 35 1 vc' (M.length + 1 + 1) (((List.range (M.length + 1)).map CV) ++ [c]) := (a2.alloc o3).kept g3 (by
    by_cases e : vc'.ownBlock = vl.ownBlock
    · cases hb : vc'.ownBlock with
      | none => exact .inl rfl
      | some k =>
        obtain ⟨q1, hq1⟩ := row_ty a2 hb
        obtain ⟨q2, hq2⟩ := row_ty l_at7 (by rw [← e]; exact hb)
        rw [hq1] at hq2
        simp at hq2
    · exact .inr e)
  have t6 := (h.table.alloc o1).grown (h.rp.alloc o1) (by decide) g1
  have t7 := (t6.alloc o2).grown (c_at6.alloc o2) (by decide) g2
  have t8 := (t7.alloc o3).grown (l_at7.alloc o3) (by decide) g3
  have b6 : Below B w1 w6 := (h.below.alloc (by omega) o1).grown g1 (by simp; omega) (fun k hk => (hvp k hk).1)
  have b7 : Below B w1 w7 := (b6.alloc (by omega) o2).grown g2 (by simp; omega) (fun k hk => (hvc k hk).1)
  have b8 : Below B w1 w8 := (b7.alloc (by omega) o3).grown g3 (by simp; omega) (fun k hk => (hvl k hk).1)
  refine ⟨t8, b8, ?_, ?_, ?_, ?_, fun j h1 h2 => ?_⟩
  · rw [hlen, List.range_succ, List.map_append]
    have e1 : ((List.range (M.length + 1)).map fun j => Value.int .i64 (ip (M ++ [(P, xs)]) j)) = (List.range (M.length + 1)).map fun j => .int .i64 (ip M j) := List.map_congr_left fun j hj => by
      rw [ip_snoc (by have := List.mem_range.1 hj; omega)]
    rw [e1]
    simp only [List.map_cons, List.map_nil, ip_new]
    exact p_at8
  · rw [hlen, List.range_succ, List.map_append]
    have e1 : ((List.range (M.length + 1)).map fun j => if j = M.length + 1 then c else CV j) = (List.range (M.length + 1)).map CV := List.map_congr_left fun j hj => by
      rw [if_neg (by have := List.mem_range.1 hj; omega)]
    rw [e1]
    simp only [List.map_cons, List.map_nil, if_true]
    exact c_at8
  · rw [hlen, List.range_succ, List.map_append]
    have e1 : ((List.range (M.length + 1)).map fun j => Value.int .i64 (dep (M ++ [(P, xs)]) j)) = (List.range (M.length + 1)).map fun j => .int .i64 (dep M j) := List.map_congr_left fun j hj => by
      rw [dep_snoc (by have := List.mem_range.1 hj; omega)]
    rw [e1]
    simp only [List.map_cons, List.map_nil, dep_new]
    simpa using a3
  · rcases l3 with e | e
    · rw [e]; exact hpl
    · rw [e]; intro e2
      have := p_at7.lt _ e2
      omega
  · rw [hlen] at h2
    by_cases e : j = M.length + 1
    · subst e; simp only [if_true]; rw [cmd_new]; exact hc
    · simp only [if_neg e]; rw [cmd_snoc h1 (by omega)]; exact h.cv j h1 (by omega)


/-- A row of another element type is kept by an append. -/
theorem owns_other {w w' : World} {B e e' : Nat} {v u : Value} {n n' : Nat} {xs ys : List Value} {o : Obj} (h : w.ownsRow B e 1 v n xs) (hu : w.ownsRow B e' 1 u n' ys) (g : (w.alloc o).grownBy w' u.ownBlock) (hne : e ≠ e') : w'.ownsRow B e 1 v n xs :=
  (h.alloc o).kept g (by
    by_cases e1 : v.ownBlock = u.ownBlock
    · cases hb : v.ownBlock with
      | none => exact .inl rfl
      | some k =>
        obtain ⟨q1, hq1⟩ := row_ty h hb
        obtain ⟨q2, hq2⟩ := row_ty hu (by rw [← e1]; exact hb)
        rw [hq1] at hq2
        simp only [Option.some.injEq, Obj.cells.injEq] at hq2
        exact absurd hq2.2.1 hne
    · exact .inr e1)


theorem owns_cell_at {w : World} {B e g n c : Nat} {f : Nat → Value} (h : w.ownsRow B e 1 (.slice (some ⟨g, 0, none⟩) n c) n ((List.range n).map f)) {j : Nat} (hj : j < n) : w.cell? ⟨g, j, none⟩ = some (f j) := by
  obtain ⟨g', c', e1, h'⟩ := owns_cells h (by omega)
  simp only [Value.slice.injEq, Option.some.injEq, Addr.mk.injEq] at e1
  obtain rfl := e1.1.1
  exact h' j hj

end Go.Proofs.Qxb6600170aMods
