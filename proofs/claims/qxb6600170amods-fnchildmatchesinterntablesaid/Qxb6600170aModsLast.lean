/-
  THE WALK OF '(*sequence).last'; how a run begins (the root alone).
-/
import Derived.Test.Qxb6600170aModsSeqs
namespace Go.Proofs.Qxb6600170aMods
set_option linter.unusedVariables false
set_option linter.unusedSimpArgs false
open Go.RowKit

/-- The k-th element, from the front, of the last m commands of node i. -/
def lastAt (M : Tab) (i m k : Nat) : List Int := cmd M (up M i (m - 1 - k))

/-- WHAT last HANDS BACK: a new slice of m slices of bytes. -/
def LastPost (w : World) (M : Tab) (i m : Nat) (e : Ending) (w' : World) : Prop :=
  e = .returned (.slice (some ⟨w.heap.size, 0, none⟩) m m) ∧ Below w.heap.size w w' ∧ ∃ V, w'.rowIs w.heap.size 35 m V ∧ ∀ k, k < m → Bytes w' (V k) (lastAt M i m k)

/-- last's own loop: r are still to come. -/
def LastRel (w : World) (cv : Nat → Value) (M : Tab) (i m r : Nat) (wr : World) : Prop :=
  Below w.heap.size w wr ∧ w.heap.size < wr.heap.size ∧ ∃ V, wr.rowIs w.heap.size 35 m V ∧ ∀ k, r ≤ k → k < m → V k = cv (up M i (m - 1 - k))

theorem lastRel_step {w wr : World} {cv : Nat → Value} {M : Tab} {i m r : Nat} (h : LastRel w cv M i m (r + 1) wr) (hr : r < m) : LastRel w cv M i m r (wr.setCell ⟨w.heap.size, r, none⟩ (cv (up M i (m - 1 - r)))) := by
  obtain ⟨h1, h2, V, h3, h4⟩ := h
  refine ⟨h1.setCell (Nat.le_refl _) _, by simpa using h2, _, h3.set r _, fun k hk hkm => ?_⟩
  by_cases e : k = r
  · subst e; rw [if_pos rfl]
  · rw [if_neg e]; exact h4 k (by omega) hkm

theorem pp_pos {M : Tab} {nb : Nat → Nat} {i : Nat} (h : 0 < i) : pp M nb i = .pointer (some ⟨nb (par M i), 0, none⟩) := if_neg (by omega)

set_option maxHeartbeats 2000000 in
theorem last_core {w : World} {B sb : Nat} {M : Tab} {nb : Nat → Nat} {cv hv : Nat → Value} {av : Value} (S : Seqs w B sb M nb cv hv av) {i : Nat} (hi : i ≤ M.length) (n m D : Nat) (hn : n ≤ 9223372036854775807)
    (hD : dep M i = D) (hm1 : m ≤ 1000000) (hmd : m ≤ D) (hc : (m = D ∧ D < n) ∨ (m = n ∧ ¬ D < n)) :
    Calls Trym.prog 26 #[.pointer (some ⟨nb i, 0, none⟩), .int .i64 n] w fun e w' => LastPost w M i m e w' := by
  have hlen : w.cell? ⟨nb i, 2, none⟩ = some (.int .i64 D) := by rw [← hD]; exact (cell5 (S.node i hi)).2.2.1
  have hmk := fun w => run_make_row' (P := Trym.prog) 23 35 (.slice none 0 0) 24 Trym.underlying23 Trym.info35 rfl .i64 .i64 m (by omega) (by omega) w
  have HS := hide S
  have HD := hide hD
  clear S hD
  rcases hc with ⟨e, hc⟩ | ⟨e, hc⟩
  all_goals
    obtain rfl := e
    go_enter Trym.func26, Trym.ntmps26
    go_wp2_with (go_at_call 27; refine (length_at _ _ _ hlen).mono ?_; rintro e w' ⟨rfl, hw⟩; rw [hw]; clear hw)
    go_loopg [6, 7] (m + 1) (fun gk a t wr => ∃ r : Nat, r ≤ m ∧ gk = r + 1 ∧ t = .int .i64 ((r : Int) - 1) ∧ a = .pointer (some ⟨nb (up M i (m - r)), 0, none⟩) ∧ LastRel w cv M i m r wr)
    case atStart =>
      refine ⟨m, Nat.le_refl _, rfl, rfl, by rw [Nat.sub_self]; rfl, (Below.refl _ _).alloc (Nat.le_refl _) _, by simp, _, World.rowIs_made w _ m 35, fun k h1 h2 => absurd h2 (by omega)⟩
    case round =>
      obtain ⟨r, hr, hgk, rfl, rfl, hrel⟩ := hrel
      have HG := hide hgk
      clear hgk
      cases r with
      | zero =>
        have HR := hide hrel
        clear hrel
        have hneg : ((0 : Nat) : Int) - 1 < 0 := by decide
        go_wp2
        go_ret
        obtain ⟨h1, _, V, h3, h4⟩ := HR.out
        refine ⟨rfl, h1, V, h3, fun k hk => ?_⟩
        rw [h4 k (Nat.zero_le _) hk]
        have S := HS.out
        obtain ⟨u1, u2⟩ := up_dep S.good hi (m - 1 - k) (by have := HD.out; omega)
        exact (S.cmds _ (pos_of_dep (M := M) (by have := HD.out; omega)) u1).bytes.below h1 (Nat.le_refl _)
      | succ r =>
        have S := HS.out
        obtain ⟨u1, u2⟩ := up_dep S.good hi (m - (r + 1)) (by have := HD.out; omega)
        have hpos : 0 < up M i (m - (r + 1)) := pos_of_dep (M := M) (by have := HD.out; omega)
        have hnode := S.node _ u1
        have hlt := lt_of_block hnode
        have hbel := hrel.1
        have hnode' := (hbel.block _ hlt).trans hnode
        obtain ⟨q0, q1, _, _, _, _⟩ := cell5 hnode'
        rw [pp_pos hpos] at q0
        have HR := hide hrel
        obtain ⟨_, hsz, V, hrow, _⟩ := hrel
        have g1 : wr.cell? ⟨w.heap.size, r, none⟩ = some (V r) := hrow.cell (by omega)
        have g2 : wr.frozen? ⟨w.heap.size, r, none⟩ = false := hrow.frozen r
        have hcv := (S.cmds _ hpos u1).bytes.form
        have hnext : up M i (m - r) = par M (up M i (m - (r + 1))) := by
          rw [show m - r = (m - (r + 1)) + 1 by omega]; rfl
        have HJ : Hid (up M i (m - 1 - r) = up M i (m - (r + 1))) := by show _ = _; rw [show m - 1 - r = m - (r + 1) by omega]
        have hne : nb (up M i (m - (r + 1))) ≠ w.heap.size := by omega
        generalize up M i (m - (r + 1)) = j at *
        obtain ⟨cj, hcj⟩ : ∃ cj, cv j = cj := ⟨_, rfl⟩
        rw [hcj] at q1 hcv
        generalize addrOf cj = pa at hcv
        generalize (cmd M j).length = la at hcv
        generalize capOf cj = ca at hcv
        subst hcv
        have HCJ := hide hcj
        have HX := hide hnext
        have hne' : ¬ w.heap.size = nb j := fun e => hne e.symm
        have e1 : ((r + 1 : Nat) : Int) - 1 = (r : Int) := by omega
        rw [e1]
        clear hcj hnext hrow hsz hnode hnode' hbel S u2 e1
        go_wp2
        go_roundg (r + 1)
        case measure => rw [HG.out]; omega
        case rel =>
          refine ⟨r, by omega, rfl, rfl, by rw [HX.out], ?_⟩
          have := lastRel_step HR.out (by omega)
          rw [HJ.out, HCJ.out] at this
          exact this


/-- last, of a node of the table. -/
theorem last_any {w : World} {B sb : Nat} {M : Tab} {nb : Nat → Nat} (h : Table w B sb M nb) {i : Nat} (hi : i ≤ M.length) (hM : M.length ≤ 1000000) (n : Nat) (hn : n ≤ 9223372036854775807) :
    Calls Trym.prog 26 #[.pointer (some ⟨nb i, 0, none⟩), .int .i64 n] w fun e w' => LastPost w M i (min n (dep M i)) e w' := by
  obtain ⟨cv, hv, av, S⟩ := h
  have hdl := dep_le S.good i hi
  exact last_core S hi n _ _ hn rfl (by omega) (by omega) (by omega)

set_option maxHeartbeats 400000 in
theorem zzlast_any {w : World} {B sb : Nat} {M : Tab} {nb : Nat → Nat} (h : Table w B sb M nb) {i : Nat} (hi : i ≤ M.length) (hM : M.length ≤ 1000000) (n : Nat) (hn : n ≤ 9223372036854775807) :
    Calls Trym.prog 17 #[.pointer (some ⟨nb i, 0, none⟩), .int .i64 n] w fun e w' => LastPost w M i (min n (dep M i)) e w' := by
  have H := hide (last_any h hi hM n hn)
  clear h hi hM hn
  go_enter Trym.func17, Trym.ntmps17
  go_wp2_with (go_at_call 26; refine H.out.mono ?_; intro e w' hpost; obtain ⟨he, hr⟩ := hpost; subst he)
  go_ret
  exact ⟨rfl, hr⟩

set_option maxHeartbeats 400000 in
/-- last of nil: nothing. -/
theorem zzlast_nil (w : World) (n : Nat) :
    Calls Trym.prog 17 #[.pointer none, .int .i64 n] w fun e w' => e = .returned (.slice (some ⟨w.heap.size, 0, none⟩) 0 0) ∧ w' = w.alloc (.cells (madeCells #[.slice none 0 0] 0) 35) := by
  have hmk := fun w => run_make_row' (P := Trym.prog) 23 35 (.slice none 0 0) 24 Trym.underlying23 Trym.info35 rfl .i64 .i64 0 (by omega) (by omega) w
  simp only [Int.ofNat_eq_natCast, Int.natCast_zero] at hmk
  have hc : (0 : Int) < n ∨ (n : Int) = 0 := by omega
  rcases hc with hc | hc
  · go_enter Trym.func17, Trym.ntmps17
    go_wp2
    refine wp_loop_rounds 1 ?_; rw [rounds_succ]
    go_wp2
    go_ret
    exact ⟨rfl, rfl⟩
  · obtain rfl : n = 0 := by omega
    go_enter Trym.func17, Trym.ntmps17
    go_wp2
    refine wp_loop_rounds 1 ?_; rw [rounds_succ]
    go_wp2
    go_ret
    exact ⟨rfl, rfl⟩

/-- How a run begins: the root, and the table that holds it alone. -/
theorem table_start (w : World) : Table (((w.alloc (.cells #[.pointer none, .slice none 0 0, .int .i64 0, .int .u64 0, .slice none 0 0] 50)).alloc (.cells #[.pointer (some ⟨w.heap.size, 0, none⟩)] 28)).alloc (.cells #[.slice (some ⟨w.heap.size + 1, 0, none⟩) 1 1] 52))
    w.heap.size (w.heap.size + 2) [] (fun _ => w.heap.size) := by
  have h0 := keepAlloc (keepAlloc (heap_alloc_new w (.cells #[.pointer none, .slice none 0 0, .int .i64 0, .int .u64 0, .slice none 0 0] 50)) (.cells #[.pointer (some ⟨w.heap.size, 0, none⟩)] 28)) (.cells #[.slice (some ⟨w.heap.size + 1, 0, none⟩) 1 1] 52)
  have h1 := keepAlloc (heap_alloc_new (w.alloc (.cells #[.pointer none, .slice none 0 0, .int .i64 0, .int .u64 0, .slice none 0 0] 50)) (.cells #[.pointer (some ⟨w.heap.size, 0, none⟩)] 28)) (.cells #[.slice (some ⟨w.heap.size + 1, 0, none⟩) 1 1] 52)
  have h2 := heap_alloc_new ((w.alloc (.cells #[.pointer none, .slice none 0 0, .int .i64 0, .int .u64 0, .slice none 0 0] 50)).alloc (.cells #[.pointer (some ⟨w.heap.size, 0, none⟩)] 28)) (.cells #[.slice (some ⟨w.heap.size + 1, 0, none⟩) 1 1] 52)
  simp only [World.size_alloc] at h1 h2
  refine ⟨fun _ => .slice none 0 0, fun _ => .slice none 0 0, .slice (some ⟨w.heap.size + 1, 0, none⟩) 1 1, good_nil, by simp; omega, by omega, h2, ?_, ?_, ?_, ?_, ?_, ?_, ?_, ?_⟩
  · exact ⟨rfl, .inr ⟨w.heap.size + 1, 1, _, rfl, by omega, h1, Nat.le_refl _, by unfold maxLen; omega, rfl, rfl⟩⟩
  · intro i hi
    obtain rfl : i = 0 := by simpa using hi
    exact h0
  · intro i _; exact Nat.le_refl _
  · intro i _; exact World.ownsRow_nil _ _ _ _
  · intro i h1 h2; simp at h2; omega
  · intro i j h1 h2 _; simp at h1 h2; omega
  · intro i j _ _ _; exact .inl rfl
  · intro i _; simp [Value.ownBlock]

/-- The table's getters. -/
theorem Table.len {w : World} {B sb : Nat} {M : Tab} {nb : Nat → Nat} (h : Table w B sb M nb) {i : Nat} (hi : i ≤ M.length) :
    Calls Trym.prog 20 #[.pointer (some ⟨nb i, 0, none⟩)] w fun e w' => e = .returned (.int .i64 (dep M i)) ∧ w' = w := by
  obtain ⟨cv, hv, av, S⟩ := h
  exact zzlength_at _ _ _ (cell5 (S.node i hi)).2.2.1
theorem Table.parent {w : World} {B sb : Nat} {M : Tab} {nb : Nat → Nat} (h : Table w B sb M nb) {i : Nat} (h0 : 0 < i) (hi : i ≤ M.length) :
    Calls Trym.prog 19 #[.pointer (some ⟨nb i, 0, none⟩)] w fun e w' => e = .returned (.pointer (some ⟨nb (par M i), 0, none⟩)) ∧ w' = w := by
  obtain ⟨cv, hv, av, S⟩ := h
  have := (cell5 (S.node i hi)).1
  rw [pp_pos h0] at this
  exact zzparent_at _ _ _ this
theorem Table.id {w : World} {B sb : Nat} {M : Tab} {nb : Nat → Nat} (h : Table w B sb M nb) {i : Nat} (hi : i ≤ M.length) :
    Calls Trym.prog 18 #[.pointer (some ⟨nb i, 0, none⟩)] w fun e w' => e = .returned (.int .u64 i) ∧ w' = w := by
  obtain ⟨cv, hv, av, S⟩ := h
  exact zzid_at _ _ _ (cell5 (S.node i hi)).2.2.2.1
theorem Table.count {w : World} {B sb : Nat} {M : Tab} {nb : Nat → Nat} (h : Table w B sb M nb) :
    Calls Trym.prog 13 #[.pointer (some ⟨sb, 0, none⟩)] w fun e w' => e = .returned (.int .i64 ((M.length : Int) + 1)) ∧ w' = w := by
  obtain ⟨cv, hv, av, S⟩ := h
  obtain ⟨ga, ca, hav, _, _⟩ := S.all.form (by omega)
  have := cell_of_one S.top
  rw [hav] at this
  exact (zzcount_at _ _ _ _ _ this).mono fun e w' ⟨h1, h2⟩ => ⟨by rw [h1]; simp, h2⟩
theorem Table.at {w : World} {B sb : Nat} {M : Tab} {nb : Nat → Nat} (h : Table w B sb M nb) {i : Nat} (hi : i ≤ M.length) :
    Calls Trym.prog 15 #[.pointer (some ⟨sb, 0, none⟩), .int .i64 i] w fun e w' => e = .returned (.pointer (some ⟨nb i, 0, none⟩)) ∧ w' = w := by
  obtain ⟨cv, hv, av, S⟩ := h
  obtain ⟨ga, ca, hav, _, _⟩ := S.all.form (by omega)
  have ht := cell_of_one S.top
  rw [hav] at ht
  have hc := S.all.cells (g := ga) (by rw [hav]; rfl) i (.pointer (some ⟨nb i, 0, none⟩)) (by simp [show i < M.length + 1 by omega])
  rw [show (⟨ga, 0, none⟩ : Addr).add i = ⟨ga, i, none⟩ from by unfold Addr.add; split <;> simp_all] at hc
  exact zzat_at sb ga (M.length + 1) ca i _ w (by omega) ht hc
/-- Pointers to nodes are the same just if the nodes are. -/
theorem Table.ptr {w : World} {B sb : Nat} {M : Tab} {nb : Nat → Nat} (h : Table w B sb M nb) {i j : Nat} (hi : i ≤ M.length) (hj : j ≤ M.length) : nb i = nb j ↔ i = j := by
  obtain ⟨cv, hv, av, S⟩ := h
  exact ⟨S.inj i j hi hj, fun e => by rw [e]⟩
theorem Table.good {w : World} {B sb : Nat} {M : Tab} {nb : Nat → Nat} (h : Table w B sb M nb) : Good M := by
  obtain ⟨cv, hv, av, S⟩ := h
  exact S.good

end Go.Proofs.Qxb6600170aMods
