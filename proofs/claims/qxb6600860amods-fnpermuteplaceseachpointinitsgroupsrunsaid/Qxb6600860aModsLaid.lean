/-
  WHAT LIES WHERE BEHIND THE CLONES AND BEHIND EACH ZZPermute.
-/
import Derived.Test.Qxb6600860aModsZZPerm
namespace Go.Proofs.Qxb6600860aMods
set_option linter.unusedVariables false
set_option linter.unusedSimpArgs false
open Go.RowKit

theorem Row.own_ne {w : World} {b : Nat} {k : IntKind} {p : Option Addr} {n : Nat} {f : Nat → Int} (h : Row w b 27 k p n f) {j : Nat} (hj : j ≠ b) (n' c' : Nat) : (Value.slice p n' c').ownBlock ≠ some j := by
  rcases h with ⟨rfl, _⟩ | ⟨rfl, _⟩
  · intro e; cases e
  · intro e
    simp only [Value.ownBlock, Option.some.injEq] at e
    exact hj e.symm

theorem Row.owns {w : World} {b base : Nat} {p : Option Addr} {n : Nat} {f : Nat → Int} (h : Row w b 27 .u32 p n f) (hb : base ≤ b) (hn : n ≤ 1048576) : ∃ ys, w.ownsRow base 27 1 (.slice p n n) n ys := by
  rcases h with ⟨rfl, rfl⟩ | ⟨rfl, h⟩
  · exact ⟨[], World.ownsRow_nil w base 27 1⟩
  · exact ⟨_, row_owns h hb (Nat.le_refl _) (by unfold maxLen; omega) (fun i hi => rfl)⟩

theorem Row.lt {w : World} {b : Nat} {ty : TypeId} {k : IntKind} {p : Option Addr} {n : Nat} {f : Nat → Int} (h : Row w b ty k p n f) (hp : p ≠ none) : b < w.heap.size := by
  rcases h with ⟨h1, _⟩ | ⟨_, h2⟩
  · exact absurd h1 hp
  · exact h2.lt

theorem Row.below {w w' : World} {b B : Nat} {ty : TypeId} {k : IntKind} {p : Option Addr} {n : Nat} {f : Nat → Int} (h : Row w b ty k p n f) (hb : Below B w w') (hB : w.heap.size ≤ B) : Row w' b ty k p n f :=
  h.keep fun _ hlt => hb.block _ (Nat.lt_of_lt_of_le hlt hB)

theorem Row.congr {w : World} {b : Nat} {ty : TypeId} {k : IntKind} {p : Option Addr} {n : Nat} {f g : Nat → Int} (h : Row w b ty k p n f) (e : ∀ i, f i = g i) : Row w b ty k p n g := by
  rw [← funext e]; exact h

theorem owns_keep {w w' : World} {base : Nat} {e : TypeId} {v : Value} {n : Nat} {xs : List Value} (h : w.ownsRow base e 1 v n xs) (hb : ∀ g, v.ownBlock = some g → g < w.heap.size → w'.heap[g]? = w.heap[g]?) : w'.ownsRow base e 1 v n xs := by
  refine ⟨h.1, ?_⟩
  rcases h.2 with h | ⟨g, cap, cur, rfl, h2, h3, h4⟩
  · exact .inl h
  · exact .inr ⟨g, cap, cur, rfl, h2, (hb g rfl (Array.getElem?_eq_some_iff.1 h3).1).trans h3, h4⟩

theorem owns_lt {w : World} {base : Nat} {e : TypeId} {v : Value} {n : Nat} {xs : List Value} (h : w.ownsRow base e 1 v n xs) {g : Nat} (hg : v.ownBlock = some g) : base ≤ g ∧ g < w.heap.size := by
  rcases h.2 with ⟨rfl, _⟩ | ⟨g', cap, cur, rfl, h2, h3, h4⟩
  · cases hg
  · simp only [Value.ownBlock, Option.some.injEq] at hg
    subst hg
    exact ⟨h2, (Array.getElem?_eq_some_iff.1 h3).1⟩

theorem owns_ints {w : World} {base : Nat} {p : Option Addr} {n cap : Nat} {f : Nat → Int} (h : w.ownsRow base 27 1 (.slice p n cap) n ((List.range n).map fun i => .int .u32 (f i))) (hn : n ≤ 1048576) (hw : ∀ i, (Lit.int .u32 (f i)).wf = true) : IntsF w .u32 p n f := by
  refine ⟨by omega, hw, fun h0 => ?_⟩
  obtain ⟨g, cap', hv, _, _⟩ := h.form h0
  simp only [Value.slice.injEq, true_and] at hv
  obtain ⟨rfl, rfl⟩ := hv
  obtain ⟨_, hc, _, f', hr, hf⟩ := owns_row h
  refine ⟨g, 0, rfl, fun i hi => ?_⟩
  rw [Nat.zero_add, hr.cell (by omega)]
  have := hf i hi
  simp [hi] at this
  rw [← this]

/-- THE FOUR SLICES OF OUR OWN. -/
structure Laid (w wr : World) (a0 a1 a2 : Nat) (q0 q1 : Option Addr) (n0 n1 G : Nat) (P T : Nat → Int) (R : Nat → Nat) (v : Value) : Prop where
  pos : Row wr a0 35 .u64 q0 n0 P
  tags : Row wr a1 27 .u32 q1 n1 T
  runs : wr.rowIs a2 27 (G + 1) (fun i => .int .u32 (R i))
  below : Below w.heap.size w wr
  l0 : w.heap.size ≤ a0
  l1 : w.heap.size ≤ a1
  l2 : w.heap.size ≤ a2
  d1 : q1 ≠ none → a1 ≠ a2
  d2 : v.ownBlock ≠ some a2
  d3 : q1 ≠ none → v.ownBlock ≠ some a1

theorem Laid.keep {w wr w' : World} {a0 a1 a2 : Nat} {q0 q1 : Option Addr} {n0 n1 G : Nat} {P T : Nat → Int} {R : Nat → Nat} {v : Value} (h : Laid w wr a0 a1 a2 q0 q1 n0 n1 G P T R v) (hb : Below wr.heap.size wr w') : Laid w w' a0 a1 a2 q0 q1 n0 n1 G P T R v :=
  ⟨h.pos.below hb (Nat.le_refl _), h.tags.below hb (Nat.le_refl _), h.runs.of_block (hb.block _ h.runs.lt), h.below.trans (hb.mono h.below.size), h.l0, h.l1, h.l2, h.d1, h.d2, h.d3⟩

/-- Behind ZZPermute: a block that is none of the three is as it was. -/
theorem Laid.after {w wr w' : World} {a0 a1 a2 base : Nat} {q0 q1 : Option Addr} {n0 n1 G nv : Nat} {P T : Nat → Int} {R : Nat → Nat} {K : Int → Int} {v : Value} {e : Ending} {ys : List Value} (h : Laid w wr a0 a1 a2 q0 q1 n0 n1 G P T R v) (hown : wr.ownsRow w.heap.size 27 1 v nv ys) (hp : PermPost wr w.heap.size a0 a1 n0 n1 G q0 q1 K P T R v e w') :
    ∃ p cap P' T' N', e = .returned (.slice p G cap) ∧ w'.ownsRow w.heap.size 27 1 (.slice p G cap) G ((List.range G).map fun h => .int .u32 ((R (h + 1) : Nat) : Int)) ∧
      Laid w w' a0 a1 a2 q0 q1 n0 n1 G P' T' R (.slice p G cap) ∧ Flag K G R P T P' T' N' ∧ (∀ h, h < G → N' h = R (h + 1)) ∧ wr.heap.size ≤ w'.heap.size ∧
      ∀ k, k < wr.heap.size → (q0 ≠ none → k ≠ a0) → (q1 ≠ none → k ≠ a1) → v.ownBlock ≠ some k → w'.heap[k]? = wr.heap[k]? := by
  obtain ⟨p, cap, P', T', N', he, h1, h2, h3, h4, h5, h6, h7⟩ := hp
  have hblk : ∀ k, k < wr.heap.size → (q0 ≠ none → k ≠ a0) → (q1 ≠ none → k ≠ a1) → v.ownBlock ≠ some k → w'.heap[k]? = wr.heap[k]? := fun k hk e0 e1 e2 => h6.block k hk fun ha => by
    rcases ha with ⟨a, b⟩ | ⟨a, b⟩ | a
    · exact e0 a b
    · exact e1 a b
    · exact e2 a
  have hr0 : q0 ≠ none → a2 ≠ a0 := fun hq => by
    rcases h.pos with ⟨h1, _⟩ | ⟨_, h2⟩
    · exact absurd h1 hq
    · exact row_ne h.runs h2 (by decide)
  have hvb : ∀ k, (Value.slice p G cap).ownBlock = some k → v.ownBlock = some k ∨ wr.heap.size ≤ k := fun k hk => by
    rcases h7 with h7 | ⟨g, hg, h7⟩
    · exact .inl (by rw [← h7]; exact hk)
    · rw [h7] at hk
      injection hk with hk
      exact .inr (by omega)
  refine ⟨p, cap, P', T', N', he, h1, ⟨h2, h3, h.runs.of_block (hblk _ h.runs.lt hr0 (fun hq => Ne.symm (h.d1 hq)) h.d2), ?_, h.l0, h.l1, h.l2, h.d1, fun e => ?_, fun hq e => ?_⟩, h4, h5, h6.size, hblk⟩
  · refine ⟨h6.os.trans h.below.os, h6.tape.trans h.below.tape, h6.output.trans h.below.output, Nat.le_trans h.below.size h6.size, fun k hk => ?_⟩
    have := h.l0
    have := h.l1
    have := h.below.size
    rw [hblk k (by omega) (fun _ => by omega) (fun _ => by omega) (fun e => by have := (owns_lt hown e).1; omega)]
    exact h.below.block k hk
  · rcases hvb _ e with e | e
    · exact h.d2 e
    · have := h.runs.lt
      omega
  · rcases hvb _ e with e | e
    · exact h.d3 hq e
    · have := h.tags.lt hq
      omega

/-- Behind the four clones. -/
theorem Laid.start {w w1 w2 w3 w4 w5 : World} {q0 q1 q2 q5 : Option Addr} {n0 n1 n5 G : Nat} {P T X : Nat → Int} {R : Nat → Nat} (h1 : Below w.heap.size w w1)
    (b2 : Below w1.heap.size w1 w2) (r0 : Row w2 w1.heap.size 35 .u64 q0 n0 P) (b3 : Below w2.heap.size w2 w3) (r1 : Row w3 w2.heap.size 27 .u32 q1 n1 T)
    (b4 : Below w3.heap.size w3 w4) (r2 : Row w4 w3.heap.size 27 .u32 q2 (G + 1) (fun i => (R i : Int))) (b5 : Below w4.heap.size w4 w5) (r5 : Row w5 w4.heap.size 27 .u32 q5 n5 X) :
    q2 = some ⟨w3.heap.size, 0, none⟩ ∧ Laid w w5 w1.heap.size w2.heap.size w3.heap.size q0 q1 n0 n1 G P T R (.slice q5 n5 n5) := by
  have s1 := h1.size
  have s2 := b2.size
  have s3 := b3.size
  have s4 := b4.size
  have s5 := b5.size
  rcases r2 with ⟨_, h0⟩ | ⟨hq, r2⟩
  · omega
  · refine ⟨hq, ((r0.below b3 (Nat.le_refl _)).below b4 (Nat.le_refl _)).below b5 (Nat.le_refl _), (r1.below b4 (Nat.le_refl _)).below b5 (Nat.le_refl _), r2.of_block (b5.block _ r2.lt), ?_, by omega, by omega, by omega, fun hq1 => ?_, r5.own_ne ?_ _ _, fun hq1 => r5.own_ne ?_ _ _⟩
    · exact (((h1.trans (b2.mono s1)).trans (b3.mono (by omega))).trans (b4.mono (by omega))).trans (b5.mono (by omega))
    · have := r1.lt hq1
      omega
    · have := r2.lt
      omega
    · have := r1.lt hq1
      omega

end Go.Proofs.Qxb6600860aMods
