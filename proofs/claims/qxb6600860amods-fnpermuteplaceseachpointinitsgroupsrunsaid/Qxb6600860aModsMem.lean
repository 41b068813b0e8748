/-
  THE MEMORY UNDER (*points).permute; append ONTO next[:0].
-/
import Derived.Test.Qxb6600860aModsPrem
import Derived.Deep.AppendLies
import Derived.Deep.RegionLaw
namespace Go.Proofs.Qxb6600860aMods
set_option linter.unusedVariables false
set_option linter.unusedSimpArgs false
open Go.RowKit

/-- ALL BUT THE BLOCKS OF A IS AS IT WAS. -/
structure Kept (w w' : World) (A : Nat → Prop) : Prop where
  os : w'.os = w.os
  tape : w'.tape = w.tape
  output : w'.output = w.output
  size : w.heap.size ≤ w'.heap.size
  block : ∀ k, k < w.heap.size → ¬ A k → w'.heap[k]? = w.heap[k]?

theorem Kept.refl (w : World) (A : Nat → Prop) : Kept w w A := ⟨rfl, rfl, rfl, Nat.le_refl _, fun _ _ _ => rfl⟩
theorem Kept.trans {w w' w'' : World} {A : Nat → Prop} (h : Kept w w' A) (k : Kept w' w'' A) : Kept w w'' A :=
  ⟨k.os.trans h.os, k.tape.trans h.tape, k.output.trans h.output, Nat.le_trans h.size k.size, fun b hb ha => (k.block b (Nat.lt_of_lt_of_le hb h.size) ha).trans (h.block b hb ha)⟩
theorem Kept.drewN {w w' : World} {A : Nat → Prop} (h : Kept w w' A) (z : Nat) : Kept w (w'.drewN z) A := ⟨h.os, h.tape, h.output, h.size, h.block⟩
theorem Kept.setCell {w w' : World} {A : Nat → Prop} (h : Kept w w' A) {a : Addr} (ha : A a.block ∨ w.heap.size ≤ a.block) (v : Value) : Kept w (w'.setCell a v) A :=
  ⟨h.os, h.tape, h.output, by simpa using h.size, fun k hk hA => by
    rw [Below.heap_setCell _ _ _ _ (by
      intro e
      rcases ha with ha | ha
      · exact hA (by first | (rw [e]; exact ha) | (rw [← e]; exact ha))
      · omega)]
    exact h.block k hk hA⟩
theorem Kept.mono {w w' : World} {A A' : Nat → Prop} (h : Kept w w' A) (hA : ∀ k, k < w.heap.size → A k → A' k) : Kept w w' A' :=
  ⟨h.os, h.tape, h.output, h.size, fun k hk ha => h.block k hk fun h' => ha (hA k hk h')⟩
theorem Kept.of_grown {w w' : World} {row : Option Nat} (h : w.grownBy w' row) : Kept w w' (fun k => some k = row) :=
  ⟨h.os, h.tape, h.output, h.size, fun k hk ha => h.block k hk ha⟩

theorem row_ne {w : World} {b b' : Nat} {t t' : TypeId} {n n' : Nat} {f f' : Nat → Value} (h : w.rowIs b t n f) (h' : w.rowIs b' t' n' f') (hne : t ≠ t') : b ≠ b' := by
  rintro rfl
  obtain ⟨c, h1, _⟩ := h
  obtain ⟨c', h2, _⟩ := h'
  rw [h1] at h2
  injection h2 with h2
  injection h2 with _ h2 _
  exact hne h2

theorem row_ne_block {w : World} {b b' : Nat} {t t' : TypeId} {n : Nat} {f : Nat → Value} {cs : Array Value} {fz : Nat × Nat} (h : w.rowIs b t n f) (h' : w.heap[b']? = some (.cells cs t' fz)) (hne : t ≠ t') : b ≠ b' := by
  rintro rfl
  obtain ⟨c, h1, _⟩ := h
  rw [h1] at h'
  injection h' with h2
  injection h2 with _ h2 _
  exact hne h2

/-- The same slice with no element: 'next[:0]'. -/
theorem owns_none {w : World} {base : Nat} {e : TypeId} {p : Option Addr} {n c : Nat} {xs : List Value} (h : w.ownsRow base e 1 (.slice p n c) n xs) : w.ownsRow base e 1 (.slice p 0 c) 0 [] := by
  refine ⟨rfl, ?_⟩
  rcases h.2 with ⟨h1, h2⟩ | ⟨g, cap, cur, h1, h2, h3, h4, h5, h6, h7⟩
  · injection h1 with h1 _ h3
    subst h1 h3
    exact .inl ⟨rfl, rfl⟩
  · injection h1 with h1 _ h3'
    subst h1 h3'
    exact .inr ⟨g, c, cur, rfl, h2, h3, Nat.zero_le _, h5, h6, by simp⟩

theorem run_append_any {P : Program} (w : World) (t ty : TypeId) (base : Nat) (e : TypeId) (i : TypeInfo) (z : Value) (bytes : Nat) (ht : P.underlying t = some (.slice e)) (hi : P.info? e = some i) (hz : i.zero = some z)
    (hsize : i.size = 1) (hby : i.bytes = bytes) (hzs : z.cells.size = 1)
    (v : Value) (hown : w.ownsRow base e 1 v 0 [])
    (ad : Addr) (m c : Nat) (news : List Value) (hl : news.length = m) (hnews : ∀ j u, news[j]? = some u → w.cell? (ad.add j) = some u) (h1 : ∀ u ∈ news, u.oneCell' = true)
    (h63 : m ≤ maxLen) (hbytes : m * bytes ≤ 140737488355328) (hbase : base ≤ w.heap.size) :
    ∃ p cap w', (Builtin.append_ #[t, t] ty #[v, .slice (some ad) m c]).run P w = .ok (.slice p m cap) w' ∧
      w'.ownsRow base e 1 (.slice p m cap) m news ∧ w.grownBy w' v.ownBlock ∧ ((Value.slice p m cap).ownBlock = v.ownBlock ∨ (Value.slice p m cap).ownBlock = some w.heap.size) := by
  obtain ⟨v', w', hr, h2, h3, _, h5⟩ := run_append_own_at (P := P) w base t ty e i z 1 bytes ht hi hz hsize hby hzs (by decide) v 0 [] hown ad m c news (by omega) hnews h1 (by omega) (by rw [Nat.zero_add]; exact hbytes) hbase
  rw [Nat.zero_add, List.nil_append] at h2
  rcases h2.2 with ⟨rfl, rfl⟩ | ⟨g, cap, cur, rfl, _⟩
  · exact ⟨none, 0, w', hr, h2, h3, h5⟩
  · exact ⟨_, cap, w', hr, h2, h3, h5⟩

theorem step_append_any {P : Program} (w : World) {ops : Array Oper} {o : Oper} {a : Act} {K : Act → World → Prop} {Q : Exit → Act → World → Prop} {E : Prop} (hgd : o.guard = none) (s x : Operand) (t : TypeId)
    (ho : o.op = .call { callee := .builtin .append, args := #[s, x], argTypes := #[t, t] })
    (base : Nat) (e : TypeId) (i : TypeInfo) (z : Value) (bytes : Nat) (ht : P.underlying t = some (.slice e)) (hi : P.info? e = some i) (hz : i.zero = some z)
    (hsize : i.size = 1) (hby : i.bytes = bytes) (hzs : z.cells.size = 1)
    (v : Value) (hs : a.eval s = v) (hown : w.ownsRow base e 1 v 0 [])
    (ad : Addr) (m c : Nat) (news : List Value) (hx : a.eval x = .slice (some ad) m c) (hl : news.length = m) (hnews : ∀ j u, news[j]? = some u → w.cell? (ad.add j) = some u) (h1 : ∀ u ∈ news, u.oneCell' = true)
    (h63 : m ≤ maxLen) (hbytes : m * bytes ≤ 140737488355328) (hbase : base ≤ w.heap.size)
    (h : ∀ p cap w', w'.ownsRow base e 1 (.slice p m cap) m news → w.grownBy w' v.ownBlock → ((Value.slice p m cap).ownBlock = v.ownBlock ∨ (Value.slice p m cap).ownBlock = some w.heap.size) → K (a.put o.dst (.slice p m cap)) w') :
    if Region.wanted o (yielded ops a.tmps) = true then Oper.wp P o a w K Q else E := by
  have hw : Region.wanted o (yielded ops a.tmps) = true := by simp [Region.wanted, hgd]
  rw [if_pos hw]
  obtain ⟨p, cap, w', hr, h2, h3, h4⟩ := run_append_any (P := P) w t o.type base e i z bytes ht hi hz hsize hby hzs v hown ad m c news hl hnews h1 h63 hbytes hbase
  unfold Oper.wp execOp
  simp only [ho, resolve, invoke, builtin, Sem.run_bind, Sem.run_pure, Result.andThen_ok, List.map_toArray, List.map_cons, List.map_nil, hs, hx, hr]
  exact h p cap w' h2 h3 h4

/-- THE MEMORY AT WORK. -/
structure PM (w wr : World) (bs bp bt br bn cn np nt G : Nat) (cs : Array Value) (ob : Option Nat) (pp pt : Option Addr) (P T : Nat → Int) (R N : Nat → Nat) : Prop where
  pos : Row wr bp 35 .u64 pp np P
  tags : Row wr bt 27 .u32 pt nt T
  runs : wr.rowIs br 27 (G + 1) (fun i => .int .u32 (R i))
  next : ∃ f, wr.rowIs bn 27 cn f ∧ ∀ h, h < G → f h = .int .u32 (N h)
  st : wr.heap[bs]? = some (.cells cs 59 (0, 0))
  kept : Kept w wr (fun k => (pp ≠ none ∧ k = bp) ∨ (pt ≠ none ∧ k = bt) ∨ k = bn ∨ ob = some k)
  room : G ≤ cn
  dr : bn ≠ br
  dt : pt ≠ none → bt ≠ br ∧ bt ≠ bn

theorem PM.drewN {w wr : World} {bs bp bt br bn cn np nt G : Nat} {cs : Array Value} {ob : Option Nat} {pp pt : Option Addr} {P T : Nat → Int} {R N : Nat → Nat} (h : PM w wr bs bp bt br bn cn np nt G cs ob pp pt P T R N) (z : Nat) : PM w (wr.drewN z) bs bp bt br bn cn np nt G cs ob pp pt P T R N :=
  ⟨h.pos, h.tags, h.runs, h.next, h.st, h.kept.drewN z, h.room, h.dr, h.dt⟩

theorem PM.drew {w wr : World} {bs bp bt br bn cn np nt G : Nat} {cs : Array Value} {ob : Option Nat} {pp pt : Option Addr} {P T : Nat → Int} {R N : Nat → Nat} (h : PM w wr bs bp bt br bn cn np nt G cs ob pp pt P T R N) : PM w wr.drew bs bp bt br bn cn np nt G cs ob pp pt P T R N :=
  ⟨h.pos, h.tags, h.runs, h.next, h.st, ⟨h.kept.os, h.kept.tape, h.kept.output, h.kept.size, h.kept.block⟩, h.room, h.dr, h.dt⟩

theorem some_ne {a : Addr} {p : Option Addr} (h : p = some a) : p ≠ none := by rw [h]; exact fun h => by cases h

theorem PM.setNext {w wr : World} {bs bp bt br bn cn np nt G : Nat} {cs : Array Value} {ob : Option Nat} {pp pt : Option Addr} {P T : Nat → Int} {R N : Nat → Nat} (h : PM w wr bs bp bt br bn cn np nt G cs ob pp pt P T R N) {k : Nat} (hk : k < G) (v : Nat) :
    PM w (wr.setCell ⟨bn, k, none⟩ (.int .u32 v)) bs bp bt br bn cn np nt G cs ob pp pt P T R (upd N k v) := by
  obtain ⟨f, hf, hfN⟩ := h.next
  have hother : ∀ b, b ≠ bn → (wr.setCell ⟨bn, k, none⟩ (.int .u32 v)).heap[b]? = wr.heap[b]? := fun b hb => Below.heap_setCell _ _ _ _ (by first | exact hb | exact Ne.symm hb)
  refine ⟨h.pos.keep fun e hb => ?_, h.tags.keep fun e _ => ?_, h.runs.of_block (hother _ (Ne.symm h.dr)), ⟨_, hf.set k _, fun i hi => ?_⟩, ?_, h.kept.setCell (.inl (.inr (.inr (.inl rfl)))) _, h.room, h.dr, h.dt⟩
  · rcases h.pos with ⟨h1, _⟩ | ⟨_, h2⟩
    · rw [h1] at e; cases e
    · exact hother _ (row_ne h2 hf (by decide))
  · exact hother _ (h.dt (some_ne e)).2
  · unfold upd
    by_cases e : i = k
    · rw [if_pos e, if_pos e]
    · rw [if_neg e, if_neg e]; exact hfN i hi
  · rw [hother _ (Ne.symm (row_ne_block hf h.st (by decide)))]
    exact h.st

theorem PM.setPos {w wr : World} {bs bp bt br bn cn np nt G : Nat} {cs : Array Value} {ob : Option Nat} {pp pt : Option Addr} {P T : Nat → Int} {R N : Nat → Nat} (h : PM w wr bs bp bt br bn cn np nt G cs ob pp pt P T R N) (hpp : pp = some ⟨bp, 0, none⟩) (k : Nat) (v : Int) :
    PM w (wr.setCell ⟨bp, k, none⟩ (.int .u64 v)) bs bp bt br bn cn np nt G cs ob pp pt (upd P k v) T R N := by
  obtain ⟨f, hf, hfN⟩ := h.next
  have hr : wr.rowIs bp 35 np (fun i => .int .u64 (P i)) := by
    rcases h.pos with ⟨h1, _⟩ | ⟨_, h2⟩
    · rw [h1] at hpp; cases hpp
    · exact h2
  have hother : ∀ b, b ≠ bp → (wr.setCell ⟨bp, k, none⟩ (.int .u64 v)).heap[b]? = wr.heap[b]? := fun b hb => Below.heap_setCell _ _ _ _ (by first | exact hb | exact Ne.symm hb)
  refine ⟨.inr ⟨hpp, (hr.set k _).congr fun i hi => ?_⟩, h.tags.keep fun e hb => ?_, h.runs.of_block (hother _ (row_ne h.runs hr (by decide))), ⟨f, hf.of_block (hother _ (row_ne hf hr (by decide))), hfN⟩, ?_, h.kept.setCell (.inl (.inl ⟨some_ne hpp, rfl⟩)) _, h.room, h.dr, h.dt⟩
  · unfold upd
    by_cases e : i = k
    · rw [if_pos e, if_pos e]
    · rw [if_neg e, if_neg e]
  · rcases h.tags with ⟨h1, _⟩ | ⟨_, h2⟩
    · rw [h1] at e; cases e
    · exact hother _ (row_ne h2 hr (by decide))
  · rw [hother _ (Ne.symm (row_ne_block hr h.st (by decide)))]
    exact h.st

theorem PM.setTag {w wr : World} {bs bp bt br bn cn np nt G : Nat} {cs : Array Value} {ob : Option Nat} {pp pt : Option Addr} {P T : Nat → Int} {R N : Nat → Nat} (h : PM w wr bs bp bt br bn cn np nt G cs ob pp pt P T R N) (hpt : pt = some ⟨bt, 0, none⟩) (k : Nat) (v : Int) :
    PM w (wr.setCell ⟨bt, k, none⟩ (.int .u32 v)) bs bp bt br bn cn np nt G cs ob pp pt P (upd T k v) R N := by
  obtain ⟨f, hf, hfN⟩ := h.next
  have hr : wr.rowIs bt 27 nt (fun i => .int .u32 (T i)) := by
    rcases h.tags with ⟨h1, _⟩ | ⟨_, h2⟩
    · rw [h1] at hpt; cases hpt
    · exact h2
  have hd := h.dt (some_ne hpt)
  have hother : ∀ b, b ≠ bt → (wr.setCell ⟨bt, k, none⟩ (.int .u32 v)).heap[b]? = wr.heap[b]? := fun b hb => Below.heap_setCell _ _ _ _ (by first | exact hb | exact Ne.symm hb)
  refine ⟨h.pos.keep fun e hb => ?_, .inr ⟨hpt, (hr.set k _).congr fun i hi => ?_⟩, h.runs.of_block (hother _ (Ne.symm hd.1)), ⟨f, hf.of_block (hother _ (Ne.symm hd.2)), hfN⟩, ?_, h.kept.setCell (.inl (.inr (.inl ⟨some_ne hpt, rfl⟩))) _, h.room, h.dr, h.dt⟩
  · rcases h.pos with ⟨h1, _⟩ | ⟨_, h2⟩
    · rw [h1] at e; cases e
    · exact hother _ (row_ne h2 hr (by decide))
  · unfold upd
    by_cases e : i = k
    · rw [if_pos e, if_pos e]
    · rw [if_neg e, if_neg e]
  · rw [hother _ (Ne.symm (row_ne_block hr h.st (by decide)))]
    exact h.st

theorem PM.cellNext {w wr : World} {bs bp bt br bn cn np nt G : Nat} {cs : Array Value} {ob : Option Nat} {pp pt : Option Addr} {P T : Nat → Int} {R N : Nat → Nat} (h : PM w wr bs bp bt br bn cn np nt G cs ob pp pt P T R N) {k : Nat} (hk : k < G) : wr.cell? ⟨bn, k, none⟩ = some (.int .u32 (N k)) ∧ wr.frozen? ⟨bn, k, none⟩ = false := by
  obtain ⟨f, hf, hfN⟩ := h.next
  have := h.room
  exact ⟨by rw [hf.cell (by omega), hfN k hk], hf.frozen k⟩

theorem PM.cellPos {w wr : World} {bs bp bt br bn cn np nt G : Nat} {cs : Array Value} {ob : Option Nat} {pp pt : Option Addr} {P T : Nat → Int} {R N : Nat → Nat} (h : PM w wr bs bp bt br bn cn np nt G cs ob pp pt P T R N) {k : Nat} (hk : k < np) : pp = some ⟨bp, 0, none⟩ ∧ wr.cell? ⟨bp, k, none⟩ = some (.int .u64 (P k)) ∧ wr.frozen? ⟨bp, k, none⟩ = false := by
  rcases h.pos with ⟨_, h1⟩ | ⟨h1, h2⟩
  · omega
  · exact ⟨h1, h2.cell hk, h2.frozen k⟩

theorem PM.cellTag {w wr : World} {bs bp bt br bn cn np nt G : Nat} {cs : Array Value} {ob : Option Nat} {pp pt : Option Addr} {P T : Nat → Int} {R N : Nat → Nat} (h : PM w wr bs bp bt br bn cn np nt G cs ob pp pt P T R N) {k : Nat} (hk : k < nt) : pt = some ⟨bt, 0, none⟩ ∧ wr.cell? ⟨bt, k, none⟩ = some (.int .u32 (T k)) ∧ wr.frozen? ⟨bt, k, none⟩ = false := by
  rcases h.tags with ⟨_, h1⟩ | ⟨h1, h2⟩
  · omega
  · exact ⟨h1, h2.cell hk, h2.frozen k⟩

theorem PM.cellSt {w wr : World} {bs bp bt br bn cn np nt G : Nat} {cs : Array Value} {ob : Option Nat} {pp pt : Option Addr} {P T : Nat → Int} {R N : Nat → Nat} (h : PM w wr bs bp bt br bn cn np nt G cs ob pp pt P T R N) {k : Nat} {v : Value} (hk : cs[k]? = some v) : wr.cell? ⟨bs, k, none⟩ = some v := by
  simp [World.cell?, h.st, hk]

theorem owns_row {w : World} {base : Nat} {e : TypeId} {g n cap : Nat} {xs : List Value} (h : w.ownsRow base e 1 (.slice (some ⟨g, 0, none⟩) n cap) n xs) : base ≤ g ∧ n ≤ cap ∧ cap ≤ maxLen ∧ ∃ f, w.rowIs g e cap f ∧ ∀ i, i < n → xs[i]? = some (f i) := by
  rcases h.2 with ⟨h1, _⟩ | ⟨g', cap', cur, h1, h2, h3, h4, h5, h6, h7⟩
  · cases h1
  · simp only [Value.slice.injEq, Option.some.injEq, Addr.mk.injEq] at h1
    obtain ⟨⟨rfl, _⟩, _, rfl⟩ := h1
    refine ⟨h2, h4, h5, fun i => cur.getD i default, ⟨cur, h3, by omega, fun i hi => ?_⟩, fun i hi => ?_⟩
    · have : i < cur.size := by omega
      simp [Array.getD, this]
    · rw [← h7]
      have : i < cur.size := by omega
      simp [Array.getD, this, List.getElem?_take, hi]

theorem row_owns {w : World} {base : Nat} {e : TypeId} {g n cap : Nat} {f f' : Nat → Value} (h : w.rowIs g e cap f) (h1 : base ≤ g) (h2 : n ≤ cap) (h3 : cap ≤ maxLen) (hf : ∀ i, i < n → f i = f' i) : w.ownsRow base e 1 (.slice (some ⟨g, 0, none⟩) n cap) n ((List.range n).map f') := by
  obtain ⟨c, hb, hs, hc⟩ := h
  refine ⟨by simp, .inr ⟨g, cap, c, rfl, h1, hb, h2, h3, by omega, ?_⟩⟩
  apply List.ext_getElem?
  intro i
  rw [Nat.mul_one]
  by_cases hi : i < n
  · rw [List.getElem?_take_of_lt hi, Array.getElem?_toList, hc i (by omega), hf i hi]
    simp [hi]
  · rw [List.getElem?_eq_none (by simp; omega), List.getElem?_eq_none (by simp; omega)]

theorem ownBlock_slice (p : Option Addr) (n c n' c' : Nat) : (Value.slice p n c).ownBlock = (Value.slice p n' c').ownBlock := by cases p <;> rfl

def PermPost (w : World) (base bp bt np nt G : Nat) (pp pt : Option Addr) (K : Int → Int) (P T : Nat → Int) (R : Nat → Nat) (v : Value) (e : Ending) (w' : World) : Prop :=
  ∃ p cap P' T' N', e = .returned (.slice p G cap) ∧ w'.ownsRow base 27 1 (.slice p G cap) G ((List.range G).map fun h => .int .u32 ((R (h + 1) : Nat) : Int)) ∧
    Row w' bp 35 .u64 pp np P' ∧ Row w' bt 27 .u32 pt nt T' ∧ Flag K G R P T P' T' N' ∧ (∀ h, h < G → N' h = R (h + 1)) ∧
    Kept w w' (fun k => (pp ≠ none ∧ k = bp) ∨ (pt ≠ none ∧ k = bt) ∨ v.ownBlock = some k) ∧
    ((Value.slice p G cap).ownBlock = v.ownBlock ∨ ∃ g, w.heap.size ≤ g ∧ (Value.slice p G cap).ownBlock = some g)

theorem Trym.info27b : ∃ i, Trym.prog.info? 27 = some i ∧ i.zero = some (.int .u32 0) ∧ i.size = 1 ∧ i.bytes = 4 := by
  have h := Trym.info27
  cases hi : Trym.prog.info? 27 with
  | none => rw [hi] at h; cases h
  | some i =>
    rw [hi] at h
    simp only [Option.map_some, Option.some.injEq, Prod.mk.injEq] at h
    exact ⟨i, rfl, h.1, h.2.1, h.2.2⟩

theorem own_block_ne {w : World} {base n : Nat} {v : Value} {xs : List Value} {b : Nat} {c : Array Value} {t : TypeId} {fz : Nat × Nat} (h : w.ownsRow base 27 1 v n xs) (hb : w.heap[b]? = some (.cells c t fz)) (ht : t ≠ 27) : v.ownBlock ≠ some b := by
  intro e
  rcases h.2 with ⟨rfl, _⟩ | ⟨g, cap, cur, rfl, _, h3, _⟩
  · cases e
  · simp only [Value.ownBlock, Option.some.injEq] at e
    subst e
    rw [hb] at h3
    injection h3 with h3
    injection h3 with _ h3 _
    exact ht h3

end Go.Proofs.Qxb6600860aMods
