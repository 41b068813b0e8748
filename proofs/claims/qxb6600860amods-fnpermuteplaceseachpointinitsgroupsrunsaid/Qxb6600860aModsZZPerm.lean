/-
  THE WALK OF ZZPermute.
-/
import Derived.Test.Qxb6600860aModsPerm
namespace Go.Proofs.Qxb6600860aMods
set_option linter.unusedVariables false
set_option linter.unusedSimpArgs false
open Go.RowKit

set_option maxRecDepth 100000 in
set_option maxHeartbeats 1000000 in
theorem zzpermute_any (bp bt br base : Nat) (pp pt : Option Addr) (np nt G : Nat) (P T : Nat → Int) (R : Nat → Nat) (x : Int) (s : Nat) (pv : Option Addr) (nv cv : Nat) (ys : List Value) (w : World)
    (b0 : np ≤ 1048576) (b1 : nt ≤ 1048576) (b2 : G ≤ 1048576) (hx : 0 ≤ x) (hx2 : x ≤ 18446744073709551615) (hs : s ≤ 65536) (hbase : base ≤ w.heap.size)
    (hp : Prem (keyOf x s) G R P) (hl0 : R G ≤ np) (hl1 : R G ≤ nt) (wP : ∀ i, (Lit.int .u64 (P i)).wf = true) (wT : ∀ i, (Lit.int .u32 (T i)).wf = true) (wR : ∀ i, R i ≤ 4294967295)
    (hpos : Row w bp 35 .u64 pp np P) (htags : Row w bt 27 .u32 pt nt T) (hruns : w.rowIs br 27 (G + 1) (fun i => .int .u32 (R i))) (hown : w.ownsRow base 27 1 (.slice pv nv cv) nv ys)
    (hd1 : pt ≠ none → bt ≠ br) (hd2 : (Value.slice pv nv cv).ownBlock ≠ some br) (hd3 : pt ≠ none → (Value.slice pv nv cv).ownBlock ≠ some bt) :
    Calls Trym.prog 24 #[.slice pp np np, .slice pt nt nt, .slice (some ⟨br, 0, none⟩) (G + 1) (G + 1), .int .u64 x, .int .u64 s, .slice pv nv cv] w fun e w' => PermPost w base bp bt np nt G pp pt (keyOf x s) P T R (.slice pv nv cv) e w' := by
  obtain ⟨w2, hw2⟩ : ∃ w2, w2 = w.alloc (.cells #[.slice pp np np, .slice pt nt nt, .int .u64 0, .int .u32 0, .int .u32 0, .int .u64 0, .slice none 0 0, .slice none 0 0, .int .u64 0, .int .u64 0] 59) := ⟨_, rfl⟩
  have hst : w2.heap[w.heap.size]? = some (.cells #[.slice pp np np, .slice pt nt nt, .int .u64 0, .int .u32 0, .int .u32 0, .int .u64 0, .slice none 0 0, .slice none 0 0, .int .u64 0, .int .u64 0] 59 (0, 0)) := by rw [hw2]; exact heap_alloc_new w _
  have hold : ∀ k, k < w.heap.size → w2.heap[k]? = w.heap[k]? := fun k hk => by rw [hw2]; exact Below.heap_alloc _ _ _ hk
  have hsz : w2.heap.size = w.heap.size + 1 := by rw [hw2]; simp
  have hk2 : ∀ A, Kept w w2 A := fun A => by rw [hw2]; exact ⟨rfl, rfl, rfl, by simp, fun k hk _ => Below.heap_alloc _ _ _ hk⟩
  have hown2 : w2.ownsRow base 27 1 (.slice pv nv cv) nv ys := by rw [hw2]; exact hown.alloc _
  have key := permute_any w.heap.size bp bt br base _ pp pt np nt G P T R x s pv nv cv ys w2 b0 b1 b2 hx hx2 hs (by omega) hp hl0 hl1 wP wT wR (hpos.keep fun _ hb => hold _ hb) (htags.keep fun _ hb => hold _ hb) (hruns.of_block (hold _ hruns.lt)) hown2 hst rfl rfl hd1 hd2 hd3
  have HK := hide key
  have HW := hide hw2
  have HK2 := hide hk2
  clear key hw2 hst hold hk2 hown2 hp wP wT wR hpos htags hruns hown hd1 hd2 hd3
  go_enter Trym.func24, Trym.ntmps24
  go_wp2_with fail
  rw [← HW.out]
  refine HK.out.mono ?_
  intro e w' hpost
  obtain ⟨p, cap, P', T', N', he, h1, h2, h3, h4, h5, h6, h7⟩ := hpost
  subst he
  have HF : Hid (PermPost w base bp bt np nt G pp pt (keyOf x s) P T R (.slice pv nv cv) (.returned (.slice p G cap)) w') := hide ⟨p, cap, P', T', N', rfl, h1, h2, h3, h4, h5, (HK2.out _).trans h6, h7.imp id fun ⟨g, hg, hg2⟩ => ⟨g, by omega, hg2⟩⟩
  clear h1 h2 h3 h4 h5 h6 h7
  go_wp2_with fail
  go_ret
  exact HF.out

end Go.Proofs.Qxb6600860aMods
