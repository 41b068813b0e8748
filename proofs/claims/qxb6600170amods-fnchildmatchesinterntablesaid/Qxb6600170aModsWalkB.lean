/-
  Contracts: byte slices (equalBytes, bytes.Equal, bytes.Clone), the guards (zzBytes_.., listBytes).
-/
import Derived.Test.Qxb6600170aModsWalkA
import Derived.Test.Qxb6600170aModsPlain
namespace Go.Proofs.Qxb6600170aMods
set_option linter.unusedVariables false
set_option linter.unusedSimpArgs false
open Go.RowKit

/-- THE VALUE v IS A SLICE OF THE BYTES xs (nil where there is none, or not). -/
def Bytes (w : World) (v : Value) (xs : List Int) : Prop :=
  ∃ p c, v = .slice p xs.length c ∧ xs.length ≤ 1048576 ∧ (∀ x ∈ xs, 0 ≤ x ∧ x < 256) ∧
    (xs ≠ [] → ∃ b o, p = some ⟨b, o, none⟩ ∧ ∀ i, i < xs.length → w.cell? ⟨b, o + i, none⟩ = some (.int .u8 (xs.getD i 0)))

theorem Bytes.keep {w w' : World} {v : Value} {xs : List Int} (h : Bytes w v xs) (hk : ∀ k, v.ownBlock = some k → w'.heap[k]? = w.heap[k]?) : Bytes w' v xs := by
  obtain ⟨p, c, rfl, hl, hb, hc⟩ := h
  refine ⟨p, c, rfl, hl, hb, fun hne => ?_⟩
  obtain ⟨b, o, rfl, hcell⟩ := hc hne
  exact ⟨b, o, rfl, fun i hi => by rw [World.cell?_of_block (w := w) (hk b rfl)]; exact hcell i hi⟩

theorem Bytes.lt {w : World} {v : Value} {xs : List Int} (h : Bytes w v xs) : v.ownBlock = none ∨ xs = [] ∨ ∃ k, v.ownBlock = some k ∧ k < w.heap.size := by
  obtain ⟨p, c, rfl, hl, hb, hc⟩ := h
  by_cases hne : xs = []
  · exact .inr (.inl hne)
  · obtain ⟨b, o, rfl, hcell⟩ := hc hne
    refine .inr (.inr ⟨b, rfl, ?_⟩)
    have := hcell 0 (List.length_pos_iff.2 hne)
    exact World.block_lt_of_cell? _ _ this

theorem Bytes.below {B : Nat} {w w' : World} {v : Value} {xs : List Int} (h : Bytes w v xs) (hb : Below B w w') (hB : w.heap.size ≤ B) : Bytes w' v xs := by
  obtain ⟨p, c, rfl, hl, hb', hc⟩ := h
  refine ⟨p, c, rfl, hl, hb', fun hne => ?_⟩
  obtain ⟨b, o, rfl, hcell⟩ := hc hne
  refine ⟨b, o, rfl, fun i hi => ?_⟩
  have := World.block_lt_of_cell? _ _ (hcell i hi)
  rw [hb.cell (p := ⟨b, o + i, none⟩) (by simp at this ⊢; omega)]; exact hcell i hi

theorem Bytes.drewN {w : World} {v : Value} {xs : List Int} (h : Bytes w v xs) (q : Nat) : Bytes (w.drewN q) v xs := h.keep fun _ _ => rfl

theorem ret_bool {a b : Bool} (h : a = b) : Ending.returned (.bool a) = .returned (.bool b) := by rw [h]

set_option maxHeartbeats 400000 in
theorem equal_len (p q : Option Addr) (n m c d : Nat) (w : World) (hne : n ≠ m) (hn : n ≤ 1048576) (hm : m ≤ 1048576) :
    Calls Trym.prog 14 #[.slice p n c, .slice q m d] w fun e w' => e = .returned (.bool false) ∧ w' = w := by
  have h1 : ((n : Int) != (m : Int)) = true := by simp; omega
  go_enter Trym.func14, Trym.ntmps14
  go_wp2
  go_ret
  exact ⟨rfl, rfl⟩

set_option maxHeartbeats 400000 in
theorem equal_none (p q : Option Addr) (c d : Nat) (w : World) :
    Calls Trym.prog 14 #[.slice p 0 c, .slice q 0 d] w fun e w' => e = .returned (.bool true) ∧ w' = w := by
  go_enter Trym.func14, Trym.ntmps14
  go_wp2
  refine wp_loop_rounds 1 ?_; rw [rounds_succ]
  go_wp2
  go_ret
  exact ⟨rfl, rfl⟩

set_option maxHeartbeats 400000 in
theorem equal_some (b o b' o' c d n : Nat) (xs ys : List Int) (hx : xs.length = n) (hy : ys.length = n) (w : World) (hn : n ≤ 1048576)
    (hcx : ∀ i, i < n → w.cell? ⟨b, o + i, none⟩ = some (.int .u8 (xs.getD i 0)))
    (hcy : ∀ i, i < n → w.cell? ⟨b', o' + i, none⟩ = some (.int .u8 (ys.getD i 0))) :
    Calls Trym.prog 14 #[.slice (some ⟨b, o, none⟩) n c, .slice (some ⟨b', o', none⟩) n d] w fun e w' => e = .returned (.bool (decide (xs = ys))) ∧ ∃ q, w' = w.drewN q := by
  have h1 : ((n : Int) != (n : Int)) = false := by simp
  have HX : Hid (xs.length = n) := hx
  have HY : Hid (ys.length = n) := hy
  clear hx hy
  go_enter Trym.func14, Trym.ntmps14
  go_wp2
  go_loopw [5] (fun i wr => ∃ k j : Nat, k ≤ n ∧ i = .int .i64 k ∧ wr = w.drewN j ∧ xs.take k = ys.take k) (fun i _ => n - (intOf i).toNat)
  case atStart => exact ⟨0, 0, Nat.zero_le _, rfl, rfl, rfl⟩
  case round =>
    obtain ⟨k, j, hk, rfl, rfl, htk⟩ := hrel
    have HT : Hid (xs.take k = ys.take k) := htk
    clear htk
    by_cases hlt : k < n
    · have cx := hcx k hlt
      have cy := hcy k hlt
      have hlt' : (k : Int) < (n : Int) := by omega
      clear hcx hcy
      go_wp2
      go_quiet (fail)
      go_wp2
      · go_ret
        exact ⟨ret_bool (dec_ne ‹_›).symm, j + nq, World.drewN_drewN ..⟩
      · go_roundw
        case rel => exact ⟨k + 1, j + nq, by omega, by go_num, rfl, take_step HX.out HY.out hlt HT.out ‹_›⟩
        case measure => simp [intOf]; omega
    · go_wp2
      go_ret
      exact ⟨ret_bool (dec_eq HX.out HY.out (by omega) HT.out).symm, _, rfl⟩

/-- equalBytes: are the bytes the same? -/
theorem equal_any {w : World} {u v : Value} {xs ys : List Int} (hu : Bytes w u xs) (hv : Bytes w v ys) :
    Calls Trym.prog 14 #[u, v] w fun e w' => e = .returned (.bool (decide (xs = ys))) ∧ ∃ q, w' = w.drewN q := by
  obtain ⟨p, c, rfl, hl, _, hc⟩ := hu
  obtain ⟨q, d, rfl, hl', _, hd⟩ := hv
  by_cases hne : xs.length = ys.length
  · by_cases h0 : xs = []
    · subst h0
      obtain rfl : ys = [] := List.eq_nil_of_length_eq_zero (by simpa using hne.symm)
      exact (equal_none p q c d w).mono fun e w' ⟨h1, h2⟩ => ⟨by simpa using h1, 0, h2⟩
    · have h0' : ys ≠ [] := fun e => h0 (List.eq_nil_of_length_eq_zero (by rw [hne, e]; rfl))
      obtain ⟨b, o, rfl, hcx⟩ := hc h0
      obtain ⟨b', o', rfl, hcy⟩ := hd h0'
      rw [hne]
      exact equal_some b o b' o' c d ys.length xs ys hne rfl w hl' (fun i hi => hcx i (by omega)) hcy
  · have he : decide (xs = ys) = false := by simp; intro e; exact hne (by rw [e])
    rw [he]
    exact (equal_len p q _ _ c d w hne hl hl').mono fun e w' ⟨h1, h2⟩ => ⟨h1, 0, h2⟩

/-- What the guards see of a list of byte slices: the outer cells. -/
def Raw (w : World) (p : Option Addr) (n : Nat) (A : Nat → Option Addr) (L C : Nat → Nat) : Prop :=
  0 < n → ∃ b o, p = some ⟨b, o, none⟩ ∧ ∀ i, i < n → w.cell? ⟨b, o + i, none⟩ = some (.slice (A i) (L i) (C i)) ∧ L i ≤ 9223372036854775807

/-- What a guard says: if it answers true, every length is at most 2^20. -/
def Fits (n : Nat) (L : Nat → Nat) (w : World) (e : Ending) (w' : World) : Prop := ∃ t, e = .returned (.bool t) ∧ w' = w ∧ (t = true → n ≤ 1048576 ∧ ∀ i, i < n → L i ≤ 1048576)
theorem Fits.no (n : Nat) (L : Nat → Nat) (w : World) : Fits n L w (.returned (.bool false)) w := ⟨false, rfl, rfl, by simp⟩
theorem Fits.yes {n : Nat} {L : Nat → Nat} {w : World} (h : n ≤ 1048576) (h2 : ∀ i, i < n → L i ≤ 1048576) : Fits n L w (.returned (.bool true)) w := ⟨true, rfl, rfl, fun _ => ⟨h, h2⟩⟩

def Fits2 (n : Nat) (L : Nat → Nat) (n' : Nat) (L' : Nat → Nat) (w : World) (e : Ending) (w' : World) : Prop :=
  ∃ t, e = .returned (.bool t) ∧ w' = w ∧ (t = true → (n ≤ 1048576 ∧ ∀ i, i < n → L i ≤ 1048576) ∧ n' ≤ 1048576 ∧ ∀ i, i < n' → L' i ≤ 1048576)
theorem Fits2.no (n : Nat) (L : Nat → Nat) (n' : Nat) (L' : Nat → Nat) (w : World) : Fits2 n L n' L' w (.returned (.bool false)) w := ⟨false, rfl, rfl, by simp⟩
theorem Fits2.yes {n : Nat} {L : Nat → Nat} {n' : Nat} {L' : Nat → Nat} {w : World} (h : n ≤ 1048576) (h' : n' ≤ 1048576) (h2 : ∀ i, i < n → L i ≤ 1048576) (h2' : ∀ i, i < n' → L' i ≤ 1048576) : Fits2 n L n' L' w (.returned (.bool true)) w :=
  ⟨true, rfl, rfl, fun _ => ⟨⟨h, h2⟩, h', h2'⟩⟩

/-- A small number is handed back; nothing has turned. -/
def Small (w : World) (e : Ending) (w' : World) : Prop := ∃ t : Int, e = .returned (.int .i64 t) ∧ w' = w ∧ 0 ≤ t ∧ t ≤ 1048577
theorem Small.mk {t : Int} {w : World} (h : 0 ≤ t) (h2 : t ≤ 1048577) : Small w (.returned (.int .i64 t)) w := ⟨t, rfl, rfl, h, h2⟩

set_option maxHeartbeats 800000 in
theorem bytes24 (p : Option Addr) (n c : Nat) (x y : Int) (A : Nat → Option Addr) (L C : Nat → Nat) (w : World) (hn : n ≤ 9223372036854775807) (h : Raw w p n A L C) :
    Calls Trym.prog 24 #[.slice p n c, .int .i64 x, .int .i64 y] w fun e w' => Fits n L w e w' := by
  by_cases hbig : 1048576 < n
  · go_enter Trym.func24, Trym.ntmps24
    go_wp2
    go_ret
    exact Fits.no _ _ _
  go_enter Trym.func24, Trym.ntmps24
  go_wp2
  go_loop [7, 8] (fun t i => ∃ k s : Nat, k ≤ n ∧ s ≤ 1048576 ∧ i = .int .i64 k ∧ t = .int .i64 s ∧ ∀ i, i < k → L i ≤ 1048576) (fun _ i => n - (intOf i).toNat)
  case atStart => exact ⟨0, n, Nat.zero_le _, by omega, rfl, rfl, fun i hi => absurd hi (Nat.not_lt_zero i)⟩
  case round =>
    obtain ⟨k, s, hk, hs, rfl, rfl, hL⟩ := hrel
    have HL : Hid (∀ i, i < k → L i ≤ 1048576) := hL
    clear hL
    by_cases hlt : k < n
    · obtain ⟨b, o, rfl, hc⟩ := h (by omega)
      obtain ⟨hck, hLk⟩ := hc k hlt
      clear hc h
      go_wp2
      · go_ret
        exact Fits.no _ _ _
      · go_ret
        exact Fits.no _ _ _
      · go_round
        case rel => exact ⟨k + 1, s + L k, by omega, by omega, by go_num, by go_num, fun i hi => by by_cases e : i = k; (· subst e; omega); (· exact HL.out i (by omega))⟩
        case measure => simp [intOf]; omega
    · go_wp2
      go_ret
      exact Fits.yes (by omega) fun i hi => HL.out i (by omega)

set_option maxHeartbeats 800000 in
theorem bytes22 (p : Option Addr) (n c : Nat) (x : Int) (A : Nat → Option Addr) (L C : Nat → Nat) (w : World) (hn : n ≤ 9223372036854775807) (h : Raw w p n A L C) :
    Calls Trym.prog 22 #[.slice p n c, .int .i64 x] w fun e w' => Fits n L w e w' := by
  by_cases hbig : 1048576 < n
  · go_enter Trym.func22, Trym.ntmps22
    go_wp2
    go_ret
    exact Fits.no _ _ _
  go_enter Trym.func22, Trym.ntmps22
  go_wp2
  go_loop [5, 6] (fun t i => ∃ k s : Nat, k ≤ n ∧ s ≤ 1048576 ∧ i = .int .i64 k ∧ t = .int .i64 s ∧ ∀ i, i < k → L i ≤ 1048576) (fun _ i => n - (intOf i).toNat)
  case atStart => exact ⟨0, n, Nat.zero_le _, by omega, rfl, rfl, fun i hi => absurd hi (Nat.not_lt_zero i)⟩
  case round =>
    obtain ⟨k, s, hk, hs, rfl, rfl, hL⟩ := hrel
    have HL : Hid (∀ i, i < k → L i ≤ 1048576) := hL
    clear hL
    by_cases hlt : k < n
    · obtain ⟨b, o, rfl, hc⟩ := h (by omega)
      obtain ⟨hck, hLk⟩ := hc k hlt
      clear hc h
      go_wp2
      · go_ret
        exact Fits.no _ _ _
      · go_ret
        exact Fits.no _ _ _
      · go_round
        case rel => exact ⟨k + 1, s + L k, by omega, by omega, by go_num, by go_num, fun i hi => by by_cases e : i = k; (· subst e; omega); (· exact HL.out i (by omega))⟩
        case measure => simp [intOf]; omega
    · go_wp2
      go_ret
      exact Fits.yes (by omega) fun i hi => HL.out i (by omega)

set_option maxHeartbeats 800000 in
theorem listbytes_any (p : Option Addr) (n c : Nat) (A : Nat → Option Addr) (L C : Nat → Nat) (w : World) (hn : n ≤ 1048576) (h : Raw w p n A L C) (hL : ∀ i, i < n → L i ≤ 1048576) :
    Calls Trym.prog 8 #[.slice p n c] w fun e w' => Small w e w' := by
  by_cases hbig : 131072 < n
  · go_enter Trym.func8, Trym.ntmps8
    go_wp2
    go_ret
    exact Small.mk (by decide) (by decide)
  go_enter Trym.func8, Trym.ntmps8
  go_wp2
  go_loop [3, 4] (fun t i => ∃ k s : Nat, k ≤ n ∧ s ≤ 1048576 ∧ i = .int .i64 k ∧ t = .int .i64 s) (fun _ i => n - (intOf i).toNat)
  case atStart => exact ⟨0, 8 * n, Nat.zero_le _, by omega, rfl, by go_num⟩
  case round =>
    obtain ⟨k, s, hk, hs, rfl, rfl⟩ := hrel
    by_cases hlt : k < n
    · obtain ⟨b, o, rfl, hc⟩ := h (by omega)
      obtain ⟨hck, _⟩ := hc k hlt
      have hLk := hL k hlt
      clear hc h hL
      by_cases hsum : s + L k ≤ 1048576
      · go_wp2
        go_round
        case rel => exact ⟨k + 1, s + L k, by omega, by omega, by go_num, by go_num⟩
        case measure => simp [intOf]; omega
      · go_wp2
        go_ret
        exact Small.mk (by decide) (by decide)
    · go_wp2
      go_ret
      exact Small.mk (by omega) (by omega)


set_option maxHeartbeats 1600000 in
theorem bytes21 (p p' : Option Addr) (n c n' c' : Nat) (A : Nat → Option Addr) (L C : Nat → Nat) (A' : Nat → Option Addr) (L' C' : Nat → Nat) (w : World) (hn : n ≤ 9223372036854775807) (hn' : n' ≤ 9223372036854775807) (h : Raw w p n A L C) (h' : Raw w p' n' A' L' C') :
    Calls Trym.prog 21 #[.slice p n c, .slice p' n' c'] w fun e w' => Fits2 n L n' L' w e w' := by
  by_cases hbig : 1048576 < n
  · go_enter Trym.func21, Trym.ntmps21
    go_wp2
    go_ret
    exact Fits2.no _ _ _ _ _
  go_enter Trym.func21, Trym.ntmps21
  go_wp2
  go_loop [5, 6] (fun t i => ∃ k s : Nat, k ≤ n ∧ s ≤ 1048576 ∧ i = .int .i64 k ∧ t = .int .i64 s ∧ ∀ i, i < k → L i ≤ 1048576) (fun _ i => n - (intOf i).toNat)
  case atStart => exact ⟨0, n, Nat.zero_le _, by omega, rfl, rfl, fun i hi => absurd hi (Nat.not_lt_zero i)⟩
  case round =>
    obtain ⟨k, s, hk, hs, rfl, rfl, hL⟩ := hrel
    have HL : Hid (∀ i, i < k → L i ≤ 1048576) := hL
    clear hL
    by_cases hlt : k < n
    · obtain ⟨b, o, rfl, hc⟩ := h (by omega)
      obtain ⟨hck, hLk⟩ := hc k hlt
      clear hc h
      go_wp2
      · go_ret
        exact Fits2.no _ _ _ _ _
      · go_ret
        exact Fits2.no _ _ _ _ _
      · go_round
        case rel => exact ⟨k + 1, s + L k, by omega, by omega, by go_num, by go_num, fun i hi => by by_cases e : i = k; (· subst e; omega); (· exact HL.out i (by omega))⟩
        case measure => simp [intOf]; omega
    · by_cases hbig' : 1048576 < n'
      · go_wp2
        go_ret
        exact Fits2.no _ _ _ _ _
      by_cases hbig2 : 1048576 < s + n'
      · go_wp2
        go_ret
        exact Fits2.no _ _ _ _ _
      go_wp2
      go_loop [5, 7] (fun t i => ∃ k s : Nat, k ≤ n' ∧ s ≤ 1048576 ∧ i = .int .i64 k ∧ t = .int .i64 s ∧ ∀ i, i < k → L' i ≤ 1048576) (fun _ i => n' - (intOf i).toNat)
      case atStart => exact ⟨0, s + n', Nat.zero_le _, by omega, rfl, by go_num, fun i hi => absurd hi (Nat.not_lt_zero i)⟩
      case round =>
        obtain ⟨k', s', hk', hs', rfl, rfl, hL'⟩ := hrel
        have HL' : Hid (∀ i, i < k' → L' i ≤ 1048576) := hL'
        clear hL'
        by_cases hlt' : k' < n'
        · obtain ⟨b, o, rfl, hc⟩ := h' (by omega)
          obtain ⟨hck, hLk⟩ := hc k' hlt'
          clear hc h
          go_wp2
          · go_ret
            exact Fits2.no _ _ _ _ _
          · go_ret
            exact Fits2.no _ _ _ _ _
          · go_round
            case rel => exact ⟨k' + 1, s' + L' k', by omega, by omega, by go_num, by go_num, fun i hi => by by_cases e : i = k'; (· subst e; omega); (· exact HL'.out i (by omega))⟩
            case measure => simp [intOf]; omega
        · go_wp2
          go_ret
          exact Fits2.yes (by omega) (by omega) (fun i hi => HL.out i (by omega)) fun i hi => HL'.out i (by omega)

end Go.Proofs.Qxb6600170aMods
