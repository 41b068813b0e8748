/-
  Small contracts over the project's functions: each is a theorem over 'Calls'.
-/
import Derived.Test.Qxb6600170aModsProg
import Derived.WalkKit
import Derived.WalkSpells
import Derived.WalkLawsBesides
import Derived.Deep.QuietTactic
import Derived.BigQuiet
import Derived.Deep.LoopGhost
namespace Go.Proofs.Qxb6600170aMods
set_option linter.unusedVariables false
set_option linter.unusedSimpArgs false
open Go.RowKit

set_option maxHeartbeats 400000 in
theorem length_at (b : Nat) (n : Int) (w : World) (h : w.cell? ⟨b, 2, none⟩ = some (.int .i64 n)) :
    Calls Trym.prog 27 #[.pointer (some ⟨b, 0, none⟩)] w fun e w' => e = .returned (.int .i64 n) ∧ w' = w := by
  go_enter Trym.func27, Trym.ntmps27
  go_wp2
  go_ret
  exact ⟨rfl, rfl⟩

set_option maxHeartbeats 400000 in
theorem length_nil (w : World) :
    Calls Trym.prog 27 #[.pointer none] w fun e w' => e = .returned (.int .i64 0) ∧ w' = w := by
  go_enter Trym.func27, Trym.ntmps27
  go_wp2
  go_ret
  exact ⟨rfl, rfl⟩

set_option maxHeartbeats 400000 in
theorem zzlength_at (b : Nat) (n : Int) (w : World) (h : w.cell? ⟨b, 2, none⟩ = some (.int .i64 n)) :
    Calls Trym.prog 20 #[.pointer (some ⟨b, 0, none⟩)] w fun e w' => e = .returned (.int .i64 n) ∧ w' = w := by
  go_enter Trym.func20, Trym.ntmps20
  go_wp2
  go_ret
  exact ⟨rfl, rfl⟩

set_option maxHeartbeats 400000 in
theorem zzparent_at (b : Nat) (v : Option Addr) (w : World) (h : w.cell? ⟨b, 0, none⟩ = some (.pointer v)) :
    Calls Trym.prog 19 #[.pointer (some ⟨b, 0, none⟩)] w fun e w' => e = .returned (.pointer v) ∧ w' = w := by
  go_enter Trym.func19, Trym.ntmps19
  go_wp2
  go_ret
  exact ⟨rfl, rfl⟩

set_option maxHeartbeats 400000 in
theorem zzid_at (b : Nat) (n : Int) (w : World) (h : w.cell? ⟨b, 3, none⟩ = some (.int .u64 n)) :
    Calls Trym.prog 18 #[.pointer (some ⟨b, 0, none⟩)] w fun e w' => e = .returned (.int .u64 n) ∧ w' = w := by
  go_enter Trym.func18, Trym.ntmps18
  go_wp2
  go_ret
  exact ⟨rfl, rfl⟩

set_option maxHeartbeats 400000 in
theorem zzcount_at (b : Nat) (a : Option Addr) (n c : Nat) (w : World) (h : w.cell? ⟨b, 0, none⟩ = some (.slice a n c)) :
    Calls Trym.prog 13 #[.pointer (some ⟨b, 0, none⟩)] w fun e w' => e = .returned (.int .i64 n) ∧ w' = w := by
  go_enter Trym.func13, Trym.ntmps13
  go_wp2
  go_ret
  exact ⟨rfl, rfl⟩

set_option maxHeartbeats 400000 in
theorem zzat_at (b g : Nat) (n c i : Nat) (v : Option Addr) (w : World) (hi : i < n) (h : w.cell? ⟨b, 0, none⟩ = some (.slice (some ⟨g, 0, none⟩) n c)) (hc : w.cell? ⟨g, i, none⟩ = some (.pointer v)) :
    Calls Trym.prog 15 #[.pointer (some ⟨b, 0, none⟩), .int .i64 i] w fun e w' => e = .returned (.pointer v) ∧ w' = w := by
  go_enter Trym.func15, Trym.ntmps15
  go_wp2
  go_ret
  exact ⟨rfl, rfl⟩

set_option maxHeartbeats 400000 in
theorem minint_any (a b : Int) (w : World) :
    Calls Trym.prog 23 #[.int .i64 a, .int .i64 b] w fun e w' => e = .returned (.int .i64 (min a b)) ∧ w' = w := by
  by_cases h : a < b
  · have hm : min a b = a := by omega
    rw [hm]; clear hm
    go_enter Trym.func23, Trym.ntmps23
    go_wp2
    go_ret
    exact ⟨rfl, rfl⟩
  · have hm : min a b = b := by omega
    rw [hm]; clear hm
    go_enter Trym.func23, Trym.ntmps23
    go_wp2
    go_ret
    exact ⟨rfl, rfl⟩

set_option maxHeartbeats 400000 in
theorem newroot_any (w : World) :
    Calls Trym.prog 11 #[] w fun e w' => e = .returned (.pointer (some ⟨w.heap.size, 0, none⟩)) ∧ w' = w.alloc (.cells #[.pointer none, .slice none 0 0, .int .i64 0, .int .u64 0, .slice none 0 0] 50) := by
  go_enter Trym.func11, Trym.ntmps11
  go_wp2
  go_ret
  exact ⟨rfl, rfl⟩

set_option maxHeartbeats 400000 in
theorem newseqs_any (v : Option Addr) (w : World) :
    Calls Trym.prog 12 #[.pointer v] w fun e w' => e = .returned (.pointer (some ⟨w.heap.size + 1, 0, none⟩)) ∧
      w' = (w.alloc (.cells #[.pointer v] 28)).alloc (.cells #[.slice (some ⟨w.heap.size, 0, none⟩) 1 1] 52) := by
  go_enter Trym.func12, Trym.ntmps12
  go_wp2
  go_ret
  exact ⟨rfl, rfl⟩

end Go.Proofs.Qxb6600170aMods
