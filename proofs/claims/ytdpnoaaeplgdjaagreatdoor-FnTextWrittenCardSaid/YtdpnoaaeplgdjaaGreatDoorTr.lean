/-
  THE WALK OF FnTruths: the functions of the thin package and of the package that truths come to, each once.
-/
import Derived.Test.YtdpnoaaeplgdjaaGreatDoorBase
import Derived.Deep.RegionHeld3
import Derived.Deep.QuietTactic
import Derived.BigQuiet
namespace Go.Proofs.YtdpnoaaeplgdjaaGreatDoor
open Go.RowKit
namespace Tr

/-- A truth as the thin package's value. -/
abbrev vb (a : Bool) : Array Value := #[.int .i64 1, .bool a, .string ⟨#[]⟩, .bool false, .slice none 0 0, .slice none 0 0, .bool false, .slice none 0 0, .slice none 0 0]

theorem sign3 (w : World) : Calls Tryz.prog 27 #[.int .i64 3] w fun e w' => e = .returned (.tuple #[.int .i64 43, .bool true]) ∧ Below w.heap.size w w' := by
  go_enter Tryz.func27, Tryz.ntmps27
  go_wp2
  go_ret2
  exact ⟨rfl, (Below.refl _ _).alloc (Nat.le_refl _) _⟩

theorem op10 (w : World) : Calls Tryz.prog 31 #[.int .i64 10] w fun e w' => e = .returned (.tuple #[.int .i64 34, .bool true]) ∧ Below w.heap.size w w' := by
  go_enter Tryz.func31, Tryz.ntmps31
  go_wp2
  go_ret2
  exact ⟨rfl, (Below.refl _ _).alloc (Nat.le_refl _) _⟩

theorem op11 (w : World) : Calls Tryz.prog 31 #[.int .i64 11] w fun e w' => e = .returned (.tuple #[.int .i64 35, .bool true]) ∧ Below w.heap.size w w' := by
  go_enter Tryz.func31, Tryz.ntmps31
  go_wp2
  go_ret2
  exact ⟨rfl, (Below.refl _ _).alloc (Nat.le_refl _) _⟩

theorem cmp0 (w : World) : Calls Tryz.prog 33 #[.int .i64 0] w fun e w' => e = .returned (.tuple #[.int .i64 39, .bool true]) ∧ Below w.heap.size w w' := by
  go_enter Tryz.func33, Tryz.ntmps33
  go_wp2
  go_ret2
  exact ⟨rfl, (Below.refl _ _).alloc (Nat.le_refl _) _⟩

theorem cmp1 (w : World) : Calls Tryz.prog 33 #[.int .i64 1] w fun e w' => e = .returned (.tuple #[.int .i64 44, .bool true]) ∧ Below w.heap.size w w' := by
  go_enter Tryz.func33, Tryz.ntmps33
  go_wp2
  go_ret2
  exact ⟨rfl, (Below.refl _ _).alloc (Nat.le_refl _) _⟩

theorem made_bool (a : Bool) (w : World) : Calls Tryz.prog 30 #[.agg (vb a)] w fun e w' => e = .returned (.iface 111 (.bool a)) ∧ Below w.heap.size w w' := by
  go_enter Tryz.func30, Tryz.ntmps30
  go_wp2
  go_ret
  exact ⟨rfl, (Below.refl _ _).alloc (Nat.le_refl _) _⟩

set_option maxRecDepth 100000 in
theorem told_bool (a : Bool) (w : World) : Calls Tryz.prog 28 #[.iface 111 (.bool a)] w fun e w' => e = .returned (.agg (vb a)) ∧ Below w.heap.size w w' := by
  go_enter Tryz.func28, Tryz.ntmps28
  go_wp2
  exact bodyPost_ret (v := .agg (vb a)) (by simp [results, Tryz.results28, go_sem]) rfl ⟨rfl, ((Below.refl _ _).alloc (Nat.le_refl _) _).alloc (by simp) _⟩

set_option maxRecDepth 100000 in
theorem bin_and (a b : Bool) (w : World) : Calls Tryz.prog 32 #[.iface 111 (.bool a), .int .i64 34, .iface 111 (.bool b)] w fun e w' => e = .returned (.iface 111 (.bool (a && b))) ∧ Below w.heap.size w w' := by
  cases a <;> cases b
  all_goals
    go_enter Tryz.func32, Tryz.ntmps32
    go_wp2
    go_step3
    go_wp2
    rw [Exit.noGoto_ret]
    go_ret
    exact ⟨rfl, Below.refl _ _⟩

set_option maxRecDepth 100000 in
theorem bin_or (a b : Bool) (w : World) : Calls Tryz.prog 32 #[.iface 111 (.bool a), .int .i64 35, .iface 111 (.bool b)] w fun e w' => e = .returned (.iface 111 (.bool (a || b))) ∧ Below w.heap.size w w' := by
  cases a <;> cases b
  all_goals
    go_enter Tryz.func32, Tryz.ntmps32
    go_wp2
    go_step3
    go_wp2
    rw [Exit.noGoto_ret]
    go_ret
    exact ⟨rfl, Below.refl _ _⟩

set_option maxRecDepth 100000 in
theorem un_not (a : Bool) (w : World) : Calls Tryz.prog 29 #[.int .i64 43, .iface 111 (.bool a), .int .u64 0] w fun e w' => e = .returned (.iface 111 (.bool (!a))) ∧ Below w.heap.size w w' := by
  cases a
  all_goals
    go_enter Tryz.func29, Tryz.ntmps29
    go_wp2
    go_step3
    go_wp2
    rw [Exit.noGoto_ret]
    go_ret
    exact ⟨rfl, Below.refl _ _⟩

set_option maxRecDepth 100000 in
theorem compare_eq (a b : Bool) (w : World) : Calls Tryz.prog 34 #[.iface 111 (.bool a), .int .i64 39, .iface 111 (.bool b)] w fun e w' => e = .returned (.bool (a == b)) ∧ Below w.heap.size w w' := by
  cases a <;> cases b
  all_goals
    go_enter Tryz.func34, Tryz.ntmps34
    go_wp2
    go_ret
    exact ⟨rfl, Below.refl _ _⟩

set_option maxRecDepth 100000 in
theorem compare_ne (a b : Bool) (w : World) : Calls Tryz.prog 34 #[.iface 111 (.bool a), .int .i64 44, .iface 111 (.bool b)] w fun e w' => e = .returned (.bool (a != b)) ∧ Below w.heap.size w w' := by
  cases a <;> cases b
  all_goals
    go_enter Tryz.func34, Tryz.ntmps34
    go_wp2
    go_ret
    exact ⟨rfl, Below.refl _ _⟩

end Tr
end Go.Proofs.YtdpnoaaeplgdjaaGreatDoor
