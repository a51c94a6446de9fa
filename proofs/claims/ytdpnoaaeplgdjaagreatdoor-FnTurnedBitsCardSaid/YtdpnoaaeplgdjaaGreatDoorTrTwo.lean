/-
  THE WALK OF FnTruths: the functions of the thin package and of the package that truths come to, each once.
-/
import Derived.Test.YtdpnoaaeplgdjaaGreatDoorBaseRg
import Derived.Deep.RegionHeld3
import Derived.Deep.QuietTactic
import Derived.BigQuiet
namespace Go.Proofs.YtdpnoaaeplgdjaaGreatDoor
open Go.RowKit
namespace Tr

/-- A truth as the thin package's value. -/
abbrev vb (a : Bool) : Array Value := #[.int .i64 1, .bool a, .string ⟨#[]⟩, .bool false, .slice none 0 0, .slice none 0 0, .bool false, .slice none 0 0, .slice none 0 0]

theorem sign3 (w : World) : Calls Tryz.prog 27 #[.int .i64 3] w fun e w' => e = .returned (.tuple #[.int .i64 43, .bool true]) ∧ Below w.heap.size w w' := by
  go_enter Tryz.func27, Tryz.ntmps27
  go_wp2
  go_ret2
  exact ⟨rfl, (Below.refl _ _).alloc (Nat.le_refl _) _⟩

theorem op10 (w : World) : Calls Tryz.prog 31 #[.int .i64 10] w fun e w' => e = .returned (.tuple #[.int .i64 34, .bool true]) ∧ Below w.heap.size w w' := by
  go_enter Tryz.func31, Tryz.ntmps31
  go_wp2
  go_ret2
  exact ⟨rfl, (Below.refl _ _).alloc (Nat.le_refl _) _⟩

theorem op11 (w : World) : Calls Tryz.prog 31 #[.int .i64 11] w fun e w' => e = .returned (.tuple #[.int .i64 35, .bool true]) ∧ Below w.heap.size w w' := by
  go_enter Tryz.func31, Tryz.ntmps31
  go_wp2
  go_ret2
  exact ⟨rfl, (Below.refl _ _).alloc (Nat.le_refl _) _⟩

theorem cmp0 (w : World) : Calls Tryz.prog 33 #[.int .i64 0] w fun e w' => e = .returned (.tuple #[.int .i64 39, .bool true]) ∧ Below w.heap.size w w' := by
  go_enter Tryz.func33, Tryz.ntmps33
  go_wp2
  go_ret2
  exact ⟨rfl, (Below.refl _ _).alloc (Nat.le_refl _) _⟩

theorem cmp1 (w : World) : Calls Tryz.prog 33 #[.int .i64 1] w fun e w' => e = .returned (.tuple #[.int .i64 44, .bool true]) ∧ Below w.heap.size w w' := by
  go_enter Tryz.func33, Tryz.ntmps33
  go_wp2
  go_ret2
  exact ⟨rfl, (Below.refl _ _).alloc (Nat.le_refl _) _⟩

theorem made_bool (a : Bool) (w : World) : Calls Tryz.prog 30 #[.agg (vb a)] w fun e w' => e = .returned (.iface 111 (.bool a)) ∧ Below w.heap.size w w' := by
  go_enter Tryz.func30, Tryz.ntmps30
  go_wp2
  go_ret
  exact ⟨rfl, (Below.refl _ _).alloc (Nat.le_refl _) _⟩

set_option maxRecDepth 100000 in
theorem told_bool (a : Bool) (w : World) : Calls Tryz.prog 28 #[.iface 111 (.bool a)] w fun e w' => e = .returned (.agg (vb a)) ∧ Below w.heap.size w w' := by
  go_enter Tryz.func28, Tryz.ntmps28
  go_wp2
  exact bodyPost_ret (v := .agg (vb a)) (by simp [results, Tryz.results28, go_sem]) rfl ⟨rfl, ((Below.refl _ _).alloc (Nat.le_refl _) _).alloc (by simp) _⟩

set_option maxRecDepth 100000 in
theorem bin_and (a b : Bool) (w : World) : Calls Tryz.prog 32 #[.iface 111 (.bool a), .int .i64 34, .iface 111 (.bool b)] w fun e w' => e = .returned (.iface 111 (.bool (a && b))) ∧ Below w.heap.size w w' := by
  cases a <;> cases b
  all_goals
    go_enter Tryz.func32, Tryz.ntmps32
    go_wp2
    go_step3
    go_wp2
    rw [Exit.noGoto_ret]
    go_ret
    exact ⟨rfl, Below.refl _ _⟩

set_option maxRecDepth 100000 in
theorem bin_or (a b : Bool) (w : World) : Calls Tryz.prog 32 #[.iface 111 (.bool a), .int .i64 35, .iface 111 (.bool b)] w fun e w' => e = .returned (.iface 111 (.bool (a || b))) ∧ Below w.heap.size w w' := by
  cases a <;> cases b
  all_goals
    go_enter Tryz.func32, Tryz.ntmps32
    go_wp2
    go_step3
    go_wp2
    rw [Exit.noGoto_ret]
    go_ret
    exact ⟨rfl, Below.refl _ _⟩

set_option maxRecDepth 100000 in
theorem un_not (a : Bool) (w : World) : Calls Tryz.prog 29 #[.int .i64 43, .iface 111 (.bool a), .int .u64 0] w fun e w' => e = .returned (.iface 111 (.bool (!a))) ∧ Below w.heap.size w w' := by
  cases a
  all_goals
    go_enter Tryz.func29, Tryz.ntmps29
    go_wp2
    go_step3
    go_wp2
    rw [Exit.noGoto_ret]
    go_ret
    exact ⟨rfl, Below.refl _ _⟩

set_option maxRecDepth 100000 in
theorem compare_eq (a b : Bool) (w : World) : Calls Tryz.prog 34 #[.iface 111 (.bool a), .int .i64 39, .iface 111 (.bool b)] w fun e w' => e = .returned (.bool (a == b)) ∧ Below w.heap.size w w' := by
  cases a <;> cases b
  all_goals
    go_enter Tryz.func34, Tryz.ntmps34
    go_wp2
    go_ret
    exact ⟨rfl, Below.refl _ _⟩

set_option maxRecDepth 100000 in
theorem compare_ne (a b : Bool) (w : World) : Calls Tryz.prog 34 #[.iface 111 (.bool a), .int .i64 44, .iface 111 (.bool b)] w fun e w' => e = .returned (.bool (a != b)) ∧ Below w.heap.size w w' := by
  cases a <;> cases b
  all_goals
    go_enter Tryz.func34, Tryz.ntmps34
    go_wp2
    go_ret
    exact ⟨rfl, Below.refl _ _⟩

end Tr
end Go.Proofs.YtdpnoaaeplgdjaaGreatDoor
/-
  THE WALK OF FnTruths, second part: the thin package's calls.
-/
namespace Go.Proofs.YtdpnoaaeplgdjaaGreatDoor
open Go.RowKit
namespace Tr
open Rg

abbrev v0 : Array Value := #[.int .i64 0, .bool false, .string ⟨#[]⟩, .bool false, .slice none 0 0, .slice none 0 0, .bool false, .slice none 0 0, .slice none 0 0]

theorem three (w : World) (x y z : Array Value) : Blk (((w.alloc (.cells x 41)).alloc (.cells y 41)).alloc (.cells z 41)) w.heap.size 41 x ∧
    Blk (((w.alloc (.cells x 41)).alloc (.cells y 41)).alloc (.cells z 41)) (w.heap.size + 1) 41 y ∧ Blk (((w.alloc (.cells x 41)).alloc (.cells y 41)).alloc (.cells z 41)) (w.heap.size + 1 + 1) 41 z := by
  refine ⟨((Blk.new w 41 x).alloc _).alloc _, ?_, ?_⟩
  · have := (Blk.new (w.alloc (.cells x 41)) 41 y).alloc (.cells z 41)
    simpa using this
  · have := Blk.new ((w.alloc (.cells x 41)).alloc (.cells y 41)) 41 z
    simpa using this

theorem ret_blk {f : Func} {p : Tmp} {R : Ending → World → Prop} {a : Act} {w : World} (h : f.results = #[.cell p 41]) (hd : a.defers = []) {g : Nat} {cs : Array Value} (hp : a.tmps.getD p undef = .pointer (some ⟨g, 0, none⟩)) (hg : Blk w g 41 cs) (hs : cs.size = 9)
    (hR : R (.returned (.agg cs)) w) : bodyPost Tryz.prog f R .ret a w :=
  bodyPost_ret (results_cell_row h a.tmps w g 41 cs (0, 0) _ hp hg Tryz.underlying41 rfl (by rw [hs]; exact size41)) hd hR

set_option maxRecDepth 100000 in
set_option maxHeartbeats 1600000 in
theorem binary_and (a b : Bool) (w : World) : Calls Tryz.prog 16 #[.int .i64 10, .agg (vb a), .agg (vb b)] w fun e w' => e = .returned (.agg (vb (a && b))) ∧ Below w.heap.size w w' := by
  obtain ⟨hA, hB, hC⟩ := three w (vb a) (vb b) v0
  have hb0 : Below w.heap.size w (((w.alloc (.cells (vb a) 41)).alloc (.cells (vb b) 41)).alloc (.cells v0 41)) := (((Below.refl _ _).alloc (Nat.le_refl _) _).alloc (by simp) _).alloc (by simp; omega) _
  go_enter Tryz.func16, Tryz.ntmps16
  go_wp2_with (go_at_call 31; refine (op10 _).mono ?_; rintro e w1 ⟨rfl, hb1⟩)
  have hA1 := hA.below hb1 (by simp; omega)
  have hB1 := hB.below hb1 (by simp)
  have hC1 := (hC.below hb1 (by simp)).slot
  have hb2 := below_step hb0 hb1
  clear hA hB hC hb0 hb1
  go_region_held3 (fun w' => (∀ j, w'.cell? ⟨w.heap.size, j, none⟩ = (vb a)[j]?) ∧ (∀ j, w'.cell? ⟨w.heap.size + 1, j, none⟩ = (vb b)[j]?) ∧ Slot w' (w.heap.size + 1 + 1) 41 9 ∧ Only w1 (w.heap.size + 1 + 1) 41 9 w')
    (first
      | (exact ⟨hA1.cells, hB1.cells, hC1, Only.start hC1⟩)
      | (go_split_ands; exact ⟨(Only.below (by assumption) hb3).cells hA1 (by omega), (Only.below (by assumption) hb3).cells hB1 (by omega), (Only.below (by assumption) hb3).slot, Only.below (by assumption) hb3⟩)
      | (go_split_ands; refine (fun hO => ⟨hO.cells hA1 (by omega), hO.cells hB1 (by omega), hO.slot, hO⟩ : Only w1 (w.heap.size + 1 + 1) 41 9 _ → _) (Only.setRow (by assumption) rfl)))
    (first
      | (go_at_call 30; refine (made_bool _ _).mono ?_; rintro e w' ⟨rfl, hb3⟩) | (go_at_call 32; refine (bin_and _ _ _).mono ?_; rintro e w' ⟨rfl, hb3⟩) | (go_at_call 28; refine (told_bool _ _).mono ?_; rintro e w' ⟨rfl, hb3⟩))
  rename_i hh
  obtain ⟨_, _, hs, ho⟩ := hh
  go_wp2
  exact ret_blk (cs := vb (a && b)) rfl rfl rfl hs.row rfl ⟨rfl, below_only hb2 ho.grown (by omega)⟩

end Tr
end Go.Proofs.YtdpnoaaeplgdjaaGreatDoor
