/-
  THE WALK OF FnTruths, second part: the thin package's calls.
-/
import Derived.Test.YtdpnoaaeplgdjaaGreatDoorTr2
namespace Go.Proofs.YtdpnoaaeplgdjaaGreatDoor
open Go.RowKit
namespace Tr
open Rg

set_option maxRecDepth 100000 in
set_option maxHeartbeats 1600000 in
theorem binary_or (a b : Bool) (w : World) : Calls Tryz.prog 16 #[.int .i64 11, .agg (vb a), .agg (vb b)] w fun e w' => e = .returned (.agg (vb (a || b))) ∧ Below w.heap.size w w' := by
  obtain ⟨hA, hB, hC⟩ := three w (vb a) (vb b) v0
  have hb0 : Below w.heap.size w (((w.alloc (.cells (vb a) 41)).alloc (.cells (vb b) 41)).alloc (.cells v0 41)) := (((Below.refl _ _).alloc (Nat.le_refl _) _).alloc (by simp) _).alloc (by simp; omega) _
  go_enter Tryz.func16, Tryz.ntmps16
  go_wp2_with (go_at_call 31; refine (op11 _).mono ?_; rintro e w1 ⟨rfl, hb1⟩)
  have hA1 := hA.below hb1 (by simp; omega)
  have hB1 := hB.below hb1 (by simp)
  have hC1 := (hC.below hb1 (by simp)).slot
  have hb2 := below_step hb0 hb1
  clear hA hB hC hb0 hb1
  go_region_held3 (fun w' => (∀ j, w'.cell? ⟨w.heap.size, j, none⟩ = (vb a)[j]?) ∧ (∀ j, w'.cell? ⟨w.heap.size + 1, j, none⟩ = (vb b)[j]?) ∧ Slot w' (w.heap.size + 1 + 1) 41 9 ∧ Only w1 (w.heap.size + 1 + 1) 41 9 w')
    (first
      | (exact ⟨hA1.cells, hB1.cells, hC1, Only.start hC1⟩)
      | (go_split_ands; exact ⟨(Only.below (by assumption) hb3).cells hA1 (by omega), (Only.below (by assumption) hb3).cells hB1 (by omega), (Only.below (by assumption) hb3).slot, Only.below (by assumption) hb3⟩)
      | (go_split_ands; refine (fun hO => ⟨hO.cells hA1 (by omega), hO.cells hB1 (by omega), hO.slot, hO⟩ : Only w1 (w.heap.size + 1 + 1) 41 9 _ → _) (Only.setRow (by assumption) rfl)))
    (first
      | (go_at_call 30; refine (made_bool _ _).mono ?_; rintro e w' ⟨rfl, hb3⟩) | (go_at_call 32; refine (bin_or _ _ _).mono ?_; rintro e w' ⟨rfl, hb3⟩) | (go_at_call 28; refine (told_bool _ _).mono ?_; rintro e w' ⟨rfl, hb3⟩))
  rename_i hh
  obtain ⟨_, _, hs, ho⟩ := hh
  go_wp2
  exact ret_blk (cs := vb (a || b)) rfl rfl rfl hs.row rfl ⟨rfl, below_only hb2 ho.grown (by omega)⟩

set_option maxRecDepth 100000 in
set_option maxHeartbeats 1600000 in
theorem unary_not (a : Bool) (w : World) : Calls Tryz.prog 15 #[.int .i64 3, .agg (vb a), .int .u64 0] w fun e w' => e = .returned (.agg (vb (!a))) ∧ Below w.heap.size w w' := by
  have hA : Blk ((w.alloc (.cells (vb a) 41)).alloc (.cells v0 41)) w.heap.size 41 (vb a) := (Blk.new w 41 (vb a)).alloc _
  have hC : Blk ((w.alloc (.cells (vb a) 41)).alloc (.cells v0 41)) (w.heap.size + 1) 41 v0 := by
    have := Blk.new (w.alloc (.cells (vb a) 41)) 41 v0
    simpa using this
  have hb0 : Below w.heap.size w ((w.alloc (.cells (vb a) 41)).alloc (.cells v0 41)) := ((Below.refl _ _).alloc (Nat.le_refl _) _).alloc (by simp) _
  go_enter Tryz.func15, Tryz.ntmps15
  go_wp2_with (go_at_call 27; refine (sign3 _).mono ?_; rintro e w1 ⟨rfl, hb1⟩; have cA := (hA.below hb1 (by simp <;> omega)).cells)
  refine (made_bool _ _).mono ?_
  rintro e w2 ⟨rfl, hb2⟩
  clear cA
  go_wp2_with fail
  refine (un_not _ _).mono ?_
  rintro e w3 ⟨rfl, hb3⟩
  go_wp2_with fail
  refine (told_bool _ _).mono ?_
  rintro e w4 ⟨rfl, hb4⟩
  have cC : Slot w4 (w.heap.size + 1) 41 9 := (((hC.slot.below hb1 (by simp)).below' hb2).below' hb3).below' hb4
  have hb5 := below_step (below_step (below_step (below_step hb0 hb1) hb2) hb3) hb4
  clear hb1 hb2 hb3 hb4 hA hC hb0
  go_wp2
  have hr := (show Slot (w4.setRow (w.heap.size + 1) (vb (!a))) (w.heap.size + 1) 41 9 from let ⟨_, h, _⟩ := cC; ⟨_, h.setRow_same _, rfl⟩).row
  exact ret_blk (cs := vb (!a)) rfl rfl rfl hr rfl ⟨rfl, below_row hb5 (by omega) _⟩

set_option maxRecDepth 100000 in
set_option maxHeartbeats 1600000 in
theorem compare_eq' (a b : Bool) (w : World) : Calls Tryz.prog 17 #[.int .i64 0, .agg (vb a), .agg (vb b)] w fun e w' => e = .returned (.bool (a == b)) ∧ Below w.heap.size w w' := by
  have hA : Blk ((w.alloc (.cells (vb a) 41)).alloc (.cells (vb b) 41)) w.heap.size 41 (vb a) := (Blk.new w 41 (vb a)).alloc _
  have hB : Blk ((w.alloc (.cells (vb a) 41)).alloc (.cells (vb b) 41)) (w.heap.size + 1) 41 (vb b) := by
    have := Blk.new (w.alloc (.cells (vb a) 41)) 41 (vb b)
    simpa using this
  have hb0 : Below w.heap.size w ((w.alloc (.cells (vb a) 41)).alloc (.cells (vb b) 41)) := ((Below.refl _ _).alloc (Nat.le_refl _) _).alloc (by simp) _
  go_enter Tryz.func17, Tryz.ntmps17
  go_wp2_with (go_at_call 33; refine (cmp0 _).mono ?_; rintro e w1 ⟨rfl, hb1⟩)
  have hA1 := hA.below hb1 (by simp; omega)
  have hB1 := hB.below hb1 (by simp)
  have hb2 := below_step hb0 hb1
  clear hA hB hb0 hb1
  go_region_held3 (fun w' => (∀ j, w'.cell? ⟨w.heap.size, j, none⟩ = (vb a)[j]?) ∧ (∀ j, w'.cell? ⟨w.heap.size + 1, j, none⟩ = (vb b)[j]?) ∧ w1.grownBy w' none)
    (first
      | (exact ⟨hA1.cells, hB1.cells, only_drew (World.grownBy.refl _ _)⟩)
      | (go_split_ands; exact ⟨(hA1.grown (only_below (by assumption) hb3) (by simp)).cells, (hB1.grown (only_below (by assumption) hb3) (by simp)).cells, only_below (by assumption) hb3⟩))
    (first
      | (go_at_call 30; refine (made_bool _ _).mono ?_; rintro e w' ⟨rfl, hb3⟩) | (go_at_call 34; refine (compare_eq _ _ _).mono ?_; rintro e w' ⟨rfl, hb3⟩))
  rename_i hh
  obtain ⟨_, _, ho⟩ := hh
  go_wp2
  go_ret
  exact ⟨rfl, below_only_none hb2 ho⟩

set_option maxRecDepth 100000 in
set_option maxHeartbeats 1600000 in
theorem compare_ne' (a b : Bool) (w : World) : Calls Tryz.prog 17 #[.int .i64 1, .agg (vb a), .agg (vb b)] w fun e w' => e = .returned (.bool (a != b)) ∧ Below w.heap.size w w' := by
  have hA : Blk ((w.alloc (.cells (vb a) 41)).alloc (.cells (vb b) 41)) w.heap.size 41 (vb a) := (Blk.new w 41 (vb a)).alloc _
  have hB : Blk ((w.alloc (.cells (vb a) 41)).alloc (.cells (vb b) 41)) (w.heap.size + 1) 41 (vb b) := by
    have := Blk.new (w.alloc (.cells (vb a) 41)) 41 (vb b)
    simpa using this
  have hb0 : Below w.heap.size w ((w.alloc (.cells (vb a) 41)).alloc (.cells (vb b) 41)) := ((Below.refl _ _).alloc (Nat.le_refl _) _).alloc (by simp) _
  go_enter Tryz.func17, Tryz.ntmps17
  go_wp2_with (go_at_call 33; refine (cmp1 _).mono ?_; rintro e w1 ⟨rfl, hb1⟩)
  have hA1 := hA.below hb1 (by simp; omega)
  have hB1 := hB.below hb1 (by simp)
  have hb2 := below_step hb0 hb1
  clear hA hB hb0 hb1
  go_region_held3 (fun w' => (∀ j, w'.cell? ⟨w.heap.size, j, none⟩ = (vb a)[j]?) ∧ (∀ j, w'.cell? ⟨w.heap.size + 1, j, none⟩ = (vb b)[j]?) ∧ w1.grownBy w' none)
    (first
      | (exact ⟨hA1.cells, hB1.cells, only_drew (World.grownBy.refl _ _)⟩)
      | (go_split_ands; exact ⟨(hA1.grown (only_below (by assumption) hb3) (by simp)).cells, (hB1.grown (only_below (by assumption) hb3) (by simp)).cells, only_below (by assumption) hb3⟩))
    (first
      | (go_at_call 30; refine (made_bool _ _).mono ?_; rintro e w' ⟨rfl, hb3⟩) | (go_at_call 34; refine (compare_ne _ _ _).mono ?_; rintro e w' ⟨rfl, hb3⟩))
  rename_i hh
  obtain ⟨_, _, ho⟩ := hh
  go_wp2
  go_ret
  exact ⟨rfl, below_only_none hb2 ho⟩

end Tr
end Go.Proofs.YtdpnoaaeplgdjaaGreatDoor
