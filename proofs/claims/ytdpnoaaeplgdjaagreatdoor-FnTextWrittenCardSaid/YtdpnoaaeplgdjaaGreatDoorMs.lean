/-
  THE WALKS OF constant.MakeString, StringVal, MakeFromLiteral at a text, strconv.Unquote, impl.told at a text, impl.Literal.
-/
import Derived.Test.YtdpnoaaeplgdjaaGreatDoorTr2
import Derived.Test.YtdpnoaaeplgdjaaGreatDoorLk
import Derived.Test.YtdpnoaaeplgdjaaGreatDoorUn
namespace Go.Proofs.YtdpnoaaeplgdjaaGreatDoor
open Go.MuLone Go.RowKit
namespace Tx
open Rg Tr

/-- The cells of a stringVal that holds its text. -/
abbrev sv (s : ByteArray) : Array Value := #[.int .i32 0, .int .u32 0, .string s, .pointer none, .pointer none]
/-- A value of kind String. -/
abbrev vs (s : ByteArray) : Array Value := #[.int .i64 2, .bool false, .string s, .bool false, .slice none 0 0, .slice none 0 0, .bool false, .slice none 0 0, .slice none 0 0]

theorem make_string (s : ByteArray) (w : World) : Calls Tryz.prog 65 #[.string s] w fun e w' => e = .returned (.iface 125 (.pointer (some ⟨w.heap.size, 0, none⟩))) ∧ w' = w.alloc (.cells (sv s) 133) := by
  by_cases h : s.toList.isEmpty = true
  · have h' : s = ⟨#[]⟩ := by
      have h2 := List.isEmpty_iff.1 h
      rw [Lib.toList_data] at h2
      exact ByteArray.ext (Array.toList_inj.1 (by rw [h2]))
    subst h'
    go_enter Tryz.func65, Tryz.ntmps65
    go_wp2
    go_ret
    exact ⟨rfl, rfl⟩
  · have h' : s.toList.isEmpty = false := by simpa using h
    clear h
    go_enter Tryz.func65, Tryz.ntmps65
    go_wp2
    go_ret
    exact ⟨rfl, rfl⟩

theorem string_val (b : Nat) (s : ByteArray) (w : World) (hb : Rg.Blk w b 133 (sv s)) :
    Calls Tryz.prog 46 #[.iface 125 (.pointer (some ⟨b, 0, none⟩))] w fun e w' => e = .returned (.string s) ∧ w' = (w.setCell ⟨b, 0, none⟩ (.int .i32 1)).setCell ⟨b, 0, none⟩ (.int .i32 0) := by
  go_enter Tryz.func46, Tryz.ntmps46
  go_wp2_with (go_at_call 100; refine (string_any b 0 s _ (hb.cell 0) (hb.cell 2) (hb.cell 3) (hb.frozen 0)).mono ?_; rintro e w' ⟨rfl, rfl⟩)
  go_ret
  exact ⟨rfl, rfl⟩

theorem told_string (b : Nat) (s : ByteArray) (w : World) (hb : Rg.Blk w b 133 (sv s)) :
    Calls Tryz.prog 28 #[.iface 125 (.pointer (some ⟨b, 0, none⟩))] w fun e w' => e = .returned (.agg (vs s)) ∧ Below b w w' := by
  have hlt := hb.lt
  have hne : w.heap.size ≠ b := by omega
  have hne1 : w.heap.size + 1 ≠ b := by omega
  go_enter Tryz.func28, Tryz.ntmps28
  go_wp2_with (first | (go_at_call 46; refine (string_val b s _ ((hb.alloc _).alloc _)).mono ?_; rintro e w' ⟨rfl, rfl⟩) | go_in)
  have hw := (((Below.refl b w).setCell (p := ⟨b, 0, none⟩) (Nat.le_refl _) (.int .i32 1)).setCell (p := ⟨b, 0, none⟩) (Nat.le_refl _) (.int .i32 0)).alloc (by simp; omega) (.cells (vs s) 41)
  have hw2 := hw.alloc (by simp; omega) (.cells (vs s) 41)
  exact bodyPost_ret (v := .agg (vs s)) (by simp [results, Tryz.results28, go_sem]) rfl ⟨rfl, hw2⟩

theorem unquote_of (s r : ByteArray) (w : World) (h : ∀ w, Calls Tryz.prog 178 #[.string s, .bool true] w fun e w' => e = .returned (.tuple #[.string r, .string ByteArray.empty, .nilIface]) ∧ Below w.heap.size w w') :
    Calls Tryz.prog 106 #[.string s] w fun e w' => e = .returned (.tuple #[.string r, .nilIface]) ∧ Below w.heap.size w w' := by
  go_enter Tryz.func106, Tryz.ntmps106
  go_wp2_with (go_at_call 178; refine (h _).mono ?_; rintro e w1 ⟨rfl, hb⟩)
  go_ret2
  exact ⟨rfl, hb⟩

set_option maxRecDepth 100000 in
theorem from_literal (s r : ByteArray) (w : World) (h : ∀ w, Calls Tryz.prog 178 #[.string s, .bool true] w fun e w' => e = .returned (.tuple #[.string r, .string ByteArray.empty, .nilIface]) ∧ Below w.heap.size w w') :
    Calls Tryz.prog 35 #[.string s, .int .i64 9, .int .u64 0] w fun e w' => ∃ b, e = .returned (.iface 125 (.pointer (some ⟨b, 0, none⟩))) ∧ w.heap.size ≤ b ∧ Rg.Blk w' b 133 (sv r) ∧ Below w.heap.size w w' := by
  go_enter Tryz.func35, Tryz.ntmps35
  go_wp2_with (first | (go_at_call 106; refine (unquote_of s r _ h).mono ?_; rintro e w1 ⟨rfl, hb⟩) | (go_at_call 65; refine (make_string r _).mono ?_; rintro e w2 ⟨rfl, rfl⟩))
  go_ret
  exact ⟨_, rfl, hb.size, Rg.Blk.new _ _ _, hb.alloc hb.size _⟩

set_option maxRecDepth 100000 in
theorem literal_of (s r : ByteArray) (w : World) (h : ∀ w, Calls Tryz.prog 178 #[.string s, .bool true] w fun e w' => e = .returned (.tuple #[.string r, .string ByteArray.empty, .nilIface]) ∧ Below w.heap.size w w') :
    Calls Tryz.prog 18 #[.string s, .int .i64 4] w fun e w' => e = .returned (.agg (vs r)) ∧ Below w.heap.size w w' := by
  go_enter Tryz.func18, Tryz.ntmps18
  go_wp2_with fail
  refine (from_literal s r _ h).mono ?_
  rintro e w1 ⟨b, rfl, hsz, hblk, hb⟩
  simp only [Uq.alloc_sz] at hsz
  go_wp2_with fail
  refine (told_string b r _ hblk).mono ?_
  rintro e w2 ⟨rfl, hb2⟩
  have cC : Slot w2 w.heap.size 41 9 := (((Blk.new w 41 v0).alloc _).slot.below hb (by simp only [Uq.alloc_sz]; omega)).below hb2 (by omega)
  have hb0 : Below w.heap.size w ((w.alloc (.cells v0 41)).alloc (.cells #[.int .i64 5, .int .i64 6, .int .i64 7, .int .i64 8, .int .i64 9] 57)) := ((Below.refl _ _).alloc (Nat.le_refl _) _).alloc (by simp) _
  have hb5 : Below w.heap.size w w2 := (below_step hb0 hb).trans (hb2.mono (by omega))
  clear hb hb2 hb0 hblk
  go_wp2
  have hr := (show Slot (w2.setRow w.heap.size (vs r)) w.heap.size 41 9 from let ⟨_, h, _⟩ := cC; ⟨_, h.setRow_same _, rfl⟩).row
  exact ret_blk (cs := vs r) rfl rfl rfl hr rfl ⟨rfl, below_row hb5 (Nat.le_refl _) _⟩
end Tx
end Go.Proofs.YtdpnoaaeplgdjaaGreatDoor
