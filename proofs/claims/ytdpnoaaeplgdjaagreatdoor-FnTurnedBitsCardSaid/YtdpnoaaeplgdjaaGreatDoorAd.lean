/-
  THE WALK OF addVV, subVV at one word, addVW, subVW behind it, and nat's add and sub of 1.
-/
import Derived.Test.YtdpnoaaeplgdjaaGreatDoorWoKN
import Derived.StillTailTactics
import Derived.Deep.QuietTactic
import Derived.Laws.Externs
namespace Go.Proofs.YtdpnoaaeplgdjaaGreatDoor
open Go.RowKit
namespace Wa

theorem call305 (x y c : Nat) (hc : c ≤ 1) (w : World) : (callFunc 305 #[.int .u64 (x : Int), .int .u64 (y : Int), .int .u64 (c : Int)]).run Tryz.prog w =
    .ok (.value (.tuple #[.int .u64 (((x + y + c) % 18446744073709551616 : Nat) : Int), .int .u64 (((x + y + c) / 18446744073709551616 : Nat) : Int)])) w := by
  rw [run_callFunc_extern Tryz.func305 (by kernel_rfl) (by kernel_rfl) (by kernel_rfl) (e := add64Entry) (by kernel_rfl), run_add64 x y c (by omega) (by omega) (by omega) (by omega)]
  simp only [Result.andThen]
  congr 5 <;> omega

set_option maxRecDepth 100000 in
set_option maxHeartbeats 1600000 in
theorem bitsAdd (x y c : Nat) (hc : c ≤ 1) (w : World) :
    Calls Tryz.prog 249 #[.int .u64 (x : Int), .int .u64 (y : Int), .int .u64 (c : Int)] w fun e w' => e = .returned (.tuple #[.int .u64 (((x + y + c) % 18446744073709551616 : Nat) : Int), .int .u64 (((x + y + c) / 18446744073709551616 : Nat) : Int)]) ∧ w' = w := by
  have H := call305 x y c hc w
  obtain ⟨s, hs⟩ : ∃ s : Int, (((x + y + c) % 18446744073709551616 : Nat) : Int) = s := ⟨_, rfl⟩
  obtain ⟨d, hd⟩ : ∃ d : Int, (((x + y + c) / 18446744073709551616 : Nat) : Int) = d := ⟨_, rfl⟩
  obtain ⟨X, hX⟩ : ∃ X : Int, (x : Int) = X := ⟨_, rfl⟩
  obtain ⟨Y, hY⟩ : ∃ Y : Int, (y : Int) = Y := ⟨_, rfl⟩
  obtain ⟨C, hC⟩ : ∃ C : Int, (c : Int) = C := ⟨_, rfl⟩
  rw [hs, hd, hX, hY, hC] at H
  rw [hs, hd, hX, hY, hC]
  clear hs hd hX hY hC hc
  go_enter Tryz.func249, Tryz.ntmps249
  go_wp2_with (rw [H])
  go_ret2
  exact ⟨rfl, rfl⟩

theorem run_sub64 {P : Program} (x y b : Nat) (hb : b ≤ 1) (w : World) : ((fun args : Array Value => do
  let (x, y, b) ← Extern.MathBitsCarry.three "Sub64" args
  pure (Extern.MathBitsCarry.pair ((x + Extern.MathBitsCarry.m64 - y - b) % Extern.MathBitsCarry.m64) (if x < y + b then 1 else 0)) : Array Value → Sem Value) #[.int .u64 x, .int .u64 y, .int .u64 b]).run P w =
      .ok (.tuple #[.int .u64 (((x + 18446744073709551616 - y - b) % 18446744073709551616 : Nat) : Int), .int .u64 ((if x < y + b then 1 else 0 : Nat) : Int)]) w := by
  have : b = 0 ∨ b = 1 := by omega
  rcases this with rfl | rfl <;> rfl
theorem call303 (x y c : Nat) (hc : c ≤ 1) (w : World) : (callFunc 303 #[.int .u64 (x : Int), .int .u64 (y : Int), .int .u64 (c : Int)]).run Tryz.prog w =
    .ok (.value (.tuple #[.int .u64 (((x + 18446744073709551616 - y - c) % 18446744073709551616 : Nat) : Int), .int .u64 ((if x < y + c then 1 else 0 : Nat) : Int)])) w := by
  rw [run_callFunc_extern Tryz.func303 (by kernel_rfl) (by kernel_rfl) (by kernel_rfl) (e := fun args => do
  let (x, y, b) ← Extern.MathBitsCarry.three "Sub64" args
  pure (Extern.MathBitsCarry.pair ((x + Extern.MathBitsCarry.m64 - y - b) % Extern.MathBitsCarry.m64) (if x < y + b then 1 else 0))) (by kernel_rfl), run_sub64 x y c hc]
  rfl

set_option maxRecDepth 100000 in
set_option maxHeartbeats 1600000 in
theorem bitsSub (x y c : Nat) (hc : c ≤ 1) (w : World) :
    Calls Tryz.prog 247 #[.int .u64 (x : Int), .int .u64 (y : Int), .int .u64 (c : Int)] w fun e w' => e = .returned (.tuple #[.int .u64 (((x + 18446744073709551616 - y - c) % 18446744073709551616 : Nat) : Int), .int .u64 ((if x < y + c then 1 else 0 : Nat) : Int)]) ∧ w' = w := by
  have H := call303 x y c hc w
  obtain ⟨s, hs⟩ : ∃ s : Int, (((x + 18446744073709551616 - y - c) % 18446744073709551616 : Nat) : Int) = s := ⟨_, rfl⟩
  obtain ⟨d, hd⟩ : ∃ d : Int, ((if x < y + c then 1 else 0 : Nat) : Int) = d := ⟨_, rfl⟩
  obtain ⟨X, hX⟩ : ∃ X : Int, (x : Int) = X := ⟨_, rfl⟩
  obtain ⟨Y, hY⟩ : ∃ Y : Int, (y : Int) = Y := ⟨_, rfl⟩
  obtain ⟨C, hC⟩ : ∃ C : Int, (c : Int) = C := ⟨_, rfl⟩
  rw [hs, hd, hX, hY, hC] at H
  rw [hs, hd, hX, hY, hC]
  clear hs hd hX hY hC hc
  go_enter Tryz.func247, Tryz.ntmps247
  go_wp2_with (rw [H])
  go_ret2
  exact ⟨rfl, rfl⟩

theorem bitsAdd1 (x : Nat) (w : World) : Calls Tryz.prog 249 #[.int .u64 (x : Int), .int .u64 1, .int .u64 0] w fun e w' => e = .returned (.tuple #[.int .u64 (((x + 1) % 18446744073709551616 : Nat) : Int), .int .u64 (((x + 1) / 18446744073709551616 : Nat) : Int)]) ∧ w' = w := by
  have e1 : ((1 : Nat) : Int) = 1 := rfl
  have e0 : ((0 : Nat) : Int) = 0 := rfl
  have := bitsAdd x 1 0 (by omega) w
  rw [e1, e0, Nat.add_zero] at this
  exact this
theorem bitsSub1 (x : Nat) (w : World) : Calls Tryz.prog 247 #[.int .u64 (x : Int), .int .u64 1, .int .u64 0] w fun e w' => e = .returned (.tuple #[.int .u64 (((x + 18446744073709551615) % 18446744073709551616 : Nat) : Int), .int .u64 ((if x < 1 then 1 else 0 : Nat) : Int)]) ∧ w' = w := by
  have e1 : ((1 : Nat) : Int) = 1 := rfl
  have e0 : ((0 : Nat) : Int) = 0 := rfl
  have := bitsSub x 1 0 (by omega) w
  rw [e1, e0, Nat.sub_zero, show x + 18446744073709551616 - 1 = x + 18446744073709551615 from by omega, Nat.add_zero] at this
  exact this

set_option maxRecDepth 100000 in
set_option maxHeartbeats 4000000 in
theorem addVV1 {w : World} {g h k : Nat} {cz cx cy X : Nat} {z0 : Value} (hz : w.cell? ⟨g, 0, none⟩ = some z0) (hf : w.frozen? ⟨g, 0, none⟩ = false) (hx : w.cell? ⟨h, 0, none⟩ = some (.int .u64 (X : Int))) (hy : w.cell? ⟨k, 0, none⟩ = some (.int .u64 1)) :
    Calls Tryz.prog 194 #[.slice (some ⟨g, 0, none⟩) 1 cz, .slice (some ⟨h, 0, none⟩) 1 cx, .slice (some ⟨k, 0, none⟩) 1 cy] w fun e w' =>
      e = .returned (.int .u64 (((X + 1) / 18446744073709551616 : Nat) : Int)) ∧ ∃ m, w' = (w.setCell ⟨g, 0, none⟩ (.int .u64 (((X + 1) % 18446744073709551616 : Nat) : Int))).drewN m := by
  have hc := bitsAdd1 X
  obtain ⟨s, hs⟩ : ∃ s : Int, (((X + 1) % 18446744073709551616 : Nat) : Int) = s := ⟨_, rfl⟩
  obtain ⟨d, hd⟩ : ∃ d : Int, (((X + 1) / 18446744073709551616 : Nat) : Int) = d := ⟨_, rfl⟩
  obtain ⟨x, hX⟩ : ∃ x : Int, (X : Int) = x := ⟨_, rfl⟩
  rw [hs, hd]
  rw [hX] at hx
  have HC : Hid (∀ w, Calls Tryz.prog 249 #[.int .u64 x, .int .u64 1, .int .u64 0] w fun e w' => e = .returned (.tuple #[.int .u64 s, .int .u64 d]) ∧ w' = w) := by
    intro w
    have := hc w
    rw [hs, hd, hX] at this
    exact this
  clear hs hd hX hc
  go_enter Tryz.func194, Tryz.ntmps194
  go_wp2
  go_loopg [6, 25] 2 (fun gk s6 s25 wx => (gk = 2 ∧ s6 = .int .u64 0 ∧ s25 = .int .i64 0 ∧ wx = w) ∨ (gk = 1 ∧ s6 = .int .u64 d ∧ s25 = .int .i64 1 ∧ ∃ m, wx = (w.setCell ⟨g, 0, none⟩ (.int .u64 s)).drewN m))
  case atStart => exact .inl ⟨rfl, rfl, rfl, rfl⟩
  case round =>
    rcases hrel with ⟨rfl, rfl, rfl, rfl⟩ | ⟨rfl, rfl, rfl, m, rfl⟩
    · go_wp2_with fail
      go_quiet (first | (go_at_call 249; with_reducible refine Calls.quiet_of_same (HC.out _)))
      go_wp2_with fail
      go_roundg 1
      case measure => omega
      case rel => exact .inr ⟨rfl, rfl, rfl, _, rfl⟩
    · go_wp2_with fail
      go_ret
      exact ⟨rfl, m, rfl⟩

set_option maxRecDepth 100000 in
set_option maxHeartbeats 4000000 in
theorem subVV1 {w : World} {g h k : Nat} {cz cx cy X : Nat} {z0 : Value} (hz : w.cell? ⟨g, 0, none⟩ = some z0) (hf : w.frozen? ⟨g, 0, none⟩ = false) (hx : w.cell? ⟨h, 0, none⟩ = some (.int .u64 (X : Int))) (hy : w.cell? ⟨k, 0, none⟩ = some (.int .u64 1)) :
    Calls Tryz.prog 191 #[.slice (some ⟨g, 0, none⟩) 1 cz, .slice (some ⟨h, 0, none⟩) 1 cx, .slice (some ⟨k, 0, none⟩) 1 cy] w fun e w' =>
      e = .returned (.int .u64 ((if X < 1 then 1 else 0 : Nat) : Int)) ∧ ∃ m, w' = (w.setCell ⟨g, 0, none⟩ (.int .u64 (((X + 18446744073709551615) % 18446744073709551616 : Nat) : Int))).drewN m := by
  have hc := bitsSub1 X
  obtain ⟨s, hs⟩ : ∃ s : Int, (((X + 18446744073709551615) % 18446744073709551616 : Nat) : Int) = s := ⟨_, rfl⟩
  obtain ⟨d, hd⟩ : ∃ d : Int, ((if X < 1 then 1 else 0 : Nat) : Int) = d := ⟨_, rfl⟩
  obtain ⟨x, hX⟩ : ∃ x : Int, (X : Int) = x := ⟨_, rfl⟩
  rw [hs, hd]
  rw [hX] at hx
  have HC : Hid (∀ w, Calls Tryz.prog 247 #[.int .u64 x, .int .u64 1, .int .u64 0] w fun e w' => e = .returned (.tuple #[.int .u64 s, .int .u64 d]) ∧ w' = w) := by
    intro w
    have := hc w
    rw [hs, hd, hX] at this
    exact this
  clear hs hd hX hc
  go_enter Tryz.func191, Tryz.ntmps191
  go_wp2
  go_loopg [6, 25] 2 (fun gk s6 s25 wx => (gk = 2 ∧ s6 = .int .u64 0 ∧ s25 = .int .i64 0 ∧ wx = w) ∨ (gk = 1 ∧ s6 = .int .u64 d ∧ s25 = .int .i64 1 ∧ ∃ m, wx = (w.setCell ⟨g, 0, none⟩ (.int .u64 s)).drewN m))
  case atStart => exact .inl ⟨rfl, rfl, rfl, rfl⟩
  case round =>
    rcases hrel with ⟨rfl, rfl, rfl, rfl⟩ | ⟨rfl, rfl, rfl, m, rfl⟩
    · go_wp2_with fail
      go_quiet (first | (go_at_call 247; with_reducible refine Calls.quiet_of_same (HC.out _)))
      go_wp2_with fail
      go_roundg 1
      case measure => omega
      case rel => exact .inr ⟨rfl, rfl, rfl, _, rfl⟩
    · go_wp2_with fail
      go_ret
      exact ⟨rfl, m, rfl⟩
end Wa
end Go.Proofs.YtdpnoaaeplgdjaaGreatDoor
