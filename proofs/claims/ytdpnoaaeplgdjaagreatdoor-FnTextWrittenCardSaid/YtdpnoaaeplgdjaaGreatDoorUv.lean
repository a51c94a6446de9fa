/-
  THE WALKS OF strconv.index, strconv.contains, and of unicode/utf8.ValidString at a text of ASCII.
-/
import Derived.Test.YtdpnoaaeplgdjaaGreatDoorUq
import Derived.Laws.Externs
import Derived.Lib.Bytealg
namespace Go.Proofs.YtdpnoaaeplgdjaaGreatDoor
open Go.RowKit
namespace Uq

theorem ibs_call (s : ByteArray) (c : Int) (w : World) : (callFunc 297 #[.string s, .int .u8 c]).run Tryz.prog w = .ok (.value (.int .i64 (Lib.indexByte s.data.toList c.toNat.toUInt8))) w := by
  rw [run_callFunc_extern Tryz.func297 (by kernel_rfl) (by kernel_rfl) (by kernel_rfl) (e := Extern.BytealgIndexByte.indexByte) (by kernel_rfl), Lib.run_indexByteString]
  rfl

theorem index_any (s : ByteArray) (c r : Int) (h : Lib.indexByte s.data.toList c.toNat.toUInt8 = r) (w : World) : Calls Tryz.prog 238 #[.string s, .int .u8 c] w fun e w' => e = .returned (.int .i64 r) ∧ w = w' := by
  subst h
  have hc := ibs_call s c
  go_enter Tryz.func238, Tryz.ntmps238
  go_wp2
  go_ret
  exact ⟨rfl, rfl⟩

theorem contains_any (s : ByteArray) (c r : Int) (b : Bool) (h : Lib.indexByte s.data.toList c.toNat.toUInt8 = r) (hb : (r != -1) = b) (w : World) : Calls Tryz.prog 239 #[.string s, .int .u8 c] w fun e w' => e = .returned (.bool b) ∧ w = w' := by
  go_enter Tryz.func239, Tryz.ntmps239
  go_wp2_with (go_at_call 238; refine (index_any s c r h _).mono ?_; rintro e w1 ⟨rfl, rfl⟩)
  go_ret
  subst hb
  exact ⟨rfl, rfl⟩

/-- Some word, whatever its bits. -/
def SomeWord (w : World) (e : Ending) (w' : World) : Prop := ∃ (x : Int) (n : Nat), e = .returned (.int .u64 x) ∧ w' = w.drewN n

set_option maxRecDepth 100000 in
set_option maxHeartbeats 1600000 in
theorem word_any (s : ByteArray) (hs : 8 < s.size) (hm : s.size ≤ 1000000) (w : World) : Calls Tryz.prog 298 #[.string s] w (SomeWord w) := by
  have q0 : 0 < s.size := by omega
  have q1 : (1 : Int) < (s.size : Int) := by omega
  have q2 : (2 : Int) < (s.size : Int) := by omega
  have q3 : (3 : Int) < (s.size : Int) := by omega
  have q4 : (4 : Int) < (s.size : Int) := by omega
  have q5 : (5 : Int) < (s.size : Int) := by omega
  have q6 : (6 : Int) < (s.size : Int) := by omega
  have q7 : (7 : Int) < (s.size : Int) := by omega
  go_enter Tryz.func298, Tryz.ntmps298
  go_wp2
  go_quiet (fail)
  go_wp2
  go_ret
  exact ⟨_, _, rfl, rfl⟩

end Uq
end Go.Proofs.YtdpnoaaeplgdjaaGreatDoor
