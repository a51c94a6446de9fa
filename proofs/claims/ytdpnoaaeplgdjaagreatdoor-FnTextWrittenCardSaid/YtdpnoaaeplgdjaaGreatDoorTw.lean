/-
  THE WALK OF FnTextWritten.
-/
import Derived.Test.YtdpnoaaeplgdjaaGreatDoorTq3
import Derived.Test.YtdpnoaaeplgdjaaGreatDoorMs
namespace Go.Proofs.YtdpnoaaeplgdjaaGreatDoor
open Go.RowKit Go.Proofs.YtdpnoaaeplgdjaaGreatDoorW.PrintWords Go.Proofs.YtdpnoaaeplgdjaaGreatDoor.Pquoted
namespace Tx
open Rg Tr Tq

set_option maxRecDepth 100000 in
theorem law_true (s : ByteArray) (A1 : Option Addr) (c1 : Nat) (l1 : List Int) (w : World) (hr1 : Kd.C (Kd.int .u8) w A1 l1.length l1) (hc1 : l1.length ≤ c1) (hl : ∀ x ∈ l1, 0 ≤ x ∧ x < 256) :
    Calls Tryz.prog 5 #[.string s, .slice A1 l1.length c1] w fun e w' => e = .returned (.bool true) ∧ Below w.heap.size w w' := by
  have HR := Aside0.mk hr1
  have HC := Aside0.mk hc1
  have HL := Aside0.mk hl
  clear hr1 hc1 hl
  by_cases h1 : (2147483647 : Int) < (s.size : Int)
  · go_enter Tryz.func5, Tryz.ntmps5
    go_wp2
    go_ret
    exact ⟨rfl, Below.refl _ _⟩
  by_cases h2 : (2147483647 : Int) < (l1.length : Int)
  · go_enter Tryz.func5, Tryz.ntmps5
    go_wp2
    go_ret
    exact ⟨rfl, Below.refl _ _⟩
  by_cases h3 : (60 : Int) < (s.size : Int)
  · go_enter Tryz.func5, Tryz.ntmps5
    go_wp2
    go_ret
    exact ⟨rfl, Below.refl _ _⟩
  by_cases h4 : (60 : Int) < (l1.length : Int)
  · go_enter Tryz.func5, Tryz.ntmps5
    go_wp2
    go_ret
    exact ⟨rfl, Below.refl _ _⟩
  obtain ⟨k, hk⟩ := quoted_is s l1 (by omega) HL.out
  obtain ⟨q, hq⟩ : ∃ q, ba (34 :: tail s l1 0 s.size) = q := ⟨_, rfl⟩
  have hu := fun w => unq_text s l1 (by omega) w
  rw [hq] at hu hk
  have HK := Aside0.mk hk
  have HU := Aside0.mk hu
  clear hq hu hk
  go_enter Tryz.func5, Tryz.ntmps5
  go_wp2_with fail
  refine (laws_quoted.calls k s A1 c1 l1 q _ HR.out HC.out HK.out).mono ?_
  rintro e w1 ⟨rfl, hb1⟩
  go_wp2_with fail
  refine (literal_of q s _ HU.out).mono ?_
  rintro e w2 ⟨rfl, hb2⟩
  have hb3 := Rg.below_step hb1 hb2
  clear hb1 hb2
  go_wp2_with fail
  go_ret
  exact ⟨rfl, hb3.alloc hb3.size _⟩

end Tx
end Go.Proofs.YtdpnoaaeplgdjaaGreatDoor
