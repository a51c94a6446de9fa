-- PRINTED BY print.sh 35421559b90ae4d0a3588c463048766b98c2df88dd9212a6774a882060cdf62d: not written by this session
import Derived.Test.YtdpnoaaeplgdjaaGreatDoorProg
import Derived.Below
import Derived.Deep.Draws
import Derived.Deep.AppendLies
import Derived.Maps.AppendAt
import Derived.OwnWalk
import Derived.Laws.BytesArg
import Derived.Laws.MakeOwn
import Derived.Laws.OwnMore
import Derived.Deep.OwnRows
import Derived.Tactics
import Derived.Lib.ConvBytes
import Derived.Laws.Slices
import Derived.WalkKit
import Derived.KernelRfl
import Derived.RowKit3
import Derived.Deep.LoopGhost
import Derived.Deep.QuietTactic
import Derived.BigQuiet
import Derived.WideLaws
import Derived.Deep.DeepCutAuto
import Derived.Deep.CutBlock
import Derived.Deep.RegionHeld3
import Derived.Laws.Rows
import Derived.Lib.AppendStr
import Derived.ArgAppend
import Derived.Laws.IdiomCopy
import Derived.OrdersHeld
import Derived.Laws.BitsLemmas
import Derived.RowKit
import Derived.Test.YtdpnoaaeplgdjaaGreatDoorWWords
import Derived.Test.YtdpnoaaeplgdjaaGreatDoorW2
import Derived.Test.YtdpnoaaeplgdjaaGreatDoorW3
namespace Go.Proofs.YtdpnoaaeplgdjaaGreatDoor.Prest
open Go.RowKit Go.Proofs.YtdpnoaaeplgdjaaGreatDoorW.PrintWords Go.Proofs.YtdpnoaaeplgdjaaGreatDoorW.PrintLast Go.Proofs.YtdpnoaaeplgdjaaGreatDoorW.PrintMore
attribute [local go_sem] max2_int min2_int max_two min_two max_three min_three max_four min_four   -- for this text's walks alone
set_option linter.unusedVariables false
set_option linter.unusedSimpArgs false



def errW : Option Int → Value
  | none => .nilIface
  | some c => .iface 0 (.int .i64 c)
theorem errW_none : errW none = .nilIface := rfl
theorem errW_some (c : Int) : errW (some c) = .iface 0 (.int .i64 c) := rfl

-- the values' own types

end Go.Proofs.YtdpnoaaeplgdjaaGreatDoor.Prest
-- PRINTED BY print.sh 35421559b90ae4d0a3588c463048766b98c2df88dd9212a6774a882060cdf62d: not written by this session
namespace Go.Proofs.YtdpnoaaeplgdjaaGreatDoor.Prest
open Go.RowKit Go.Proofs.YtdpnoaaeplgdjaaGreatDoorW.PrintWords Go.Proofs.YtdpnoaaeplgdjaaGreatDoorW.PrintLast Go.Proofs.YtdpnoaaeplgdjaaGreatDoorW.PrintMore
attribute [local go_sem] max2_int min2_int max_two min_two max_three min_three max_four min_four   -- for this text's walks alone
set_option linter.unusedVariables false
set_option linter.unusedSimpArgs false

/-! ### spec_rest: function 44 -/
def spec_rest.f (a0_0 : Int) (a0_1 : Bool) (a0_2 : ByteArray) (a0_3 : Bool) (l0_4 : List Int) (l0_5 : List Int) (a0_6 : Bool) (l0_7 : List Int) (l0_8 : List Int) : Option (Bool) := if a0_1 = true then (some false) else (if a0_2.toList = ([] : List UInt8) then (if a0_6 = true then (some false) else (if (l0_7.length : Int) = 0 then (some ((l0_8.length : Int) == 0)) else (some false))) else (some false))
set_option maxHeartbeats 8000000 in
set_option maxRecDepth 100000 in
theorem spec_rest.calls (a0_0 : Int) (a0_1 : Bool) (a0_2 : ByteArray) (a0_3 : Bool) (A0_4 : Option Addr) (c0_4 : Nat) (l0_4 : List Int) (A0_5 : Option Addr) (c0_5 : Nat) (l0_5 : List Int) (a0_6 : Bool) (A0_7 : Option Addr) (c0_7 : Nat) (l0_7 : List Int) (A0_8 : Option Addr) (c0_8 : Nat) (l0_8 : List Int) (r : Bool) (w : World) (hr0_4 : Kd.C (Kd.int .u64) w A0_4 l0_4.length l0_4) (hc0_4 : l0_4.length ≤ c0_4) (hr0_5 : Kd.C (Kd.int .u64) w A0_5 l0_5.length l0_5) (hc0_5 : l0_5.length ≤ c0_5) (hr0_7 : Kd.C (Kd.int .u64) w A0_7 l0_7.length l0_7) (hc0_7 : l0_7.length ≤ c0_7) (hr0_8 : Kd.C (Kd.int .u64) w A0_8 l0_8.length l0_8) (hc0_8 : l0_8.length ≤ c0_8) (h : spec_rest.f a0_0 a0_1 a0_2 a0_3 l0_4 l0_5 a0_6 l0_7 l0_8 = some r) :
    Calls Tryz.prog 44 #[.agg #[.int .i64 a0_0, .bool a0_1, .string a0_2, .bool a0_3, .slice A0_4 l0_4.length c0_4, .slice A0_5 l0_5.length c0_5, .bool a0_6, .slice A0_7 l0_7.length c0_7, .slice A0_8 l0_8.length c0_8]] w fun e w' => e = .returned (.bool r) ∧ Below w.heap.size w w' := by
  have hu41 := Tryz.underlying41
  have HR0_4 := Aside0.mk hr0_4
  have HC0_4 := Aside0.mk hc0_4
  clear hr0_4 hc0_4
  have HR0_5 := Aside0.mk hr0_5
  have HC0_5 := Aside0.mk hc0_5
  clear hr0_5 hc0_5
  have HR0_7 := Aside0.mk hr0_7
  have HC0_7 := Aside0.mk hc0_7
  clear hr0_7 hc0_7
  have HR0_8 := Aside0.mk hr0_8
  have HC0_8 := Aside0.mk hc0_8
  clear hr0_8 hc0_8
  have HB := Aside0.mk (Below.refl w.heap.size w)
  have H : (if a0_1 = true then (some false) else (if a0_2.toList = ([] : List UInt8) then (if a0_6 = true then (some false) else (if (l0_7.length : Int) = 0 then (some ((l0_8.length : Int) == 0)) else (some false))) else (some false))) = some r := h
  clear h
  by_cases c2 : a0_1 = true
  · subst c2
    have H1 : (some false) = some r := by rw [if_pos rfl] at H; exact H
    clear H
    have H := H1
    clear H1
    obtain rfl := Option.some.inj H
    go_enter Tryz.func44, Tryz.ntmps44
    go_wp2_with (first | ((with_reducible refine gate_dst (N := 1) rfl ?_); (try (refine gate_guard (by rfl) ?_; dsimp only)); refine box_event ?hg (N := 1) ?hd (cs := #[.int .i64 a0_0, .bool true, .string a0_2, .bool a0_3, .slice A0_4 l0_4.length c0_4, .slice A0_5 l0_5.length c0_5, .bool a0_6, .slice A0_7 l0_7.length c0_7, .slice A0_8 l0_8.length c0_8]) (t := 41) ?hr ?_; (case hd => rfl); (case hg => rfl); (case hr => first | (go_simp; done) | (go_simp; rfl)); intro gb101 hg w3 hbox hb; have n0_ := Aside0.mk (below_step (by repeat (first | (with_reducible first | exact HB.out | apply below_alloc | apply pw_below_drewN | apply below_drew1) | exact HB.out)) hb); have n1_ := Aside0.mk (hbox); have n2_ := Aside0.mk ((by rw [hg]; exact (below_size (by repeat (first | (with_reducible first | exact HB.out | apply below_alloc | apply pw_below_drewN | apply below_drew1) | exact HB.out))) : w.heap.size ≤ gb101)); have n3_ := Aside0.mk ((by rw [hg]; exact (below_size (by repeat (first | (with_reducible first | exact HB.out | apply below_alloc | apply pw_below_drewN | apply below_drew1) | exact HB.out))) : w.heap.size ≤ gb101)); clear HB; have HB := n0_; have BK101 := n1_; have GW101 := n2_; have GE101 := n3_; clear n0_ n1_ n2_ n3_; clear hb hbox hg; have hcz4_0 : w3.cell? ⟨gb101, 0, none⟩ = some (.int .i64 a0_0) := (blk_cell BK101.out 0).trans rfl; have hcz4_1 : w3.cell? ⟨gb101, 1, none⟩ = some (.bool true) := (blk_cell BK101.out 1).trans rfl; have hcz4_2 : w3.cell? ⟨gb101, 2, none⟩ = some (.string a0_2) := (blk_cell BK101.out 2).trans rfl; have hcz4_3 : w3.cell? ⟨gb101, 3, none⟩ = some (.bool a0_3) := (blk_cell BK101.out 3).trans rfl; have hcz4_4 : w3.cell? ⟨gb101, 4, none⟩ = some (.slice A0_4 l0_4.length c0_4) := (blk_cell BK101.out 4).trans rfl; have hcz4_5 : w3.cell? ⟨gb101, 5, none⟩ = some (.slice A0_5 l0_5.length c0_5) := (blk_cell BK101.out 5).trans rfl; have hcz4_6 : w3.cell? ⟨gb101, 6, none⟩ = some (.bool a0_6) := (blk_cell BK101.out 6).trans rfl; have hcz4_7 : w3.cell? ⟨gb101, 7, none⟩ = some (.slice A0_7 l0_7.length c0_7) := (blk_cell BK101.out 7).trans rfl; have hcz4_8 : w3.cell? ⟨gb101, 8, none⟩ = some (.slice A0_8 l0_8.length c0_8) := (blk_cell BK101.out 8).trans rfl; have hfz4_0 := blk_frozen BK101.out 0; have hfz4_1 := blk_frozen BK101.out 1; have hfz4_2 := blk_frozen BK101.out 2; have hfz4_3 := blk_frozen BK101.out 3; have hfz4_4 := blk_frozen BK101.out 4; have hfz4_5 := blk_frozen BK101.out 5; have hfz4_6 := blk_frozen BK101.out 6; have hfz4_7 := blk_frozen BK101.out 7; have hfz4_8 := blk_frozen BK101.out 8))
    go_ret
    exact ⟨by first | rfl | (simp [errW_none, errW_some] <;> rfl) | (simp [*, errW_none, errW_some] <;> rfl), by repeat (first | (with_reducible first | exact HB.out | apply below_alloc | apply pw_below_drewN | apply below_drew1 | refine below_set ?_ GE101.out) | exact HB.out)⟩
  · replace c2 := Bool.eq_false_iff.mpr c2
    subst c2
    have H1 : (if a0_2.toList = ([] : List UInt8) then (if a0_6 = true then (some false) else (if (l0_7.length : Int) = 0 then (some ((l0_8.length : Int) == 0)) else (some false))) else (some false)) = some r := by rw [if_neg (show ¬ (false = true) by decide)] at H; exact H
    clear H
    have H := H1
    clear H1
    by_cases c5 : a0_2.toList = ([] : List UInt8)
    · rw [if_pos c5] at H
      have c5b0 : (a0_2.toList == ([] : List UInt8)) = true := beq_iff_eq.mpr c5
      have c5b1 : (a0_2.toList != ([] : List UInt8)) = false := bne_eq_false_iff_eq.mpr c5
      clear c5
      by_cases c6 : a0_6 = true
      · subst c6
        have H1 : (some false) = some r := by rw [if_pos rfl] at H; exact H
        clear H
        have H := H1
        clear H1
        obtain rfl := Option.some.inj H
        go_enter Tryz.func44, Tryz.ntmps44
        go_wp2_with (first | ((with_reducible refine gate_dst (N := 1) rfl ?_); (try (refine gate_guard (by rfl) ?_; dsimp only)); refine box_event ?hg (N := 1) ?hd (cs := #[.int .i64 a0_0, .bool false, .string a0_2, .bool a0_3, .slice A0_4 l0_4.length c0_4, .slice A0_5 l0_5.length c0_5, .bool true, .slice A0_7 l0_7.length c0_7, .slice A0_8 l0_8.length c0_8]) (t := 41) ?hr ?_; (case hd => rfl); (case hg => rfl); (case hr => first | (go_simp; done) | (go_simp; rfl)); intro gb101 hg w7 hbox hb; have n0_ := Aside0.mk (below_step (by repeat (first | (with_reducible first | exact HB.out | apply below_alloc | apply pw_below_drewN | apply below_drew1) | exact HB.out)) hb); have n1_ := Aside0.mk (hbox); have n2_ := Aside0.mk ((by rw [hg]; exact (below_size (by repeat (first | (with_reducible first | exact HB.out | apply below_alloc | apply pw_below_drewN | apply below_drew1) | exact HB.out))) : w.heap.size ≤ gb101)); have n3_ := Aside0.mk ((by rw [hg]; exact (below_size (by repeat (first | (with_reducible first | exact HB.out | apply below_alloc | apply pw_below_drewN | apply below_drew1) | exact HB.out))) : w.heap.size ≤ gb101)); clear HB; have HB := n0_; have BK101 := n1_; have GW101 := n2_; have GE101 := n3_; clear n0_ n1_ n2_ n3_; clear hb hbox hg; have hcz8_0 : w7.cell? ⟨gb101, 0, none⟩ = some (.int .i64 a0_0) := (blk_cell BK101.out 0).trans rfl; have hcz8_1 : w7.cell? ⟨gb101, 1, none⟩ = some (.bool false) := (blk_cell BK101.out 1).trans rfl; have hcz8_2 : w7.cell? ⟨gb101, 2, none⟩ = some (.string a0_2) := (blk_cell BK101.out 2).trans rfl; have hcz8_3 : w7.cell? ⟨gb101, 3, none⟩ = some (.bool a0_3) := (blk_cell BK101.out 3).trans rfl; have hcz8_4 : w7.cell? ⟨gb101, 4, none⟩ = some (.slice A0_4 l0_4.length c0_4) := (blk_cell BK101.out 4).trans rfl; have hcz8_5 : w7.cell? ⟨gb101, 5, none⟩ = some (.slice A0_5 l0_5.length c0_5) := (blk_cell BK101.out 5).trans rfl; have hcz8_6 : w7.cell? ⟨gb101, 6, none⟩ = some (.bool true) := (blk_cell BK101.out 6).trans rfl; have hcz8_7 : w7.cell? ⟨gb101, 7, none⟩ = some (.slice A0_7 l0_7.length c0_7) := (blk_cell BK101.out 7).trans rfl; have hcz8_8 : w7.cell? ⟨gb101, 8, none⟩ = some (.slice A0_8 l0_8.length c0_8) := (blk_cell BK101.out 8).trans rfl; have hfz8_0 := blk_frozen BK101.out 0; have hfz8_1 := blk_frozen BK101.out 1; have hfz8_2 := blk_frozen BK101.out 2; have hfz8_3 := blk_frozen BK101.out 3; have hfz8_4 := blk_frozen BK101.out 4; have hfz8_5 := blk_frozen BK101.out 5; have hfz8_6 := blk_frozen BK101.out 6; have hfz8_7 := blk_frozen BK101.out 7; have hfz8_8 := blk_frozen BK101.out 8))
        go_ret
        exact ⟨by first | rfl | (simp [errW_none, errW_some] <;> rfl) | (simp [*, errW_none, errW_some] <;> rfl), by repeat (first | (with_reducible first | exact HB.out | apply below_alloc | apply pw_below_drewN | apply below_drew1 | refine below_set ?_ GE101.out) | exact HB.out)⟩
      · replace c6 := Bool.eq_false_iff.mpr c6
        subst c6
        have H1 : (if (l0_7.length : Int) = 0 then (some ((l0_8.length : Int) == 0)) else (some false)) = some r := by rw [if_neg (show ¬ (false = true) by decide)] at H; exact H
        clear H
        have H := H1
        clear H1
        by_cases c9 : (l0_7.length : Int) = 0
        · rw [if_pos c9] at H
          have c9b0 : ((l0_7.length : Int) == 0) = true := beq_iff_eq.mpr c9
          have c9b1 : ((l0_7.length : Int) != 0) = false := bne_eq_false_iff_eq.mpr c9
          clear c9
          obtain rfl := Option.some.inj H
          go_enter Tryz.func44, Tryz.ntmps44
          go_wp2_with (first | ((with_reducible refine gate_dst (N := 1) rfl ?_); (try (refine gate_guard (by rfl) ?_; dsimp only)); refine box_event ?hg (N := 1) ?hd (cs := #[.int .i64 a0_0, .bool false, .string a0_2, .bool a0_3, .slice A0_4 l0_4.length c0_4, .slice A0_5 l0_5.length c0_5, .bool false, .slice A0_7 l0_7.length c0_7, .slice A0_8 l0_8.length c0_8]) (t := 41) ?hr ?_; (case hd => rfl); (case hg => rfl); (case hr => first | (go_simp; done) | (go_simp; rfl)); intro gb101 hg w10 hbox hb; have n0_ := Aside0.mk (below_step (by repeat (first | (with_reducible first | exact HB.out | apply below_alloc | apply pw_below_drewN | apply below_drew1) | exact HB.out)) hb); have n1_ := Aside0.mk (hbox); have n2_ := Aside0.mk ((by rw [hg]; exact (below_size (by repeat (first | (with_reducible first | exact HB.out | apply below_alloc | apply pw_below_drewN | apply below_drew1) | exact HB.out))) : w.heap.size ≤ gb101)); have n3_ := Aside0.mk ((by rw [hg]; exact (below_size (by repeat (first | (with_reducible first | exact HB.out | apply below_alloc | apply pw_below_drewN | apply below_drew1) | exact HB.out))) : w.heap.size ≤ gb101)); clear HB; have HB := n0_; have BK101 := n1_; have GW101 := n2_; have GE101 := n3_; clear n0_ n1_ n2_ n3_; clear hb hbox hg; have hcz11_0 : w10.cell? ⟨gb101, 0, none⟩ = some (.int .i64 a0_0) := (blk_cell BK101.out 0).trans rfl; have hcz11_1 : w10.cell? ⟨gb101, 1, none⟩ = some (.bool false) := (blk_cell BK101.out 1).trans rfl; have hcz11_2 : w10.cell? ⟨gb101, 2, none⟩ = some (.string a0_2) := (blk_cell BK101.out 2).trans rfl; have hcz11_3 : w10.cell? ⟨gb101, 3, none⟩ = some (.bool a0_3) := (blk_cell BK101.out 3).trans rfl; have hcz11_4 : w10.cell? ⟨gb101, 4, none⟩ = some (.slice A0_4 l0_4.length c0_4) := (blk_cell BK101.out 4).trans rfl; have hcz11_5 : w10.cell? ⟨gb101, 5, none⟩ = some (.slice A0_5 l0_5.length c0_5) := (blk_cell BK101.out 5).trans rfl; have hcz11_6 : w10.cell? ⟨gb101, 6, none⟩ = some (.bool false) := (blk_cell BK101.out 6).trans rfl; have hcz11_7 : w10.cell? ⟨gb101, 7, none⟩ = some (.slice A0_7 l0_7.length c0_7) := (blk_cell BK101.out 7).trans rfl; have hcz11_8 : w10.cell? ⟨gb101, 8, none⟩ = some (.slice A0_8 l0_8.length c0_8) := (blk_cell BK101.out 8).trans rfl; have hfz11_0 := blk_frozen BK101.out 0; have hfz11_1 := blk_frozen BK101.out 1; have hfz11_2 := blk_frozen BK101.out 2; have hfz11_3 := blk_frozen BK101.out 3; have hfz11_4 := blk_frozen BK101.out 4; have hfz11_5 := blk_frozen BK101.out 5; have hfz11_6 := blk_frozen BK101.out 6; have hfz11_7 := blk_frozen BK101.out 7; have hfz11_8 := blk_frozen BK101.out 8))
          go_ret
          exact ⟨by first | rfl | (simp [errW_none, errW_some] <;> rfl) | (simp [*, errW_none, errW_some] <;> rfl), by repeat (first | (with_reducible first | exact HB.out | apply below_alloc | apply pw_below_drewN | apply below_drew1 | refine below_set ?_ GE101.out) | exact HB.out)⟩
        · rw [if_neg c9] at H
          have c9b0 : ((l0_7.length : Int) == 0) = false := beq_eq_false_iff_ne.mpr c9
          have c9b1 : ((l0_7.length : Int) != 0) = true := bne_iff_ne.mpr c9
          have c9b2 : ¬ (l0_7 = []) := fun h_ => c9 (by rw [h_]; rfl)
          obtain rfl := Option.some.inj H
          go_enter Tryz.func44, Tryz.ntmps44
          go_wp2_with (first | ((with_reducible refine gate_dst (N := 1) rfl ?_); (try (refine gate_guard (by rfl) ?_; dsimp only)); refine box_event ?hg (N := 1) ?hd (cs := #[.int .i64 a0_0, .bool false, .string a0_2, .bool a0_3, .slice A0_4 l0_4.length c0_4, .slice A0_5 l0_5.length c0_5, .bool false, .slice A0_7 l0_7.length c0_7, .slice A0_8 l0_8.length c0_8]) (t := 41) ?hr ?_; (case hd => rfl); (case hg => rfl); (case hr => first | (go_simp; done) | (go_simp; rfl)); intro gb101 hg w12 hbox hb; have n0_ := Aside0.mk (below_step (by repeat (first | (with_reducible first | exact HB.out | apply below_alloc | apply pw_below_drewN | apply below_drew1) | exact HB.out)) hb); have n1_ := Aside0.mk (hbox); have n2_ := Aside0.mk ((by rw [hg]; exact (below_size (by repeat (first | (with_reducible first | exact HB.out | apply below_alloc | apply pw_below_drewN | apply below_drew1) | exact HB.out))) : w.heap.size ≤ gb101)); have n3_ := Aside0.mk ((by rw [hg]; exact (below_size (by repeat (first | (with_reducible first | exact HB.out | apply below_alloc | apply pw_below_drewN | apply below_drew1) | exact HB.out))) : w.heap.size ≤ gb101)); clear HB; have HB := n0_; have BK101 := n1_; have GW101 := n2_; have GE101 := n3_; clear n0_ n1_ n2_ n3_; clear hb hbox hg; have hcz13_0 : w12.cell? ⟨gb101, 0, none⟩ = some (.int .i64 a0_0) := (blk_cell BK101.out 0).trans rfl; have hcz13_1 : w12.cell? ⟨gb101, 1, none⟩ = some (.bool false) := (blk_cell BK101.out 1).trans rfl; have hcz13_2 : w12.cell? ⟨gb101, 2, none⟩ = some (.string a0_2) := (blk_cell BK101.out 2).trans rfl; have hcz13_3 : w12.cell? ⟨gb101, 3, none⟩ = some (.bool a0_3) := (blk_cell BK101.out 3).trans rfl; have hcz13_4 : w12.cell? ⟨gb101, 4, none⟩ = some (.slice A0_4 l0_4.length c0_4) := (blk_cell BK101.out 4).trans rfl; have hcz13_5 : w12.cell? ⟨gb101, 5, none⟩ = some (.slice A0_5 l0_5.length c0_5) := (blk_cell BK101.out 5).trans rfl; have hcz13_6 : w12.cell? ⟨gb101, 6, none⟩ = some (.bool false) := (blk_cell BK101.out 6).trans rfl; have hcz13_7 : w12.cell? ⟨gb101, 7, none⟩ = some (.slice A0_7 l0_7.length c0_7) := (blk_cell BK101.out 7).trans rfl; have hcz13_8 : w12.cell? ⟨gb101, 8, none⟩ = some (.slice A0_8 l0_8.length c0_8) := (blk_cell BK101.out 8).trans rfl; have hfz13_0 := blk_frozen BK101.out 0; have hfz13_1 := blk_frozen BK101.out 1; have hfz13_2 := blk_frozen BK101.out 2; have hfz13_3 := blk_frozen BK101.out 3; have hfz13_4 := blk_frozen BK101.out 4; have hfz13_5 := blk_frozen BK101.out 5; have hfz13_6 := blk_frozen BK101.out 6; have hfz13_7 := blk_frozen BK101.out 7; have hfz13_8 := blk_frozen BK101.out 8))
          go_ret
          exact ⟨by first | rfl | (simp [errW_none, errW_some] <;> rfl) | (simp [*, errW_none, errW_some] <;> rfl), by repeat (first | (with_reducible first | exact HB.out | apply below_alloc | apply pw_below_drewN | apply below_drew1 | refine below_set ?_ GE101.out) | exact HB.out)⟩
    · rw [if_neg c5] at H
      have c5b0 : (a0_2.toList == ([] : List UInt8)) = false := beq_eq_false_iff_ne.mpr c5
      have c5b1 : (a0_2.toList != ([] : List UInt8)) = true := bne_iff_ne.mpr c5
      obtain rfl := Option.some.inj H
      go_enter Tryz.func44, Tryz.ntmps44
      go_wp2_with (first | ((with_reducible refine gate_dst (N := 1) rfl ?_); (try (refine gate_guard (by rfl) ?_; dsimp only)); refine box_event ?hg (N := 1) ?hd (cs := #[.int .i64 a0_0, .bool false, .string a0_2, .bool a0_3, .slice A0_4 l0_4.length c0_4, .slice A0_5 l0_5.length c0_5, .bool a0_6, .slice A0_7 l0_7.length c0_7, .slice A0_8 l0_8.length c0_8]) (t := 41) ?hr ?_; (case hd => rfl); (case hg => rfl); (case hr => first | (go_simp; done) | (go_simp; rfl)); intro gb101 hg w14 hbox hb; have n0_ := Aside0.mk (below_step (by repeat (first | (with_reducible first | exact HB.out | apply below_alloc | apply pw_below_drewN | apply below_drew1) | exact HB.out)) hb); have n1_ := Aside0.mk (hbox); have n2_ := Aside0.mk ((by rw [hg]; exact (below_size (by repeat (first | (with_reducible first | exact HB.out | apply below_alloc | apply pw_below_drewN | apply below_drew1) | exact HB.out))) : w.heap.size ≤ gb101)); have n3_ := Aside0.mk ((by rw [hg]; exact (below_size (by repeat (first | (with_reducible first | exact HB.out | apply below_alloc | apply pw_below_drewN | apply below_drew1) | exact HB.out))) : w.heap.size ≤ gb101)); clear HB; have HB := n0_; have BK101 := n1_; have GW101 := n2_; have GE101 := n3_; clear n0_ n1_ n2_ n3_; clear hb hbox hg; have hcz15_0 : w14.cell? ⟨gb101, 0, none⟩ = some (.int .i64 a0_0) := (blk_cell BK101.out 0).trans rfl; have hcz15_1 : w14.cell? ⟨gb101, 1, none⟩ = some (.bool false) := (blk_cell BK101.out 1).trans rfl; have hcz15_2 : w14.cell? ⟨gb101, 2, none⟩ = some (.string a0_2) := (blk_cell BK101.out 2).trans rfl; have hcz15_3 : w14.cell? ⟨gb101, 3, none⟩ = some (.bool a0_3) := (blk_cell BK101.out 3).trans rfl; have hcz15_4 : w14.cell? ⟨gb101, 4, none⟩ = some (.slice A0_4 l0_4.length c0_4) := (blk_cell BK101.out 4).trans rfl; have hcz15_5 : w14.cell? ⟨gb101, 5, none⟩ = some (.slice A0_5 l0_5.length c0_5) := (blk_cell BK101.out 5).trans rfl; have hcz15_6 : w14.cell? ⟨gb101, 6, none⟩ = some (.bool a0_6) := (blk_cell BK101.out 6).trans rfl; have hcz15_7 : w14.cell? ⟨gb101, 7, none⟩ = some (.slice A0_7 l0_7.length c0_7) := (blk_cell BK101.out 7).trans rfl; have hcz15_8 : w14.cell? ⟨gb101, 8, none⟩ = some (.slice A0_8 l0_8.length c0_8) := (blk_cell BK101.out 8).trans rfl; have hfz15_0 := blk_frozen BK101.out 0; have hfz15_1 := blk_frozen BK101.out 1; have hfz15_2 := blk_frozen BK101.out 2; have hfz15_3 := blk_frozen BK101.out 3; have hfz15_4 := blk_frozen BK101.out 4; have hfz15_5 := blk_frozen BK101.out 5; have hfz15_6 := blk_frozen BK101.out 6; have hfz15_7 := blk_frozen BK101.out 7; have hfz15_8 := blk_frozen BK101.out 8))
      go_ret
      exact ⟨by first | rfl | (simp [errW_none, errW_some] <;> rfl) | (simp [*, errW_none, errW_some] <;> rfl), by repeat (first | (with_reducible first | exact HB.out | apply below_alloc | apply pw_below_drewN | apply below_drew1 | refine below_set ?_ GE101.out) | exact HB.out)⟩

end Go.Proofs.YtdpnoaaeplgdjaaGreatDoor.Prest
