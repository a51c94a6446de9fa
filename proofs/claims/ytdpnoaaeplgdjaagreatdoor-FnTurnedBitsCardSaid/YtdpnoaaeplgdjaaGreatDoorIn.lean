/-
  THE WALK OF big.Int's methods Not, Lsh, AndNot.
-/
import Derived.Test.YtdpnoaaeplgdjaaGreatDoorNn
import Derived.Test.YtdpnoaaeplgdjaaGreatDoorLs
import Derived.BigRegion
import Derived.Deep.RegionWith
namespace Go.Proofs.YtdpnoaaeplgdjaaGreatDoor
open Go.RowKit
namespace Wa
open Rg

/-- p points at an Int of its own block: its sign and its words. -/
def Bi (w : World) (g : Nat) (s : Bool) (v : Value) : Prop := Blk w g 161 #[.bool s, v]

theorem Bi.ne_row {w : World} {g x : Nat} {s : Bool} {u v : Value} (h : Bi w g s u) (hv : Nt w v x) : v.ownBlock ≠ some g := by
  intro e
  rcases Sl.form hv with ⟨rfl, _⟩ | ⟨g', c, cur, rfl, h2, _⟩
  · cases e
  · injection e with e
    have e : g' = g := e
    subst e
    unfold Bi Blk at h
    rw [h] at h2
    injection h2 with h2
    injection h2 with _ h2
    cases h2
theorem Nt.set {w : World} {g o x : Nat} {u v : Value} (hv : Nt w v x) (hne : v.ownBlock ≠ some g) : Nt (w.setCell ⟨g, o, none⟩ u) v x :=
  Sl.kept hv (grown_setCell (World.grownBy.refl _ _)) (.inr hne)
theorem Bi.set1 {w : World} {g : Nat} {s : Bool} {u v : Value} (h : Bi w g s u) : Bi (w.setCell ⟨g, 1, none⟩ v) g s v := heap_setCell_same w g 1 _ 161 v h
theorem Bi.set0 {w : World} {g : Nat} {s t : Bool} {u : Value} (h : Bi w g s u) : Bi (w.setCell ⟨g, 0, none⟩ (.bool t)) g t u := heap_setCell_same w g 0 _ 161 (.bool t) h
/-- An Int's block holds a number, and that alone of what was there has turned. -/
def Nz (w : World) (g : Nat) (s : Bool) (m : Nat) (w' : World) : Prop := ∃ v, Bi w' g s v ∧ Nt w' v m ∧ w.grownBy w' (some g) ∧ ∀ b, v.ownBlock = some b → w.heap.size ≤ b
/-- The two stores that end a method. -/
theorem Nz.stores {w w2 : World} {g m : Nat} {s t : Bool} {u v : Value} (hb : w.grownBy w2 (some g)) (h : Bi w2 g s u) (hv : Nt w2 v m) (hn : ∀ b, v.ownBlock = some b → w.heap.size ≤ b) : Nz w g t m ((w2.setCell ⟨g, 1, none⟩ v).setCell ⟨g, 0, none⟩ (.bool t)) :=
  ⟨v, h.set1.set0, (hv.set (h.ne_row hv)).set (h.ne_row hv), grown_setCell (grown_setCell hb), hn⟩
theorem below_chain {w w1 w2 : World} (h : Below w.drew.heap.size w.drew w1) (k : Below w1.heap.size w1 w2) : Below w.heap.size w w2 :=
  Below.trans (b := w1) ⟨h.os, h.tape, h.output, h.size, h.block⟩ (k.mono h.size)
theorem grown_of_below {w w' : World} {r : Option Nat} (h : Below w.heap.size w w') : w.grownBy w' r := ⟨h.os, h.tape, h.output, h.size, fun k hk _ => h.block k hk⟩

set_option maxRecDepth 100000 in
set_option maxHeartbeats 8000000 in
theorem not_neg {w : World} {gz gx : Nat} {vx : Value} {X : Nat} (hz : Bi w gz false (.slice none 0 0)) (hx : Bi w gx true vx) (hX : Nt w vx X) (hpos : 0 < X) (hl : nw X ≤ 900) :
    Calls Tryz.prog 61 #[.pointer (some ⟨gz, 0, none⟩), .pointer (some ⟨gx, 0, none⟩)] w fun e w' => e = .returned (.pointer (some ⟨gz, 0, none⟩)) ∧ Nz w gz false (X - 1) w' := by
  have cz0 := hz.cell 0
  have cz1 := hz.cell 1
  have cx0 := hx.cell 0
  have cx1 := hx.cell 1
  have fz0 := hz.frozen 0
  have fz1 := hz.frozen 1
  simp only [List.getElem?_toArray, List.getElem?_cons_zero, List.getElem?_cons_succ] at cz0 cz1 cx0 cx1
  go_enter Tryz.func61, Tryz.ntmps61
  go_wp2_with fail
  have lz := hz.lt
  have lx := hx.lt
  have HXX : Hid (Nt w.drew vx X) := hX
  have HBZ : Hid (Bi w.drew gz false (.slice none 0 0)) := hz
  have HBX : Hid (Bi w.drew gx true vx) := hx
  clear hX
  go_region_with (first
    | (go_at_call 132; refine (one_c w.drew).mono ?_; rintro e w1 ⟨v1, rfl, h1, hb1⟩
       have H1 : Hid (Nt w1 v1 1) := h1
       have HB1 : Hid (Below w.drew.heap.size w.drew w1) := hb1
       have HX1 : Hid (Nt w1 vx X) := HXX.out.below hb1
       have d1 := (Blk.below' HBZ.out hb1).cell 1
       have d3 := (Blk.below' HBX.out hb1).cell 1
       simp only [List.getElem?_toArray, List.getElem?_cons_zero, List.getElem?_cons_succ] at d1 d3
       clear h1 hb1)
    | (go_at_call 131; refine (sub_some HX1.out H1.out hpos hl).mono ?_; rintro e w2 ⟨v2, rfl, h2, hb2, hn2⟩
       obtain ⟨a2, c2, rfl, _⟩ := Sl.nil_or h2
       have H2 : Hid (Nt w2 (.slice a2 (nw (X - 1)) c2) (X - 1)) := h2
       have HB2 : Hid (Below w1.heap.size w1 w2) := hb2
       have g1 := (Blk.below' (Blk.below' HBZ.out HB1.out) hb2).cell 1
       have g0 := (Blk.below' (Blk.below' HBZ.out HB1.out) hb2).cell 0
       have gf0 := (Blk.below' (Blk.below' HBZ.out HB1.out) hb2).frozen 0
       have gf := (Blk.below' (Blk.below' HBZ.out HB1.out) hb2).frozen 1
       simp only [List.getElem?_toArray, List.getElem?_cons_zero, List.getElem?_cons_succ] at g1 g0
       have HN2 : Hid (∀ b, (Value.slice a2 (nw (X - 1)) c2).ownBlock = some b → w1.heap.size ≤ b) := hn2
       clear h2 hb2 hn2))
  all_goals
    go_wp2_with fail
    go_ret
    exact ⟨rfl, Nz.stores (grown_of_below (below_chain HB1.out HB2.out)) (Blk.below' (Blk.below' HBZ.out HB1.out) HB2.out) H2.out (fun b hb => Nat.le_trans (HB1.out.size : w.heap.size ≤ _) (HN2.out b hb))⟩

end Wa
end Go.Proofs.YtdpnoaaeplgdjaaGreatDoor
