/-
  THE WALK OF big.Int's methods Not (of a number that is not below 0), Lsh, NewInt.
-/
import Derived.Test.YtdpnoaaeplgdjaaGreatDoorIn
namespace Go.Proofs.YtdpnoaaeplgdjaaGreatDoor
open Go.RowKit
namespace Wa
open Rg

set_option maxRecDepth 100000 in
theorem add_c {w : World} {vx v1 : Value} {X : Nat} (hX : Nt w vx X) (h1 : Nt w v1 1) (hl : nw X ≤ 900) : Calls Tryz.prog 133 #[.slice none 0 0, vx, v1] w fun e w' => ∃ v, e = .returned v ∧ Nt w' v (X + 1) ∧ Below w.heap.size w w' ∧ ∀ b, v.ownBlock = some b → w.heap.size ≤ b := by
  rcases Nat.eq_zero_or_pos X with h0 | h0
  · subst h0
    have hs := add_none h1 hX
    obtain ⟨a, c, rfl, _⟩ := Sl.nil_or h1
    obtain ⟨a', c', rfl, _⟩ := Sl.nil_or hX
    rw [nw_one, nw_zero] at *
    clear h1 hX
    go_enter Tryz.func133, Tryz.ntmps133
    go_wp2_with fail
    refine hs.mono ?_
    rintro e w1 ⟨v, rfl, hv, hb, hn⟩
    go_wp2_with fail
    go_ret
    exact ⟨_, rfl, hv, hb, hn⟩
  · exact add_some hX h1 h0 hl

set_option maxRecDepth 100000 in
set_option maxHeartbeats 8000000 in
theorem not_pos {w : World} {gz gx : Nat} {vx : Value} {X : Nat} (hz : Bi w gz false (.slice none 0 0)) (hx : Bi w gx false vx) (hX : Nt w vx X) (hl : nw X ≤ 900) :
    Calls Tryz.prog 61 #[.pointer (some ⟨gz, 0, none⟩), .pointer (some ⟨gx, 0, none⟩)] w fun e w' => e = .returned (.pointer (some ⟨gz, 0, none⟩)) ∧ Nz w gz true (X + 1) w' := by
  have cz0 := hz.cell 0
  have cz1 := hz.cell 1
  have cx0 := hx.cell 0
  have cx1 := hx.cell 1
  have fz0 := hz.frozen 0
  have fz1 := hz.frozen 1
  simp only [List.getElem?_toArray, List.getElem?_cons_zero, List.getElem?_cons_succ] at cz0 cz1 cx0 cx1
  go_enter Tryz.func61, Tryz.ntmps61
  go_wp2_with fail
  have lz := hz.lt
  have lx := hx.lt
  have HXX : Hid (Nt w.drew vx X) := hX
  have HBZ : Hid (Bi w.drew gz false (.slice none 0 0)) := hz
  have HBX : Hid (Bi w.drew gx false vx) := hx
  clear hX
  go_region_with (first
    | (go_at_call 132; refine (one_c w.drew).mono ?_; rintro e w1 ⟨v1, rfl, h1, hb1⟩
       have H1 : Hid (Nt w1 v1 1) := h1
       have HB1 : Hid (Below w.drew.heap.size w.drew w1) := hb1
       have HX1 : Hid (Nt w1 vx X) := HXX.out.below hb1
       have d1 := (Blk.below' HBZ.out hb1).cell 1
       have d3 := (Blk.below' HBX.out hb1).cell 1
       simp only [List.getElem?_toArray, List.getElem?_cons_zero, List.getElem?_cons_succ] at d1 d3
       clear h1 hb1)
    | (go_at_call 133; refine (add_c HX1.out H1.out hl).mono ?_; rintro e w2 ⟨v2, rfl, h2, hb2, hn2⟩
       obtain ⟨a2, c2, rfl, _⟩ := Sl.nil_or h2
       have H2 : Hid (Nt w2 (.slice a2 (nw (X + 1)) c2) (X + 1)) := h2
       have HB2 : Hid (Below w1.heap.size w1 w2) := hb2
       have g1 := (Blk.below' (Blk.below' HBZ.out HB1.out) hb2).cell 1
       have g0 := (Blk.below' (Blk.below' HBZ.out HB1.out) hb2).cell 0
       have gf0 := (Blk.below' (Blk.below' HBZ.out HB1.out) hb2).frozen 0
       have gf := (Blk.below' (Blk.below' HBZ.out HB1.out) hb2).frozen 1
       simp only [List.getElem?_toArray, List.getElem?_cons_zero, List.getElem?_cons_succ] at g1 g0
       have HN2 : Hid (∀ b, (Value.slice a2 (nw (X + 1)) c2).ownBlock = some b → w1.heap.size ≤ b) := hn2
       clear h2 hb2 hn2))
  all_goals
    go_wp2_with fail
    go_ret
    exact ⟨rfl, Nz.stores (grown_of_below (below_chain HB1.out HB2.out)) (Blk.below' (Blk.below' HBZ.out HB1.out) HB2.out) H2.out (fun b hb => Nat.le_trans (HB1.out.size : w.heap.size ≤ _) (HN2.out b hb))⟩

set_option maxRecDepth 100000 in
set_option maxHeartbeats 8000000 in
theorem intLsh_c {w : World} {gz gx s : Nat} {vx : Value} (hz : Bi w gz false (.slice none 0 0)) (hx : Bi w gx true vx) (hX : Nt w vx 1) (hs0 : 0 < s) (hs : s ≤ 300) :
    Calls Tryz.prog 63 #[.pointer (some ⟨gz, 0, none⟩), .pointer (some ⟨gx, 0, none⟩), .int .u64 (s : Int)] w fun e w' => e = .returned (.pointer (some ⟨gz, 0, none⟩)) ∧ ∃ v, Bi w' gz true v ∧ Nt w' v (2 ^ s) ∧ w.grownBy w' (some gz) := by
  have hgg : Hid (gz ≠ gx) := by
    intro e
    subst e
    unfold Bi Blk at hz hx
    rw [hz] at hx
    injection hx with hx
    injection hx with hx
    injection hx with hx
    injection hx with hx _
    injection hx with hx
    cases hx
  have cz1 := hz.cell 1
  have cx1 := hx.cell 1
  simp only [List.getElem?_toArray, List.getElem?_cons_zero, List.getElem?_cons_succ] at cz1 cx1
  have hc := lsh_c (w := w.drew) hX hs0 hs
  have HBZ : Hid (Bi w.drew gz false (.slice none 0 0)) := hz
  have HBX : Hid (Bi w.drew gx true vx) := hx
  clear hz hx hX
  go_enter Tryz.func63, Tryz.ntmps63
  go_wp2_with fail
  go_region_with (go_at_call 137; refine hc.mono ?_; rintro e w2 ⟨v2, rfl, h2, hb2⟩
                  obtain ⟨a2, c2, rfl, _⟩ := Sl.nil_or h2
                  have H2 : Hid (Nt w2 (.slice a2 (nw (2 ^ s)) c2) (2 ^ s)) := h2
                  have HB2 : Hid (Below w.drew.heap.size w.drew w2) := hb2
                  have B2 : Hid (Bi w2 gz false (.slice none 0 0)) := Blk.below' HBZ.out hb2
                  have X2 : Hid (Bi w2 gx true vx) := Blk.below' HBX.out hb2
                  have g0 := B2.out.cell 0
                  have g1 := B2.out.cell 1
                  have gf0 := B2.out.frozen 0
                  have gf1 := B2.out.frozen 1
                  have x0 := X2.out.cell 0
                  simp only [List.getElem?_toArray, List.getElem?_cons_zero, List.getElem?_cons_succ] at g0 g1 x0
                  have hne : gx ≠ gz := fun e => hgg.out e.symm
                  clear h2 hb2)
  all_goals
    go_wp2_with fail
    go_ret
    exact ⟨rfl, _, B2.out.set1.set0, (H2.out.set (B2.out.ne_row H2.out)).set (B2.out.ne_row H2.out), grown_setCell (grown_setCell (grown_of_below ⟨HB2.out.os, HB2.out.tape, HB2.out.output, HB2.out.size, HB2.out.block⟩))⟩
end Wa
end Go.Proofs.YtdpnoaaeplgdjaaGreatDoor
