/-
  THE WALK OF big.Int's SetInt64, of constant.Val and of the thin package's parts, of an integer.
-/
import Derived.Test.YtdpnoaaeplgdjaaGreatDoorTlNo
namespace Go.Proofs.YtdpnoaaeplgdjaaGreatDoor
open Go.RowKit Go.Proofs.YtdpnoaaeplgdjaaGreatDoorW.PrintWords Go.Proofs.YtdpnoaaeplgdjaaGreatDoorW.PrintMore
namespace Wa
open Rg Dg Sp
attribute [local go_sem ↓] exec_store24

set_option maxRecDepth 100000 in
set_option maxHeartbeats 4000000 in
theorem setWord_c {w : World} {m : Nat} (hm : m < 18446744073709551616) : Calls Tryz.prog 181 #[.slice none 0 0, .int .u64 (m : Int)] w fun e w' => ∃ v, e = .returned v ∧ Nt w' v m ∧ Below w.heap.size w w' := by
  rcases Nat.eq_zero_or_pos m with h0 | h0
  · subst h0
    go_enter Tryz.func181, Tryz.ntmps181
    go_wp2
    go_ret
    exact ⟨_, rfl, Nt.nil _, Below.refl _ _⟩
  · have q1 : ¬ ((m : Int) = 0) := by omega
    have hmk := make_c (World.ownsRow_nil w 0 170 1) (show 1 ≤ 1000 by decide)
    have hn : nw m = 1 := by
      have a := nw_pos m h0
      have b := (nw_le_iff m 1).2 (by rw [Nat.pow_one]; exact hm)
      omega
    have HN : Hid (nw m = 1) := hn
    have HW : Hid (wo m 0 = m) := by
      show wo m 0 = m
      rw [wo_at0, Nat.mod_eq_of_lt hm]
    have h156 : Calls Tryz.prog 156 #[.slice none 0 0, .int .u64 (m : Int)] w fun e w' => ∃ v, e = .returned v ∧ Nt w' v m ∧ Below w.heap.size w w' := by
      clear hm hn
      go_enter Tryz.func156, Tryz.ntmps156
      go_wp2_with fail
      refine hmk.mono ?_
      rintro e w1 ⟨v, ys, rfl, hy, hb, hbl⟩
      obtain ⟨g, cap, cur', rfl, _, hcap, _⟩ := Sl.form_pos hy (by decide)
      have HZ : Hid (Sl w1 (.slice (some ⟨g, 0, none⟩) 1 cap) 1 ys) := hy
      have HB : Hid (Below w.heap.size w w1) := hb
      have HL : Hid (w.heap.size ≤ g) := (hbl g rfl).resolve_left (by simp [Value.ownBlock])
      obtain ⟨z9, cz⟩ : ∃ z9, w1.cell? ⟨g, 0, none⟩ = some z9 := ⟨ys[0]'(by rw [hy.len]; decide), by rw [hy.cell 0 (by decide), List.getElem?_eq_getElem]⟩
      have cf := hy.frozen 0
      clear hy hb hbl hmk
      go_wp2_with fail
      go_ret
      have h1 := (HZ.out.set 0 (.int .u64 (m : Int))).1
      have e : ys.set 0 (.int .u64 (m : Int)) = wl m 1 := by
        refine wl_ext m 1 _ (by simp [HZ.out.len]) fun j hj => ?_
        have : j = 0 := by omega
        subst this
        rw [List.getElem?_set, if_pos rfl, if_pos (by rw [HZ.out.len]; decide), HW.out]
      rw [e] at h1
      exact ⟨_, rfl, by unfold Nt; rw [HN.out]; exact h1, HB.out.setCell (p := ⟨g, 0, none⟩) HL.out _⟩
    clear hmk hm hn
    go_enter Tryz.func181, Tryz.ntmps181
    go_wp2_with fail
    refine h156.mono ?_
    rintro e w1 ⟨v, rfl, hv, hb⟩
    have HH : Hid (Nt w1 v m ∧ Below w.heap.size w w1) := ⟨hv, hb⟩
    clear hv hb h156
    go_wp2_with fail
    go_ret
    exact ⟨_, rfl, HH.out⟩

set_option maxRecDepth 100000 in
set_option maxHeartbeats 4000000 in
theorem setInt64_c {w : World} {g m : Nat} {s : Bool} (h : Bi w g false (.slice none 0 0)) (hsm : small s m) (hs : s = true → 0 < m) : Calls Tryz.prog 115 #[.pointer (some ⟨g, 0, none⟩), .int .i64 (sv s m)] w fun e w' => e = .returned (.pointer (some ⟨g, 0, none⟩)) ∧ ∃ v, Bi w' g s v ∧ Nt w' v m ∧ w.grownBy w' (some g) := by
  have hm : m < 18446744073709551616 := by rcases hsm with h | ⟨_, h⟩ <;> omega
  have hc := setWord_c (w := w) hm
  have c0 := h.cell 0
  have c1 := h.cell 1
  simp only [List.getElem?_toArray, List.getElem?_cons_zero, List.getElem?_cons_succ] at c0 c1
  have HB : Hid (Bi w g false (.slice none 0 0)) := h
  have fin : ∀ (w1 : World) (v : Value), Bi w1 g false (.slice none 0 0) → Nt w1 v m → Below w.heap.size w w1 → ∃ v', Bi ((w1.setCell ⟨g, 1, none⟩ v).setCell ⟨g, 0, none⟩ (.bool s)) g s v' ∧ Nt ((w1.setCell ⟨g, 1, none⟩ v).setCell ⟨g, 0, none⟩ (.bool s)) v' m ∧ w.grownBy ((w1.setCell ⟨g, 1, none⟩ v).setCell ⟨g, 0, none⟩ (.bool s)) (some g) :=
    fun w1 v hB hv hb => ⟨v, hB.set1.set0, (hv.set (hB.ne_row hv)).set (hB.ne_row hv), grown_setCell (grown_setCell (grown_of_below hb))⟩
  have HF : Hid (∀ (w1 : World) (v : Value), Bi w1 g false (.slice none 0 0) → Nt w1 v m → Below w.heap.size w w1 → ∃ v', Bi ((w1.setCell ⟨g, 1, none⟩ v).setCell ⟨g, 0, none⟩ (.bool s)) g s v' ∧ Nt ((w1.setCell ⟨g, 1, none⟩ v).setCell ⟨g, 0, none⟩ (.bool s)) v' m ∧ w.grownBy ((w1.setCell ⟨g, 1, none⟩ v).setCell ⟨g, 0, none⟩ (.bool s)) (some g)) := fin
  cases s with
  | false =>
    have q0 : ¬ ((m : Int) < 0) := by omega
    have e1 : IntKind.u64.wrap (m : Int) = (m : Int) := by simp only [IntKind.wrap_u64]; omega
    show Calls Tryz.prog 115 #[.pointer (some ⟨g, 0, none⟩), .int .i64 (m : Int)] w _
    clear h hsm hs hm fin
    go_enter Tryz.func115, Tryz.ntmps115
    go_wp2_with fail
    refine hc.mono ?_
    rintro e w1 ⟨v, rfl, hv, hb⟩
    have hB1 : Bi w1 g false (.slice none 0 0) := Blk.below' HB.out hb
    have HH : Hid (Nt w1 v m ∧ Below w.heap.size w w1 ∧ Bi w1 g false (.slice none 0 0)) := ⟨hv, hb, hB1⟩
    have e0 := hB1.cell 0
    have e2 := hB1.cell 1
    have f0 := hB1.frozen 0
    have f1 := hB1.frozen 1
    simp only [List.getElem?_toArray, List.getElem?_cons_zero, List.getElem?_cons_succ] at e0 e2
    obtain ⟨a, c, rfl, _⟩ := Sl.nil_or hv
    clear hv hb hc hB1
    go_wp2_with fail
    go_ret
    exact ⟨rfl, HF.out _ _ HH.out.2.2 HH.out.1 HH.out.2.1⟩
  | true =>
    have hp := hs rfl
    have q0 : -(m : Int) < 0 := by omega
    obtain ⟨D, eD⟩ : ∃ D : Int, IntKind.i64.wrap (m : Int) = D := ⟨_, rfl⟩
    have eU : IntKind.u64.wrap D = (m : Int) := by
      rw [← eD, IntKind.wrap_i64]
      simp only [IntKind.wrap_u64]
      have : m ≤ 9223372036854775808 := by rcases hsm with h | ⟨_, h⟩ <;> omega
      omega
    show Calls Tryz.prog 115 #[.pointer (some ⟨g, 0, none⟩), .int .i64 (-(m : Int))] w _
    clear h hsm hs hm fin hp
    go_enter Tryz.func115, Tryz.ntmps115
    go_wp2_with fail
    refine hc.mono ?_
    rintro e w1 ⟨v, rfl, hv, hb⟩
    have hB1 : Bi w1 g false (.slice none 0 0) := Blk.below' HB.out hb
    have HH : Hid (Nt w1 v m ∧ Below w.heap.size w w1 ∧ Bi w1 g false (.slice none 0 0)) := ⟨hv, hb, hB1⟩
    have e0 := hB1.cell 0
    have e2 := hB1.cell 1
    have f0 := hB1.frozen 0
    have f1 := hB1.frozen 1
    simp only [List.getElem?_toArray, List.getElem?_cons_zero, List.getElem?_cons_succ] at e0 e2
    obtain ⟨a, c, rfl, _⟩ := Sl.nil_or hv
    clear hv hb hc hB1
    go_wp2_with fail
    go_ret
    exact ⟨rfl, HF.out _ _ HH.out.2.2 HH.out.1 HH.out.2.1⟩

set_option maxRecDepth 100000 in
theorem val_small (x : Int) (w : World) : Calls Tryz.prog 113 #[.iface 86 (.int .i64 x)] w fun e w' => e = .returned (.iface 2 (.int .i64 x)) ∧ Below w.heap.size w w' := by
  go_enter Tryz.func113, Tryz.ntmps113
  go_wp2
  go_ret
  exact ⟨rfl, Below.refl _ _⟩
set_option maxRecDepth 100000 in
theorem val_big (g : Nat) (w : World) : Calls Tryz.prog 113 #[.iface 89 (.agg #[.pointer (some ⟨g, 0, none⟩)])] w fun e w' => e = .returned (.iface 87 (.pointer (some ⟨g, 0, none⟩))) ∧ Below w.heap.size w w' := by
  go_enter Tryz.func113, Tryz.ntmps113
  go_wp2
  go_ret
  exact ⟨rfl, (Below.refl _ _).alloc (Nat.le_refl _) _⟩
end Wa
end Go.Proofs.YtdpnoaaeplgdjaaGreatDoor
