/-
  THE WALK OF nat's andNot, of 2^p - 1.
-/
import Derived.Test.YtdpnoaaeplgdjaaGreatDoorNa
namespace Go.Proofs.YtdpnoaaeplgdjaaGreatDoor
open Go.RowKit
namespace Wa

theorem mask_rest (X p j : Nat) (h : nw X ≤ j) : wo (2 ^ p - 1 - X % 2 ^ p) j = wo (2 ^ p - 1) j := by
  rw [not_word, wo_high X (nw X) j (nw_lt X) h, Nat.sub_zero, show (18446744073709551615 : Nat) = 2 ^ 64 - 1 from rfl, Nat.and_two_pow_sub_one_eq_mod]
  exact Nat.mod_eq_of_lt (wo_lt _ _)

theorem grown_two {w w1 w2 : World} {v : Value} {g : Nat} (hb : Below w.heap.size w w1) (hl : v.ownBlock = some g ∨ w.heap.size ≤ g) (h : w1.grownBy w2 (some g)) : w.grownBy w2 v.ownBlock :=
  ⟨h.os.trans hb.os, h.tape.trans hb.tape, h.output.trans hb.output, Nat.le_trans hb.size h.size, fun k hk hne => (h.block k (Nat.lt_of_lt_of_le hk hb.size) (fun e => by
    rcases hl with h1 | h1
    · rw [h1] at hne; exact hne e
    · injection e with e; omega)).trans (hb.block k hk)⟩

set_option maxRecDepth 100000 in
set_option maxHeartbeats 8000000 in
theorem andNot_at {w : World} {vz vy vx : Value} {X p n k : Nat} {zz : List Value} (hZ : Sl w vz k zz) (hY : Nt w vy (2 ^ p - 1)) (hX : Nt w vx X) (hneY : ∀ g, vz.ownBlock = some g → vy.ownBlock ≠ some g) (hneX : ∀ g, vz.ownBlock = some g → vx.ownBlock ≠ some g)
    (hp : 0 < p) (hl : nw X ≤ 900) (hl2 : nw (2 ^ p - 1) ≤ 900) (hn : (nw (2 ^ p - 1) < nw X ∧ n = nw (2 ^ p - 1)) ∨ (¬ nw (2 ^ p - 1) < nw X ∧ n = nw X)) :
    Calls Tryz.prog 134 #[vz, vy, vx] w fun e w' => ∃ v, e = .returned v ∧ Nt w' v (2 ^ p - 1 - X % 2 ^ p) ∧ w.grownBy w' vz.ownBlock := by
  have hmk := make_c hZ (show nw (2 ^ p - 1) ≤ 1000 by omega)
  obtain ⟨h, cy, cur1, rfl, _, hcy, _⟩ := Sl.form_pos hY (nw_pos _ (mask_pos p hp))
  obtain ⟨ax, cx, rfl, hcx⟩ := Sl.nil_or hX
  have hneX2 : ∀ g c, vz.ownBlock = some g → (Value.slice ax c cx).ownBlock ≠ some g := fun g c hg => by
    have := hneX g hg
    cases ax <;> exact this
  have hb0 : 0 < nw (2 ^ p - 1) := nw_pos _ (mask_pos p hp)
  have hR : 2 ^ p - 1 - X % 2 ^ p < 18446744073709551616 ^ nw (2 ^ p - 1) := by
    have h2 := nw_lt (2 ^ p - 1)
    omega
  unfold Nt at hX hY
  have hrest := mask_rest X p
  obtain ⟨a, ha⟩ : ∃ a, nw X = a := ⟨_, rfl⟩
  obtain ⟨m, hb⟩ : ∃ m, nw (2 ^ p - 1) = m := ⟨_, rfl⟩
  rw [ha] at hX hcx hl hn hrest ⊢
  rw [hb] at hY hcy hl2 hn hR hmk hb0 ⊢
  have HX : Hid (Sl w (.slice ax a cx) a (wl X a)) := hX
  have HY : Hid (Sl w (.slice (some ⟨h, 0, none⟩) m cy) m (wl (2 ^ p - 1) m)) := hY
  have HR : Hid (2 ^ p - 1 - X % 2 ^ p < 18446744073709551616 ^ m) := hR
  have HNY : Hid (∀ g, vz.ownBlock = some g → g ≠ h) := fun g hg e => hneY g hg (by rw [e]; rfl)
  have HNX : Hid (∀ g, vz.ownBlock = some g → (Value.slice ax a cx).ownBlock ≠ some g) := fun g hg => hneX2 g a hg
  have HREST : Hid (∀ j, a ≤ j → wo (2 ^ p - 1 - X % 2 ^ p) j = wo (2 ^ p - 1) j) := hrest
  obtain ⟨az, cz, rfl, _⟩ := hZ.nil_or
  have hna : n ≤ a := by omega
  have hnm : n ≤ m := by omega
  clear hX hY hR hneY hneX hneX2 ha hb hrest hZ
  rcases hn with ⟨h1, hnn⟩ | ⟨h1, hnn⟩
  · subst n
    have q1 : (m : Int) < (a : Int) := by omega
    go_enter Tryz.func134, Tryz.ntmps134
    go_wp2_with fail
    refine hmk.mono ?_
    rintro e w1 ⟨v, ys, rfl, hy, hb, hbl⟩
    clear hmk
    obtain ⟨g, cap, cur', rfl, _, hcap, _⟩ := Sl.form_pos hy hb0
    have HZ0 : Hid (Sl w1 (.slice (some ⟨g, 0, none⟩) m cap) m ys) := hy
    have HB : Hid (Below w.heap.size w w1) := hb
    have HL : Hid ((Value.slice az k cz).ownBlock = some g ∨ w.heap.size ≤ g) := hbl g rfl
    have HGH : Hid (g ≠ h) := by
      rcases HL.out with h1 | h1
      · exact HNY.out g h1
      · have := HY.out.cap.2.2
        intro e
        omega
    have HGX : Hid ((Value.slice ax a cx).ownBlock ≠ some g) := by
      rcases HL.out with h1 | h1
      · exact HNX.out g h1
      · intro e
        have := World.ownsRow.lt HX.out g e
        omega
    have HX1 : Hid (Sl w1 (.slice ax a cx) a (wl X a)) := HX.out.below HB.out
    have HY1 : Hid (Sl w1 (.slice (some ⟨h, 0, none⟩) m cy) m (wl (2 ^ p - 1) m)) := HY.out.below HB.out
    clear hy hb hbl
    go_wp2_with fail
    go_loopg [9] (m + 1) (fun gk s9 wx => ∃ i : Nat, s9 = .int .i64 (i : Int) ∧ i ≤ m ∧ m < gk + i ∧ (∃ zs, Hid (Sl wx (.slice (some ⟨g, 0, none⟩) m cap) m zs) ∧ Hid (∀ j, j < i → zs[j]? = some (.int .u64 ((wo (2 ^ p - 1 - X % 2 ^ p) j : Nat) : Int)))) ∧
      Hid (w1.grownBy wx (some g)))
    case atStart => exact ⟨0, rfl, Nat.zero_le _, by omega, ⟨_, HZ0, fun j hj => by omega⟩, World.grownBy.refl _ _⟩
    case round =>
      obtain ⟨i, rfl, him, hgk, ⟨zs, HZ, HD⟩, HG⟩ := hrel
      by_cases hlt : i < m
      · have p1 : (i : Int) < (m : Int) := by omega
        have p2 : (i : Int) < (a : Int) := by omega
        have p3 : (i : Int) < (m : Int) := by omega
        obtain ⟨h2, c2, cur2, hv2, _⟩ := HX1.out.form_pos (by omega)
        obtain ⟨rfl, rfl⟩ : ax = some ⟨h2, 0, none⟩ ∧ cx = c2 := by injection hv2 with e1 e2 e3; exact ⟨e1, e3⟩
        clear hv2
        have HXr : Hid (Sl wr (.slice (some ⟨h2, 0, none⟩) a cx) a (wl X a)) := HX1.out.kept HG.out (.inr HGX.out)
        have cx1 := HXr.out.cell i (by omega)
        rw [wl_at _ _ _ (by omega)] at cx1
        have HYr : Hid (Sl wr (.slice (some ⟨h, 0, none⟩) m cy) m (wl (2 ^ p - 1) m)) := HY1.out.kept HG.out (.inr (fun e => HGH.out (Option.some.inj e).symm))
        have cy1 := HYr.out.cell i (by omega)
        rw [wl_at _ _ _ (by omega)] at cy1
        have cf := HZ.out.frozen i
        obtain ⟨z9, cz9⟩ : ∃ z9, wr.cell? ⟨g, i, none⟩ = some z9 := ⟨zs[i]'(by rw [HZ.out.len]; omega), by rw [HZ.out.cell i (by omega), List.getElem?_eq_getElem]⟩
        have hand := not_word X p i
        have hxl := wo_lt X i
        have hyl := wo_lt (2 ^ p - 1) i
        obtain ⟨xi, hxi⟩ : ∃ xi : Nat, wo X i = xi := ⟨_, rfl⟩
        obtain ⟨yi, hyi⟩ : ∃ yi : Nat, wo (2 ^ p - 1) i = yi := ⟨_, rfl⟩
        obtain ⟨ri, hri⟩ : ∃ ri : Nat, wo (2 ^ p - 1 - X % 2 ^ p) i = ri := ⟨_, rfl⟩
        rw [hxi] at cx1 hand hxl
        rw [hyi] at cy1 hand hyl
        rw [hri] at hand
        have hbb : bits .andNot .u64 (yi : Int) (xi : Int) = (ri : Int) := by rw [u64_andNot_nat yi xi hyl hxl, ← hand]
        have HRI : Hid (wo (2 ^ p - 1 - X % 2 ^ p) i = ri) := hri
        clear hxi hyi hri hand hxl hyl
        obtain ⟨g', rfl⟩ : ∃ g', gk = g' + 1 := ⟨gk - 1, by omega⟩
        go_wp2_with fail
        refine wp_region_still_tail 12 rfl (by kernel_rfl) ?_
        simp only [List.take_succ_cons, List.take_zero, List.drop_succ_cons, List.drop_zero]
        repeat still_step
        refine wpStill_nil ?_
        go_wp2_with fail
        go_roundg g'
        case measure => omega
        case rel =>
          refine ⟨i + 1, congrArg _ (by omega), by omega, by omega, ⟨_, (HZ.out.set i (.int .u64 (ri : Int))).1.like rfl, ?_⟩, by refine grown_like (grown_setCell (o := i) (u := .int .u64 (ri : Int)) HG.out) ?_ ?_ ?_ ?_ <;> rfl⟩
          intro j hj
          rw [List.getElem?_set]
          by_cases c : i = j
          · subst c
            rw [if_pos rfl, if_pos (by rw [HZ.out.len]; omega), HRI.out]
          · rw [if_neg c]
            exact HD.out j (by omega)
      · have hi : i = m := by omega
        subst hi
        have HW : Hid (Sl wr (.slice (some ⟨g, 0, none⟩) i cap) i (wl (2 ^ p - 1 - X % 2 ^ p) i)) := by
          have e := wl_ext (2 ^ p - 1 - X % 2 ^ p) i zs HZ.out.len HD.out
          have := HZ.out
          rw [e] at this
          exact this
        have p9 : (i : Int) ≤ (cap : Int) := by omega
        have p8 : (i : Int) ≤ (cy : Int) := by omega
        rcases Decidable.em (cap = i) with hcc | hcc <;> rcases Decidable.em (cy = i) with hdd | hdd
        all_goals
          try subst cap
          try subst cy
          go_wp2_with fail
          refine wp_region_still_tail 8 rfl (by kernel_rfl) ?_
          simp only [List.take_succ_cons, List.take_zero, List.drop_succ_cons, List.drop_zero]
          repeat still_step
          refine wpStill_nil ?_
          refine wpList_copy_none rfl 159 und159 _ _ rfl _ _ _ _ _ _ rfl rfl (by simp) ?_
          go_wp2_with fail
          refine (norm_c (HW.out.like (w2 := wr.drew) rfl) HR.out (by omega)).mono ?_
          rintro e w5 ⟨rfl, hb5⟩
          go_wp2_with fail
          go_ret
          exact ⟨_, rfl, Nt.below (Nt.norm (HW.out.like (w2 := wr.drew) rfl) HR.out) hb5, grown_two HB.out HL.out (grown_below (grown_like (w2 := wr.drew) HG.out rfl rfl rfl rfl) hb5)⟩
  
  · subst n
    have q1 : ¬ ((m : Int) < (a : Int)) := by omega
    by_cases h2 : a = m
    · subst a
      go_enter Tryz.func134, Tryz.ntmps134
      go_wp2_with fail
      refine hmk.mono ?_
      rintro e w1 ⟨v, ys, rfl, hy, hb, hbl⟩
      clear hmk
      obtain ⟨g, cap, cur', rfl, _, hcap, _⟩ := Sl.form_pos hy hb0
      have HZ0 : Hid (Sl w1 (.slice (some ⟨g, 0, none⟩) m cap) m ys) := hy
      have HB : Hid (Below w.heap.size w w1) := hb
      have HL : Hid ((Value.slice az k cz).ownBlock = some g ∨ w.heap.size ≤ g) := hbl g rfl
      have HGH : Hid (g ≠ h) := by
        rcases HL.out with h1 | h1
        · exact HNY.out g h1
        · have := HY.out.cap.2.2
          intro e
          omega
      have HGX : Hid ((Value.slice ax m cx).ownBlock ≠ some g) := by
        rcases HL.out with h1 | h1
        · exact HNX.out g h1
        · intro e
          have := World.ownsRow.lt HX.out g e
          omega
      have HX1 : Hid (Sl w1 (.slice ax m cx) m (wl X m)) := HX.out.below HB.out
      have HY1 : Hid (Sl w1 (.slice (some ⟨h, 0, none⟩) m cy) m (wl (2 ^ p - 1) m)) := HY.out.below HB.out
      clear hy hb hbl
      go_wp2_with fail
      go_loopg [9] (m + 1) (fun gk s9 wx => ∃ i : Nat, s9 = .int .i64 (i : Int) ∧ i ≤ m ∧ m < gk + i ∧ (∃ zs, Hid (Sl wx (.slice (some ⟨g, 0, none⟩) m cap) m zs) ∧ Hid (∀ j, j < i → zs[j]? = some (.int .u64 ((wo (2 ^ p - 1 - X % 2 ^ p) j : Nat) : Int)))) ∧
        Hid (w1.grownBy wx (some g)))
      case atStart => exact ⟨0, rfl, Nat.zero_le _, by omega, ⟨_, HZ0, fun j hj => by omega⟩, World.grownBy.refl _ _⟩
      case round =>
        obtain ⟨i, rfl, him, hgk, ⟨zs, HZ, HD⟩, HG⟩ := hrel
        by_cases hlt : i < m
        · have p1 : (i : Int) < (m : Int) := by omega
          have p2 : (i : Int) < (m : Int) := by omega
          have p3 : (i : Int) < (m : Int) := by omega
          obtain ⟨h2, c2, cur2, hv2, _⟩ := HX1.out.form_pos (by omega)
          obtain ⟨rfl, rfl⟩ : ax = some ⟨h2, 0, none⟩ ∧ cx = c2 := by injection hv2 with e1 e2 e3; exact ⟨e1, e3⟩
          clear hv2
          have HXr : Hid (Sl wr (.slice (some ⟨h2, 0, none⟩) m cx) m (wl X m)) := HX1.out.kept HG.out (.inr HGX.out)
          have cx1 := HXr.out.cell i (by omega)
          rw [wl_at _ _ _ (by omega)] at cx1
          have HYr : Hid (Sl wr (.slice (some ⟨h, 0, none⟩) m cy) m (wl (2 ^ p - 1) m)) := HY1.out.kept HG.out (.inr (fun e => HGH.out (Option.some.inj e).symm))
          have cy1 := HYr.out.cell i (by omega)
          rw [wl_at _ _ _ (by omega)] at cy1
          have cf := HZ.out.frozen i
          obtain ⟨z9, cz9⟩ : ∃ z9, wr.cell? ⟨g, i, none⟩ = some z9 := ⟨zs[i]'(by rw [HZ.out.len]; omega), by rw [HZ.out.cell i (by omega), List.getElem?_eq_getElem]⟩
          have hand := not_word X p i
          have hxl := wo_lt X i
          have hyl := wo_lt (2 ^ p - 1) i
          obtain ⟨xi, hxi⟩ : ∃ xi : Nat, wo X i = xi := ⟨_, rfl⟩
          obtain ⟨yi, hyi⟩ : ∃ yi : Nat, wo (2 ^ p - 1) i = yi := ⟨_, rfl⟩
          obtain ⟨ri, hri⟩ : ∃ ri : Nat, wo (2 ^ p - 1 - X % 2 ^ p) i = ri := ⟨_, rfl⟩
          rw [hxi] at cx1 hand hxl
          rw [hyi] at cy1 hand hyl
          rw [hri] at hand
          have hbb : bits .andNot .u64 (yi : Int) (xi : Int) = (ri : Int) := by rw [u64_andNot_nat yi xi hyl hxl, ← hand]
          have HRI : Hid (wo (2 ^ p - 1 - X % 2 ^ p) i = ri) := hri
          clear hxi hyi hri hand hxl hyl
          obtain ⟨g', rfl⟩ : ∃ g', gk = g' + 1 := ⟨gk - 1, by omega⟩
          go_wp2_with fail
          refine wp_region_still_tail 12 rfl (by kernel_rfl) ?_
          simp only [List.take_succ_cons, List.take_zero, List.drop_succ_cons, List.drop_zero]
          repeat still_step
          refine wpStill_nil ?_
          go_wp2_with fail
          go_roundg g'
          case measure => omega
          case rel =>
            refine ⟨i + 1, congrArg _ (by omega), by omega, by omega, ⟨_, (HZ.out.set i (.int .u64 (ri : Int))).1.like rfl, ?_⟩, by refine grown_like (grown_setCell (o := i) (u := .int .u64 (ri : Int)) HG.out) ?_ ?_ ?_ ?_ <;> rfl⟩
            intro j hj
            rw [List.getElem?_set]
            by_cases c : i = j
            · subst c
              rw [if_pos rfl, if_pos (by rw [HZ.out.len]; omega), HRI.out]
            · rw [if_neg c]
              exact HD.out j (by omega)
        · have hi : i = m := by omega
          subst hi
          have HW : Hid (Sl wr (.slice (some ⟨g, 0, none⟩) i cap) i (wl (2 ^ p - 1 - X % 2 ^ p) i)) := by
            have e := wl_ext (2 ^ p - 1 - X % 2 ^ p) i zs HZ.out.len HD.out
            have := HZ.out
            rw [e] at this
            exact this
          have p9 : (i : Int) ≤ (cap : Int) := by omega
          have p8 : (i : Int) ≤ (cy : Int) := by omega
          rcases Decidable.em (cap = i) with hcc | hcc <;> rcases Decidable.em (cy = i) with hdd | hdd
          all_goals
            try subst cap
            try subst cy
            go_wp2_with fail
            refine wp_region_still_tail 8 rfl (by kernel_rfl) ?_
            simp only [List.take_succ_cons, List.take_zero, List.drop_succ_cons, List.drop_zero]
            repeat still_step
            refine wpStill_nil ?_
            refine wpList_copy_none rfl 159 und159 _ _ rfl _ _ _ _ _ _ rfl rfl (by simp) ?_
            go_wp2_with fail
            refine (norm_c (HW.out.like (w2 := wr.drew) rfl) HR.out (by omega)).mono ?_
            rintro e w5 ⟨rfl, hb5⟩
            go_wp2_with fail
            go_ret
            exact ⟨_, rfl, Nt.below (Nt.norm (HW.out.like (w2 := wr.drew) rfl) HR.out) hb5, grown_two HB.out HL.out (grown_below (grown_like (w2 := wr.drew) HG.out rfl rfl rfl rfl) hb5)⟩


    · have q2 : a < m := by omega
      go_enter Tryz.func134, Tryz.ntmps134
      go_wp2_with fail
      refine hmk.mono ?_
      rintro e w1 ⟨v, ys, rfl, hy, hb, hbl⟩
      clear hmk
      obtain ⟨g, cap, cur', rfl, _, hcap, _⟩ := Sl.form_pos hy hb0
      have HZ0 : Hid (Sl w1 (.slice (some ⟨g, 0, none⟩) m cap) m ys) := hy
      have HB : Hid (Below w.heap.size w w1) := hb
      have HL : Hid ((Value.slice az k cz).ownBlock = some g ∨ w.heap.size ≤ g) := hbl g rfl
      have HGH : Hid (g ≠ h) := by
        rcases HL.out with h1 | h1
        · exact HNY.out g h1
        · have := HY.out.cap.2.2
          intro e
          omega
      have HGX : Hid ((Value.slice ax a cx).ownBlock ≠ some g) := by
        rcases HL.out with h1 | h1
        · exact HNX.out g h1
        · intro e
          have := World.ownsRow.lt HX.out g e
          omega
      have HX1 : Hid (Sl w1 (.slice ax a cx) a (wl X a)) := HX.out.below HB.out
      have HY1 : Hid (Sl w1 (.slice (some ⟨h, 0, none⟩) m cy) m (wl (2 ^ p - 1) m)) := HY.out.below HB.out
      clear hy hb hbl
      go_wp2_with fail
      go_loopg [9] (a + 1) (fun gk s9 wx => ∃ i : Nat, s9 = .int .i64 (i : Int) ∧ i ≤ a ∧ a < gk + i ∧ (∃ zs, Hid (Sl wx (.slice (some ⟨g, 0, none⟩) m cap) m zs) ∧ Hid (∀ j, j < i → zs[j]? = some (.int .u64 ((wo (2 ^ p - 1 - X % 2 ^ p) j : Nat) : Int)))) ∧
        Hid (w1.grownBy wx (some g)))
      case atStart => exact ⟨0, rfl, Nat.zero_le _, by omega, ⟨_, HZ0, fun j hj => by omega⟩, World.grownBy.refl _ _⟩
      case round =>
        obtain ⟨i, rfl, him, hgk, ⟨zs, HZ, HD⟩, HG⟩ := hrel
        by_cases hlt : i < a
        · have p1 : (i : Int) < (a : Int) := by omega
          have p2 : (i : Int) < (a : Int) := by omega
          have p3 : (i : Int) < (m : Int) := by omega
          obtain ⟨h2, c2, cur2, hv2, _⟩ := HX1.out.form_pos (by omega)
          obtain ⟨rfl, rfl⟩ : ax = some ⟨h2, 0, none⟩ ∧ cx = c2 := by injection hv2 with e1 e2 e3; exact ⟨e1, e3⟩
          clear hv2
          have HXr : Hid (Sl wr (.slice (some ⟨h2, 0, none⟩) a cx) a (wl X a)) := HX1.out.kept HG.out (.inr HGX.out)
          have cx1 := HXr.out.cell i (by omega)
          rw [wl_at _ _ _ (by omega)] at cx1
          have HYr : Hid (Sl wr (.slice (some ⟨h, 0, none⟩) m cy) m (wl (2 ^ p - 1) m)) := HY1.out.kept HG.out (.inr (fun e => HGH.out (Option.some.inj e).symm))
          have cy1 := HYr.out.cell i (by omega)
          rw [wl_at _ _ _ (by omega)] at cy1
          have cf := HZ.out.frozen i
          obtain ⟨z9, cz9⟩ : ∃ z9, wr.cell? ⟨g, i, none⟩ = some z9 := ⟨zs[i]'(by rw [HZ.out.len]; omega), by rw [HZ.out.cell i (by omega), List.getElem?_eq_getElem]⟩
          have hand := not_word X p i
          have hxl := wo_lt X i
          have hyl := wo_lt (2 ^ p - 1) i
          obtain ⟨xi, hxi⟩ : ∃ xi : Nat, wo X i = xi := ⟨_, rfl⟩
          obtain ⟨yi, hyi⟩ : ∃ yi : Nat, wo (2 ^ p - 1) i = yi := ⟨_, rfl⟩
          obtain ⟨ri, hri⟩ : ∃ ri : Nat, wo (2 ^ p - 1 - X % 2 ^ p) i = ri := ⟨_, rfl⟩
          rw [hxi] at cx1 hand hxl
          rw [hyi] at cy1 hand hyl
          rw [hri] at hand
          have hbb : bits .andNot .u64 (yi : Int) (xi : Int) = (ri : Int) := by rw [u64_andNot_nat yi xi hyl hxl, ← hand]
          have HRI : Hid (wo (2 ^ p - 1 - X % 2 ^ p) i = ri) := hri
          clear hxi hyi hri hand hxl hyl
          obtain ⟨g', rfl⟩ : ∃ g', gk = g' + 1 := ⟨gk - 1, by omega⟩
          go_wp2_with fail
          refine wp_region_still_tail 12 rfl (by kernel_rfl) ?_
          simp only [List.take_succ_cons, List.take_zero, List.drop_succ_cons, List.drop_zero]
          repeat still_step
          refine wpStill_nil ?_
          go_wp2_with fail
          go_roundg g'
          case measure => omega
          case rel =>
            refine ⟨i + 1, congrArg _ (by omega), by omega, by omega, ⟨_, (HZ.out.set i (.int .u64 (ri : Int))).1.like rfl, ?_⟩, by refine grown_like (grown_setCell (o := i) (u := .int .u64 (ri : Int)) HG.out) ?_ ?_ ?_ ?_ <;> rfl⟩
            intro j hj
            rw [List.getElem?_set]
            by_cases c : i = j
            · subst c
              rw [if_pos rfl, if_pos (by rw [HZ.out.len]; omega), HRI.out]
            · rw [if_neg c]
              exact HD.out j (by omega)
        · have hi : i = a := by omega
          subst hi
          have HYr : Hid (Sl wr (.slice (some ⟨h, 0, none⟩) m cy) m (wl (2 ^ p - 1) m)) := HY1.out.kept HG.out (.inr (fun e => HGH.out (Option.some.inj e).symm))
          have HW : Hid (Sl (wr.setCells g i ((wl (2 ^ p - 1) m).drop i)) (.slice (some ⟨g, 0, none⟩) m cap) m (wl (2 ^ p - 1 - X % 2 ^ p) m)) := by
            obtain ⟨ts, t1, t2⟩ := Sl.sets ((wl (2 ^ p - 1) m).drop i) i _ _ HZ.out (by rw [List.length_drop, wl_len]; omega)
            have e : ts = wl (2 ^ p - 1 - X % 2 ^ p) m := by
              refine wl_ext _ _ ts t1.len fun j hj => ?_
              rw [t2 j, List.length_drop, wl_len]
              by_cases c : i ≤ j
              · rw [if_pos (by omega), List.getElem?_drop, show i + (j - i) = j from by omega, wl_at _ _ _ hj, HREST.out j c]
              · rw [if_neg (by omega)]
                exact HD.out j (by omega)
            rw [e] at t1
            exact t1
          have p9 : (m : Int) ≤ (cap : Int) := by omega
          have p8 : (m : Int) ≤ (cy : Int) := by omega
          have p7 : (i : Int) ≤ (m : Int) := by omega
          have p6 : ¬ (cap = i) := by omega
          have p5 : ¬ (cy = i) := by omega
          go_wp2_with fail
          refine wp_region_still_tail 8 rfl (by kernel_rfl) ?_
          simp only [List.take_succ_cons, List.take_zero, List.drop_succ_cons, List.drop_zero]
          repeat still_step
          refine wpStill_nil ?_
          refine wpList_copy_tail rfl 159 und159 _ _ rfl (T := i) (HZ.out.like (w2 := wr.drew) rfl) (HYr.out.like (w2 := wr.drew) rfl) rfl rfl rfl rfl (by omega) (Nat.le_refl _) (wl_one _ _) ?_
          go_wp2_with fail
          refine (norm_c (HW.out.like (setCells_heap g _ _ wr wr.drew rfl)) HR.out (by omega)).mono ?_
          rintro e w5 ⟨rfl, hb5⟩
          go_wp2_with fail
          go_ret
          exact ⟨_, rfl, Nt.below (Nt.norm (HW.out.like (setCells_heap g _ _ wr wr.drew rfl)) HR.out) hb5, grown_two HB.out HL.out (grown_below (grown_setCells g ((wl (2 ^ p - 1) m).drop i) i _ (grown_like (w2 := wr.drew) HG.out rfl rfl rfl rfl)) hb5)⟩


end Wa
end Go.Proofs.YtdpnoaaeplgdjaaGreatDoor
