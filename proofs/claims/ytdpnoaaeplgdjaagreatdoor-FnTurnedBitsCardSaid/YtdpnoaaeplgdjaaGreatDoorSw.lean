/-
  THE WALK OF subVW, behind the first word of a row.
-/
import Derived.Test.YtdpnoaaeplgdjaaGreatDoorAw
namespace Go.Proofs.YtdpnoaaeplgdjaaGreatDoor
open Go.RowKit
namespace Wa
attribute [local go_sem] neq_rows RowB_setCell RowB_drew RowB_drewN

/-- Where the borrow stops: one word stored, the others copied. -/
theorem stoppedS {wr : World} {g k cap n t X u : Nat} {ys : List Value} (hY : Sl wr (.slice (some ⟨g, 0, none⟩) k cap) k ys) (h0 : ∀ j, 1 ≤ j → j < t → ys[j]? = some (.int .u64 ((wo (X - 1) j : Nat) : Int))) (h1 : 1 ≤ t) (ht : t ≤ n) (hk : n < k)
    (hu : u = wo (X - 1) t) (hx0 : 0 < X) (hno : ¬ bo X (t + 1)) : ∃ ys', Sl ((wr.setCell ⟨g, t, none⟩ (.int .u64 (u : Int))).setCells g (t + 1) ((wl X (n + 1)).drop (t + 1))) (.slice (some ⟨g, 0, none⟩) k cap) k ys' ∧ ys'[0]? = ys[0]? ∧
      ∀ j, 1 ≤ j → j ≤ n → ys'[j]? = some (.int .u64 ((wo (X - 1) j : Nat) : Int)) := by
  have hl : ((wl X (n + 1)).drop (t + 1)).length = n - t := by rw [List.length_drop, wl_len]; omega
  obtain ⟨zs, h2, h3⟩ := Sl.sets ((wl X (n + 1)).drop (t + 1)) (t + 1) _ _ (hY.set t (.int .u64 (u : Int))).1 (by rw [hl]; omega)
  refine ⟨zs, h2, ?_, fun j hj1 hj2 => ?_⟩
  · rw [h3 0, if_neg (by omega), List.getElem?_set, if_neg (by omega)]
  · rw [h3 j, hl]
    by_cases c : t + 1 ≤ j
    · rw [if_pos (by omega), List.getElem?_drop, show t + 1 + (j - (t + 1)) = j from by omega, wl_at _ _ _ (by omega), sub1_no X j hx0 (bo_no X (t + 1) j hno c)]
    · rw [if_neg (by omega), List.getElem?_set]
      by_cases c2 : t = j
      · subst c2
        rw [if_pos rfl, if_pos (by rw [hY.len]; omega), hu]
      · rw [if_neg c2, h0 j hj1 (by omega)]

set_option maxRecDepth 100000 in
set_option maxHeartbeats 8000000 in
theorem subVW_c {w : World} {g h k n cap cz cx ch X c : Nat} {zs : List Value} (hx0 : 0 < X) (hgh : g ≠ h) (hZ : Sl w (.slice (some ⟨g, 0, none⟩) k cap) k zs) (hX : Sl w (.slice (some ⟨h, 0, none⟩) (n + 1) ch) (n + 1) (wl X (n + 1)))
    (hn : 1 ≤ n) (hn2 : n ≤ 1000) (hk : n < k) (hcz : n ≤ cz) (hcx : n ≤ cx) (hc : (c = 1 ∧ bo X 1) ∨ (c = 0 ∧ ¬ bo X 1)) :
    Calls Tryz.prog 192 #[.slice (some ⟨g, 1, none⟩) n cz, .slice (some ⟨h, 1, none⟩) n cx, .int .u64 (c : Int)] w fun e w' =>
      ∃ d : Nat, e = .returned (.int .u64 (d : Int)) ∧ ((d = 1 ∧ bo X (n + 1)) ∨ (d = 0 ∧ ¬ bo X (n + 1))) ∧ w.grownBy w' (some g) ∧
        ∃ ys, Sl w' (.slice (some ⟨g, 0, none⟩) k cap) k ys ∧ ys[0]? = zs[0]? ∧ ∀ j, 1 ≤ j → j ≤ n → ys[j]? = some (.int .u64 ((wo (X - 1) j : Nat) : Int)) := by
  have hzc : ∃ z0, w.cell? ⟨g, 1, none⟩ = some z0 := ⟨zs[1]'(by rw [hZ.len]; omega), by rw [hZ.cell 1 (by omega), List.getElem?_eq_getElem]⟩
  obtain ⟨z0, hz⟩ := hzc
  have hf := hZ.frozen 1
  have hx := hX.cell 1 (by omega)
  rw [wl_at _ _ _ (by omega)] at hx
  have hrg := hZ.rowB
  have hrh := hX.rowB
  have HZ : Hid (Sl w (.slice (some ⟨g, 0, none⟩) k cap) k zs) := hZ
  have HX : Hid (Sl w (.slice (some ⟨h, 0, none⟩) (n + 1) ch) (n + 1) (wl X (n + 1))) := hX
  clear hZ hX
  -- where the carry stops at once
  by_cases hs : bo X 2
  · obtain ⟨hc1, hx1⟩ := (bo_succ X 1).1 hs
    have hc2 : c = 1 := by
      rcases hc with ⟨h1, _⟩ | ⟨_, h1⟩
      · exact h1
      · exact absurd hc1 h1
    subst hc2
    have hb := bitsSub1 (wo X 1)
    rw [hx1, show ((0 + 18446744073709551615) % 18446744073709551616 : Nat) = 18446744073709551615 from rfl, if_pos (show 0 < 1 from by decide), show ((18446744073709551615 : Nat) : Int) = 18446744073709551615 from rfl, show ((1 : Nat) : Int) = 1 from rfl] at hb
    rw [show ((1 : Nat) : Int) = 1 from rfl]
    have hw1 : wo (X - 1) 1 = 18446744073709551615 := by rw [sub1_bo X 1 hx0 hc1, hx1]
    rw [hx1] at hx
    have HB : Hid (∀ w, Calls Tryz.prog 247 #[.int .u64 0, .int .u64 1, .int .u64 0] w fun e w' => e = .returned (.tuple #[.int .u64 18446744073709551615, .int .u64 1]) ∧ w' = w) := hb
    have HS : Hid (bo X 2) := hs
    have HW1 : Hid (wo (X - 1) 1 = 18446744073709551615) := hw1
    clear hb hs hw1 hx1 hc hc1
    have q0 : ¬ ((n : Int) = 0) := by omega
    go_enter Tryz.func192, Tryz.ntmps192
    go_wp2_with (go_at_call 247; refine (HB.out _).mono ?_; rintro e w1 ⟨rfl, rfl⟩)
    go_loopg [9] (n + 1) (fun gk s9 wx => ∃ i : Nat, s9 = .int .i64 (i : Int) ∧ 1 ≤ i ∧ i ≤ n ∧ n < gk + i ∧ Hid (bo X (i + 1)) ∧ (∃ ys, Hid (Sl wx (.slice (some ⟨g, 0, none⟩) k cap) k ys) ∧ Hid (ys[0]? = zs[0]?) ∧
      Hid (∀ j, 1 ≤ j → j ≤ i → ys[j]? = some (.int .u64 ((wo (X - 1) j : Nat) : Int)))) ∧ Hid (w1.grownBy wx (some g)))
    case atStart =>
      refine ⟨1, rfl, Nat.le_refl _, hn, by omega, HS, ⟨_, (HZ.out.set 1 (.int .u64 18446744073709551615)).1, ?_, ?_⟩, grown_setCell (World.grownBy.refl _ _)⟩
      · show (zs.set 1 _)[0]? = zs[0]?
        rw [List.getElem?_set, if_neg (by omega)]
      · intro j h1 h2
        have : j = 1 := by omega
        subst this
        rw [List.getElem?_set, if_pos rfl, if_pos (by rw [HZ.out.len]; omega), HW1.out]
        rfl
    case round =>
      obtain ⟨i, rfl, hi1, hin, hgk, HC, ⟨ys, HY, HY0, HYj⟩, HG⟩ := hrel
      have hgh' := hgh
      by_cases hlt : i < n
      · have HXr : Hid (Sl wr (.slice (some ⟨h, 0, none⟩) (n + 1) ch) (n + 1) (wl X (n + 1))) := HX.out.kept HG.out (.inr (fun e => hgh (Option.some.inj e).symm))
        have rg := HY.out.rowB
        have rh := HXr.out.rowB
        have cx1 := HXr.out.cell (1 + i) (by omega)
        rw [wl_at _ _ _ (by omega)] at cx1
        have cf := HY.out.frozen (1 + i)
        obtain ⟨zi, cz1⟩ : ∃ zi, wr.cell? ⟨g, 1 + i, none⟩ = some zi := ⟨ys[1 + i]'(by rw [HY.out.len]; omega), by rw [HY.out.cell (1 + i) (by omega), List.getElem?_eq_getElem]⟩
        obtain ⟨xi, hxi⟩ : ∃ xi : Nat, wo X (1 + i) = xi := ⟨_, rfl⟩
        have hxlt := wo_lt X (1 + i)
        rw [hxi] at cx1 hxlt
        have p1 : (i : Int) < (n : Int) := by omega
        have HXI : Hid (wo X (1 + i) = xi) := hxi
        clear hx hz hf hrg hrh hxi
        by_cases hm : xi = 0
        · subst hm
          obtain ⟨g', rfl⟩ : ∃ g', gk = g' + 1 := ⟨gk - 1, by omega⟩
          go_wp2_with fail
          have HC2 : bo X (i + 1 + 1) := (bo_succ X (i + 1)).2 ⟨HC.out, by rw [Nat.add_comm i 1, HXI.out]⟩
          have hw : wo (X - 1) (1 + i) = 18446744073709551615 := by rw [sub1_bo X (1 + i) hx0 (by rw [Nat.add_comm 1 i]; exact HC.out), HXI.out]
          go_roundg g'
          case measure => omega
          case rel =>
            refine ⟨i + 1, congrArg _ (by omega), by omega, by omega, by omega, HC2, ⟨_, (HY.out.set (1 + i) (.int .u64 18446744073709551615)).1, ?_, ?_⟩, grown_setCell HG.out⟩
            · show (ys.set (1 + i) _)[0]? = zs[0]?
              rw [List.getElem?_set, if_neg (by omega)]
              exact HY0.out
            · intro j h1 h2
              rw [List.getElem?_set]
              by_cases c : 1 + i = j
              · subst c
                rw [if_pos rfl, if_pos (by rw [HY.out.len]; omega), hw]
                rfl
              · rw [if_neg c]
                exact HYj.out j h1 (by omega)
        · have q5 : ¬ ((xi : Int) = 0) := by omega
          have q6 : IntKind.u64.wrap ((xi : Int) - 1) = (xi : Int) - 1 := by simp only [IntKind.wrap_u64]; omega
          by_cases hl : i + 1 = n
          · skip
            go_wp2_with fail
            go_quiet (fail)
            go_wp2_with fail
            have p2 : (i : Int) + 1 ≤ (n : Int) := by omega
            have p3 : (0 : Int) ≤ (i : Int) + 1 := by omega
            have p4 : ((i : Int) + 1).toNat = i + 1 := by omega
            have p5 : IntKind.i64.wrap ((i : Int) + 1) = (i : Int) + 1 := by rw [IntKind.wrap_i64]; omega
            refine wp_region_still_tail 8 rfl (by kernel_rfl) ?_
            simp only [List.take_succ_cons, List.take_zero, List.drop_succ_cons, List.drop_zero]
            repeat still_step
            refine wpStill_nil ?_
            refine wpList_copy_none rfl 158 und158 _ _ rfl _ _ _ _ _ _ rfl rfl rfl ?_
            go_wp2_with fail
            all_goals
              go_ret
              have hno : ¬ bo X (1 + i + 1) := fun h => hm (by have := ((bo_succ X (1 + i)).1 h).2; rw [HXI.out] at this; exact this)
              have hw : xi - 1 = wo (X - 1) (1 + i) := by rw [sub1_bo X (1 + i) hx0 (by rw [Nat.add_comm 1 i]; exact HC.out), HXI.out]; omega
              have hY0 : ∀ j, 1 ≤ j → j < 1 + i → ys[j]? = some (.int .u64 ((wo (X - 1) j : Nat) : Int)) := fun j h1 h2 => HYj.out j h1 (by omega)
              have ec : ((xi - 1 : Nat) : Int) = (xi : Int) - 1 := by omega
              have HN : ¬ bo X (n + 1) := bo_no X (1 + i + 1) (n + 1) hno (by omega)
              obtain ⟨ys', y1, y2, y3⟩ := stoppedS (X := X) (t := 1 + i) HY.out hY0 (by omega) (by omega) hk hw hx0 hno
              rw [List.drop_of_length_le (by rw [wl_len]; omega), ec] at y1
              exact ⟨0, rfl, .inr ⟨rfl, HN⟩, (by refine grown_like (grown_setCell (o := 1 + i) (u := .int .u64 ((xi : Int) - 1)) HG.out) ?_ ?_ ?_ ?_ <;> rfl), ys', y1.like rfl, y2.trans HY0.out, y3⟩
          · have q1 : ¬ (cz = i + 1) := by omega
            have q2 : ¬ (cx = i + 1) := by omega
            go_wp2_with fail
            go_quiet (fail)
            go_wp2_with fail
            have p2 : (i : Int) + 1 ≤ (n : Int) := by omega
            have p3 : (0 : Int) ≤ (i : Int) + 1 := by omega
            have p4 : ((i : Int) + 1).toNat = i + 1 := by omega
            have p5 : IntKind.i64.wrap ((i : Int) + 1) = (i : Int) + 1 := by rw [IntKind.wrap_i64]; omega
            refine wp_region_still_tail 8 rfl (by kernel_rfl) ?_
            simp only [List.take_succ_cons, List.take_zero, List.drop_succ_cons, List.drop_zero]
            repeat still_step
            refine wpStill_nil ?_
            refine wpList_copy_tail rfl 158 und158 _ _ rfl (T := 1 + (i + 1)) ((HY.out.set (1 + i) (.int .u64 ((xi : Int) - 1))).1.like rfl) ((HXr.out.kept (grown_setCell (o := 1 + i) (u := .int .u64 ((xi : Int) - 1)) (World.grownBy.refl _ _)) (.inr (fun e => hgh (Option.some.inj e).symm))).like rfl) rfl rfl (by omega) (by omega) (by omega) (by omega) (wl_one _ _) ?_
            go_wp2_with fail
            go_ret
            have hno : ¬ bo X (1 + i + 1) := fun h => hm (by have := ((bo_succ X (1 + i)).1 h).2; rw [HXI.out] at this; exact this)
            have hw : xi - 1 = wo (X - 1) (1 + i) := by rw [sub1_bo X (1 + i) hx0 (by rw [Nat.add_comm 1 i]; exact HC.out), HXI.out]; omega
            have hY0 : ∀ j, 1 ≤ j → j < 1 + i → ys[j]? = some (.int .u64 ((wo (X - 1) j : Nat) : Int)) := fun j h1 h2 => HYj.out j h1 (by omega)
            have ec : ((xi - 1 : Nat) : Int) = (xi : Int) - 1 := by omega
            have HN : ¬ bo X (n + 1) := bo_no X (1 + i + 1) (n + 1) hno (by omega)
            obtain ⟨ys', y1, y2, y3⟩ := stoppedS (X := X) (t := 1 + i) HY.out hY0 (by omega) (by omega) hk hw hx0 hno
            rw [ec] at y1
            exact ⟨0, rfl, .inr ⟨rfl, HN⟩, (by refine grown_sets (grown_setCell (o := 1 + i) (u := .int .u64 ((xi : Int) - 1)) HG.out) ?_ ?_ ?_ ?_ _ _ <;> rfl), ys', y1.like (setCells_heap g _ _ _ _ rfl), y2.trans HY0.out, y3⟩
      · have : i = n := by omega
        subst this
        clear hx hz hf hrg hrh
        go_wp2_with fail
        go_ret
        exact ⟨1, rfl, .inl ⟨rfl, HC.out⟩, HG.out, ys, HY.out, HY0.out, HYj.out⟩
  · -- word 1 takes the carry, if there is one
    have hsum : (wo X 1 + 18446744073709551616 - c - 0) % 18446744073709551616 = wo (X - 1) 1 ∧ ¬ wo X 1 < c + 0 := by
      have hlt := wo_lt X 1
      rcases hc with ⟨rfl, h1⟩ | ⟨rfl, h1⟩
      · rw [sub1_bo X 1 hx0 h1]
        have : ¬ wo X 1 = 0 := fun h2 => hs ((bo_succ X 1).2 ⟨h1, h2⟩)
        omega
      · rw [sub1_no X 1 hx0 h1]
        omega
    have hb := bitsSub (wo X 1) c 0 (by omega)
    rw [hsum.1, if_neg hsum.2] at hb
    have e0 : ((0 : Nat) : Int) = 0 := rfl
    rw [e0] at hb
    obtain ⟨u, hu⟩ : ∃ u : Nat, wo (X - 1) 1 = u := ⟨_, rfl⟩
    obtain ⟨x1, hx1⟩ : ∃ x1 : Nat, wo X 1 = x1 := ⟨_, rfl⟩
    rw [hu, hx1] at hb
    rw [hx1] at hx
    have HB : Hid (∀ w, Calls Tryz.prog 247 #[.int .u64 (x1 : Int), .int .u64 (c : Int), .int .u64 0] w fun e w' => e = .returned (.tuple #[.int .u64 (u : Int), .int .u64 0]) ∧ w' = w) := hb
    have HU : Hid (wo (X - 1) 1 = u) := hu
    have HS : Hid (¬ bo X 2) := hs
    have hN : Hid (¬ bo X (n + 1)) := bo_no X 2 (n + 1) hs (by omega)
    clear hsum hb hu hx1 hs hc e0
    have q0 : ¬ ((n : Int) = 0) := by omega
    by_cases h1 : n = 1
    · subst h1
      go_enter Tryz.func192, Tryz.ntmps192
      go_wp2_with (go_at_call 247; refine (HB.out _).mono ?_; rintro e w1 ⟨rfl, rfl⟩)
      go_quiet (fail)
      go_wp2_with fail
      refine wp_region_still_tail 4 rfl (by kernel_rfl) ?_
      simp only [List.take_succ_cons, List.take_zero, List.drop_succ_cons, List.drop_zero]
      repeat still_step
      refine wpStill_nil ?_
      refine wpList_copy_none rfl 158 und158 _ _ rfl _ _ _ _ _ _ rfl rfl rfl ?_
      go_wp2_with fail
      all_goals
        go_ret
        obtain ⟨ys, y1, y2, y3⟩ := stoppedS (n := 1) (X := X) (t := 1) HZ.out (fun j h1 h2 => by omega) (Nat.le_refl _) (Nat.le_refl _) hk HU.out.symm hx0 HS.out
        rw [List.drop_of_length_le (by rw [wl_len]; exact Nat.le_refl _)] at y1
        exact ⟨0, rfl, .inr ⟨rfl, HS.out⟩, grown_like (grown_setCell (o := 1) (u := .int .u64 (u : Int)) (World.grownBy.refl _ _)) rfl rfl rfl rfl, ys, y1, y2, y3⟩
    · have q1 : ¬ (cz = 1) := by omega
      have q2 : ¬ (cx = 1) := by omega
      have q3 : (1 : Int) ≤ (n : Int) := by omega
      have HX2 : Hid (∀ u : Value, Sl (w.setCell ⟨g, 1, none⟩ u) (.slice (some ⟨h, 0, none⟩) (n + 1) ch) (n + 1) (wl X (n + 1))) :=
        fun u => HX.out.kept (grown_setCell (World.grownBy.refl _ _)) (.inr (fun e => hgh (Option.some.inj e).symm))
      go_enter Tryz.func192, Tryz.ntmps192
      go_wp2_with (go_at_call 247; refine (HB.out _).mono ?_; rintro e w1 ⟨rfl, rfl⟩)
      go_quiet (fail)
      go_wp2_with fail
      refine wp_region_still_tail 4 rfl (by kernel_rfl) ?_
      simp only [List.take_succ_cons, List.take_zero, List.drop_succ_cons, List.drop_zero]
      repeat still_step
      refine wpStill_nil ?_
      refine wpList_copy_tail rfl 158 und158 _ _ rfl (HZ.out.set 1 (.int .u64 (u : Int))).1 (HX2.out (.int .u64 (u : Int))) rfl rfl (by omega) (by omega) (by omega) (by omega) (wl_one _ _) ?_
      go_wp2_with fail
      go_ret
      obtain ⟨ys, y1, y2, y3⟩ := stoppedS (X := X) (t := 1) HZ.out (fun j h1 h2 => by omega) (Nat.le_refl _) hn hk HU.out.symm hx0 HS.out
      exact ⟨0, rfl, .inr ⟨rfl, hN.out⟩, (by refine grown_sets (grown_setCell (o := 1) (u := .int .u64 (u : Int)) (World.grownBy.refl _ _)) ?_ ?_ ?_ ?_ _ _ <;> rfl), ys, y1.like (setCells_heap g _ _ _ _ rfl), y2, y3⟩
end Wa
end Go.Proofs.YtdpnoaaeplgdjaaGreatDoor
