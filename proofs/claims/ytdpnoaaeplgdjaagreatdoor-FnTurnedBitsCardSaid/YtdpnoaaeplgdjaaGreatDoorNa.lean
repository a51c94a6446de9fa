/-
  THE WALK OF nat's and (in place, by 2^p - 1) and andNot (of 2^p - 1).
-/
import Derived.Test.YtdpnoaaeplgdjaaGreatDoorSn
import Derived.Laws.BitsAllLaws
namespace Go.Proofs.YtdpnoaaeplgdjaaGreatDoor
open Go.RowKit
namespace Wa

set_option maxRecDepth 100000 in
theorem make_fit {w : World} {a : Option Addr} {k cap n : Nat} (h : n ≤ cap) : Calls Tryz.prog 190 #[.slice a k cap, .int .i64 (n : Int)] w fun e w' => e = .returned (.slice a n cap) ∧ w' = w := by
  go_enter Tryz.func190, Tryz.ntmps190
  go_wp2_with fail
  go_ret
  exact ⟨rfl, rfl⟩

theorem grown_below {w w1 w2 : World} {r : Option Nat} (h : w.grownBy w1 r) (k : Below w1.heap.size w1 w2) : w.grownBy w2 r := Rg.only_below h k
theorem mask_pos (p : Nat) (hp : 0 < p) : 0 < 2 ^ p - 1 := by
  have := Nat.one_lt_two_pow (n := p) (by omega)
  omega

set_option maxRecDepth 100000 in
set_option maxHeartbeats 8000000 in
theorem and_some {w : World} {vx vy : Value} {X p m : Nat} (hX : Nt w vx X) (hY : Nt w vy (2 ^ p - 1)) (hne : ∀ g, vx.ownBlock = some g → vy.ownBlock ≠ some g) (hx0 : 0 < X) (hp : 0 < p) (hl : nw X ≤ 900) (hl2 : nw (2 ^ p - 1) ≤ 900)
    (hm : (nw (2 ^ p - 1) < nw X ∧ m = nw (2 ^ p - 1)) ∨ (¬ nw (2 ^ p - 1) < nw X ∧ m = nw X)) :
    Calls Tryz.prog 136 #[vx, vx, vy] w fun e w' => ∃ v, e = .returned v ∧ Nt w' v (X % 2 ^ p) ∧ w.grownBy w' vx.ownBlock := by
  obtain ⟨g, ch, cur, rfl, _, hch, _⟩ := Sl.form_pos hX (nw_pos X hx0)
  obtain ⟨h, cy, cur1, rfl, _, hcy, _⟩ := Sl.form_pos hY (nw_pos _ (mask_pos p hp))
  have hgh : g ≠ h := fun e => hne g rfl (by rw [e]; rfl)
  have hR : X % 2 ^ p < 18446744073709551616 ^ m := by
    have h1 := nw_lt X
    have h2 := nw_lt (2 ^ p - 1)
    have h3 : X % 2 ^ p ≤ X := Nat.mod_le _ _
    have h4 : X % 2 ^ p < 2 ^ p := Nat.mod_lt _ (Nat.two_pow_pos p)
    rcases hm with ⟨_, rfl⟩ | ⟨_, rfl⟩
    · omega
    · omega
  unfold Nt at hX hY
  obtain ⟨a, ha⟩ : ∃ a, nw X = a := ⟨_, rfl⟩
  obtain ⟨b, hb⟩ : ∃ b, nw (2 ^ p - 1) = b := ⟨_, rfl⟩
  rw [ha] at hX hch hl hm ⊢
  rw [hb] at hY hcy hl2 hm ⊢
  have hma : m ≤ a := by omega
  have hmb : m ≤ b := by omega
  have hma0 : 0 < a := by rw [← ha]; exact nw_pos X hx0
  have HX : Hid (Sl w (.slice (some ⟨g, 0, none⟩) a ch) a (wl X a)) := hX
  have HY : Hid (Sl w (.slice (some ⟨h, 0, none⟩) b cy) b (wl (2 ^ p - 1) b)) := hY
  have HR : Hid (X % 2 ^ p < 18446744073709551616 ^ m) := hR
  have hmk := make_fit (w := w) (a := some ⟨g, 0, none⟩) (k := a) (cap := ch) (n := m) (by omega)
  clear hX hY hR hne ha hb
  rcases hm with ⟨h1, rfl⟩ | ⟨h1, rfl⟩
  · have q1 : (m : Int) < (a : Int) := by omega
    go_enter Tryz.func136, Tryz.ntmps136
    go_wp2_with fail
    refine hmk.mono ?_
    rintro e w1 ⟨rfl, rfl⟩
    clear hmk
    have HZ0 : Hid (Sl w1 (.slice (some ⟨g, 0, none⟩) m ch) m (wl X m)) := by
      have := HX.out.cut hma
      rwa [wl_take _ _ _ hma] at this
    go_wp2_with fail
    go_loopg [9] (m + 1) (fun gk s9 wx => ∃ i : Nat, s9 = .int .i64 (i : Int) ∧ i ≤ m ∧ m < gk + i ∧ (∃ zs, Hid (Sl wx (.slice (some ⟨g, 0, none⟩) m ch) m zs) ∧ Hid (∀ j, j < i → zs[j]? = some (.int .u64 ((wo (X % 2 ^ p) j : Nat) : Int))) ∧
      Hid (∀ j, i ≤ j → j < m → zs[j]? = some (.int .u64 ((wo X j : Nat) : Int)))) ∧ Hid (w1.grownBy wx (some g)))
    case atStart => exact ⟨0, rfl, Nat.zero_le _, by omega, ⟨_, HZ0, fun j hj => by omega, fun j _ hj => wl_at _ _ _ hj⟩, World.grownBy.refl _ _⟩
    case round =>
      obtain ⟨i, rfl, him, hgk, ⟨zs, HZ, HD, HT⟩, HG⟩ := hrel
      by_cases hlt : i < m
      · have p1 : (i : Int) < (m : Int) := by omega
        have p2 : (i : Int) < (a : Int) := by omega
        have cx := HZ.out.cell i hlt
        rw [HT.out i (Nat.le_refl _) hlt] at cx
        have cf := HZ.out.frozen i
        have HYr : Hid (Sl wr (.slice (some ⟨h, 0, none⟩) m cy) m (wl (2 ^ p - 1) m)) := HY.out.kept HG.out (.inr (fun e => hgh (Option.some.inj e).symm))
        have cy1 := HYr.out.cell i (by omega)
        rw [wl_at _ _ _ (by omega)] at cy1
        have hand := and_word X p i
        have hxl := wo_lt X i
        have hyl := wo_lt (2 ^ p - 1) i
        obtain ⟨xi, hxi⟩ : ∃ xi : Nat, wo X i = xi := ⟨_, rfl⟩
        obtain ⟨yi, hyi⟩ : ∃ yi : Nat, wo (2 ^ p - 1) i = yi := ⟨_, rfl⟩
        obtain ⟨ri, hri⟩ : ∃ ri : Nat, wo (X % 2 ^ p) i = ri := ⟨_, rfl⟩
        rw [hxi] at cx hand hxl
        rw [hyi] at cy1 hand hyl
        rw [hri] at hand
        have hbb : bits .and .u64 (xi : Int) (yi : Int) = (ri : Int) := by rw [u64_and_nat xi yi hxl hyl, ← hand]
        have HRI : Hid (wo (X % 2 ^ p) i = ri) := hri
        clear hxi hyi hri hand hxl hyl
        obtain ⟨g', rfl⟩ : ∃ g', gk = g' + 1 := ⟨gk - 1, by omega⟩
        go_wp2_with fail
        refine wp_region_still_tail 12 rfl (by kernel_rfl) ?_
        simp only [List.take_succ_cons, List.take_zero, List.drop_succ_cons, List.drop_zero]
        repeat still_step
        refine wpStill_nil ?_
        go_wp2_with fail
        go_roundg g'
        case measure => omega
        case rel =>
          refine ⟨i + 1, congrArg _ (by omega), by omega, by omega, ⟨_, (HZ.out.set i (.int .u64 (ri : Int))).1.like rfl, ?_, ?_⟩, by refine grown_like (grown_setCell (o := i) (u := .int .u64 (ri : Int)) HG.out) ?_ ?_ ?_ ?_ <;> rfl⟩
          · intro j hj
            rw [List.getElem?_set]
            by_cases c : i = j
            · subst c
              rw [if_pos rfl, if_pos (by rw [HZ.out.len]; exact hlt), HRI.out]
            · rw [if_neg c]
              exact HD.out j (by omega)
          · intro j hj hj2
            rw [List.getElem?_set, if_neg (by omega)]
            exact HT.out j (by omega) hj2
      · have hi : i = m := by omega
        subst hi
        have HW : Hid (Sl wr (.slice (some ⟨g, 0, none⟩) i ch) i (wl (X % 2 ^ p) i)) := by
          have e := wl_ext (X % 2 ^ p) i zs HZ.out.len HD.out
          have := HZ.out
          rw [e] at this
          exact this
        go_wp2_with fail
        refine (norm_c HW.out HR.out (by omega)).mono ?_
        rintro e w5 ⟨rfl, hb5⟩
        go_wp2_with fail
        go_ret
        exact ⟨_, rfl, Nt.below (Nt.norm HW.out HR.out) hb5, grown_below HG.out hb5⟩
  · have q1 : ¬ ((b : Int) < (m : Int)) := by omega
    go_enter Tryz.func136, Tryz.ntmps136
    go_wp2_with fail
    refine hmk.mono ?_
    rintro e w1 ⟨rfl, rfl⟩
    clear hmk
    have HZ0 : Hid (Sl w1 (.slice (some ⟨g, 0, none⟩) m ch) m (wl X m)) := by
      have := HX.out.cut hma
      rwa [wl_take _ _ _ hma] at this
    go_wp2_with fail
    go_loopg [9] (m + 1) (fun gk s9 wx => ∃ i : Nat, s9 = .int .i64 (i : Int) ∧ i ≤ m ∧ m < gk + i ∧ (∃ zs, Hid (Sl wx (.slice (some ⟨g, 0, none⟩) m ch) m zs) ∧ Hid (∀ j, j < i → zs[j]? = some (.int .u64 ((wo (X % 2 ^ p) j : Nat) : Int))) ∧
      Hid (∀ j, i ≤ j → j < m → zs[j]? = some (.int .u64 ((wo X j : Nat) : Int)))) ∧ Hid (w1.grownBy wx (some g)))
    case atStart => exact ⟨0, rfl, Nat.zero_le _, by omega, ⟨_, HZ0, fun j hj => by omega, fun j _ hj => wl_at _ _ _ hj⟩, World.grownBy.refl _ _⟩
    case round =>
      obtain ⟨i, rfl, him, hgk, ⟨zs, HZ, HD, HT⟩, HG⟩ := hrel
      by_cases hlt : i < m
      · have p1 : (i : Int) < (m : Int) := by omega
        have p2 : (i : Int) < (b : Int) := by omega
        have cx := HZ.out.cell i hlt
        rw [HT.out i (Nat.le_refl _) hlt] at cx
        have cf := HZ.out.frozen i
        have HYr : Hid (Sl wr (.slice (some ⟨h, 0, none⟩) b cy) b (wl (2 ^ p - 1) b)) := HY.out.kept HG.out (.inr (fun e => hgh (Option.some.inj e).symm))
        have cy1 := HYr.out.cell i (by omega)
        rw [wl_at _ _ _ (by omega)] at cy1
        have hand := and_word X p i
        have hxl := wo_lt X i
        have hyl := wo_lt (2 ^ p - 1) i
        obtain ⟨xi, hxi⟩ : ∃ xi : Nat, wo X i = xi := ⟨_, rfl⟩
        obtain ⟨yi, hyi⟩ : ∃ yi : Nat, wo (2 ^ p - 1) i = yi := ⟨_, rfl⟩
        obtain ⟨ri, hri⟩ : ∃ ri : Nat, wo (X % 2 ^ p) i = ri := ⟨_, rfl⟩
        rw [hxi] at cx hand hxl
        rw [hyi] at cy1 hand hyl
        rw [hri] at hand
        have hbb : bits .and .u64 (xi : Int) (yi : Int) = (ri : Int) := by rw [u64_and_nat xi yi hxl hyl, ← hand]
        have HRI : Hid (wo (X % 2 ^ p) i = ri) := hri
        clear hxi hyi hri hand hxl hyl
        obtain ⟨g', rfl⟩ : ∃ g', gk = g' + 1 := ⟨gk - 1, by omega⟩
        go_wp2_with fail
        refine wp_region_still_tail 12 rfl (by kernel_rfl) ?_
        simp only [List.take_succ_cons, List.take_zero, List.drop_succ_cons, List.drop_zero]
        repeat still_step
        refine wpStill_nil ?_
        go_wp2_with fail
        go_roundg g'
        case measure => omega
        case rel =>
          refine ⟨i + 1, congrArg _ (by omega), by omega, by omega, ⟨_, (HZ.out.set i (.int .u64 (ri : Int))).1.like rfl, ?_, ?_⟩, by refine grown_like (grown_setCell (o := i) (u := .int .u64 (ri : Int)) HG.out) ?_ ?_ ?_ ?_ <;> rfl⟩
          · intro j hj
            rw [List.getElem?_set]
            by_cases c : i = j
            · subst c
              rw [if_pos rfl, if_pos (by rw [HZ.out.len]; exact hlt), HRI.out]
            · rw [if_neg c]
              exact HD.out j (by omega)
          · intro j hj hj2
            rw [List.getElem?_set, if_neg (by omega)]
            exact HT.out j (by omega) hj2
      · have hi : i = m := by omega
        subst hi
        have HW : Hid (Sl wr (.slice (some ⟨g, 0, none⟩) i ch) i (wl (X % 2 ^ p) i)) := by
          have e := wl_ext (X % 2 ^ p) i zs HZ.out.len HD.out
          have := HZ.out
          rw [e] at this
          exact this
        go_wp2_with fail
        refine (norm_c HW.out HR.out (by omega)).mono ?_
        rintro e w5 ⟨rfl, hb5⟩
        go_wp2_with fail
        go_ret
        exact ⟨_, rfl, Nt.below (Nt.norm HW.out HR.out) hb5, grown_below HG.out hb5⟩

theorem and_c {w : World} {vx vy : Value} {X p : Nat} (hX : Nt w vx X) (hY : Nt w vy (2 ^ p - 1)) (hne : ∀ g, vx.ownBlock = some g → vy.ownBlock ≠ some g) (hp : 0 < p) (hl : nw X ≤ 900) (hl2 : nw (2 ^ p - 1) ≤ 900) :
    Calls Tryz.prog 136 #[vx, vx, vy] w fun e w' => ∃ v, e = .returned v ∧ Nt w' v (X % 2 ^ p) ∧ w.grownBy w' vx.ownBlock := by
  rcases Nat.eq_zero_or_pos X with h0 | h0
  · subst h0
    obtain ⟨a, c, rfl, _⟩ := Sl.nil_or hX
    obtain ⟨b, cy, rfl, _⟩ := Sl.nil_or hY
    rw [nw_zero] at *
    have HX : Hid (Nt w (.slice a 0 c) 0) := hX
    obtain ⟨n, hn⟩ : ∃ n, nw (2 ^ p - 1) = n := ⟨_, rfl⟩
    rw [hn] at *
    have hmk := make_fit (w := w) (a := a) (k := 0) (cap := c) (n := 0) (Nat.zero_le _)
    have hnm := norm_c (w := w) (a := a) (n := 0) (cap := c) (x := 0) HX.out (by decide) (by decide)
    rw [nw_zero] at hnm
    have q0 : ¬ ((n : Int) < 0) := by omega
    clear hX hY hne hn
    go_enter Tryz.func136, Tryz.ntmps136
    go_wp2_with fail
    refine hmk.mono ?_
    rintro e w1 ⟨rfl, rfl⟩
    clear hmk
    go_wp2_with fail
    go_loopg [9] 1 (fun gk s9 wx => gk = 1 ∧ s9 = .int .i64 0 ∧ wx = w1)
    case atStart => exact ⟨rfl, rfl, rfl⟩
    case round =>
      obtain ⟨rfl, rfl, rfl⟩ := hrel
      go_wp2_with fail
      refine hnm.mono ?_
      rintro e w5 ⟨rfl, hb5⟩
      go_wp2_with fail
      go_ret
      exact ⟨_, rfl, by rw [Nat.zero_mod]; exact Nt.below HX.out hb5, ⟨hb5.os, hb5.tape, hb5.output, hb5.size, fun k hk _ => hb5.block k hk⟩⟩
  · by_cases c : nw (2 ^ p - 1) < nw X
    · exact and_some hX hY hne h0 hp hl hl2 (.inl ⟨c, rfl⟩)
    · exact and_some hX hY hne h0 hp hl hl2 (.inr ⟨c, rfl⟩)
end Wa
end Go.Proofs.YtdpnoaaeplgdjaaGreatDoor
