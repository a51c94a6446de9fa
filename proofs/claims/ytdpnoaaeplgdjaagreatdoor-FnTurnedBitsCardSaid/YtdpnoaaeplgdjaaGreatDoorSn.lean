/-
  THE WALK OF nat's sub of 1.
-/
import Derived.Test.YtdpnoaaeplgdjaaGreatDoorAn
namespace Go.Proofs.YtdpnoaaeplgdjaaGreatDoor
open Go.RowKit
namespace Wa

theorem no_borrow {X m : Nat} (hx : 0 < X) (h : X < 18446744073709551616 ^ m) : ¬ bo X m := by
  unfold bo
  rw [Nat.mod_eq_of_lt h]
  omega
theorem sub_row {X m : Nat} {ys : List Value} (hl : ys.length = m) (h0 : ys[0]? = some (.int .u64 ((wo (X - 1) 0 : Nat) : Int))) (hj : ∀ j, 1 ≤ j → j ≤ m - 1 → ys[j]? = some (.int .u64 ((wo (X - 1) j : Nat) : Int))) : ys = wl (X - 1) m := by
  refine wl_ext _ _ _ hl fun j h => ?_
  rcases Nat.eq_zero_or_pos j with h1 | h1
  · subst h1; exact h0
  · exact hj j h1 (by omega)
theorem low_sub (X : Nat) (hx : 0 < X) : wo (X - 1) 0 = (wo X 0 + 18446744073709551615) % 18446744073709551616 := sub1_bo X 0 hx (bo_zero X)
theorem low_borrow (X : Nat) : ((if wo X 0 < 1 then 1 else 0) = 1 ∧ bo X 1) ∨ ((if wo X 0 < 1 then 1 else 0) = 0 ∧ ¬ bo X 1) := by
  by_cases h : wo X 0 < 1
  · exact .inl ⟨if_pos h, (bo_succ X 0).2 ⟨bo_zero X, by omega⟩⟩
  · exact .inr ⟨if_neg h, fun h1 => h (by have := ((bo_succ X 0).1 h1).2; omega)⟩

set_option maxRecDepth 100000 in
set_option maxHeartbeats 8000000 in
/-- The difference with 1 of a number that is not 0. -/
theorem sub_some {w : World} {vx v1 : Value} {X : Nat} (hX : Nt w vx X) (h1 : Nt w v1 1) (hpos : 0 < X) (hl : nw X ≤ 900) : Calls Tryz.prog 131 #[.slice none 0 0, vx, v1] w fun e w' => ∃ v, e = .returned v ∧ Nt w' v (X - 1) ∧ Below w.heap.size w w' ∧ ∀ b, v.ownBlock = some b → w.heap.size ≤ b := by
  have hm := make_c (World.ownsRow_nil w 0 170 1) (show nw X ≤ 1000 by omega)
  obtain ⟨h, ch, cur, rfl, _, hch, _⟩ := Sl.form_pos hX (nw_pos X hpos)
  obtain ⟨p, cp, cur1, rfl, _, hcp, _⟩ := Sl.form_pos h1 (by decide)
  rw [nw_one] at *
  have hp := nw_pos X hpos
  have hlt := nw_lt X
  unfold Nt at hX h1
  rw [nw_one] at h1
  have hx0 := hX.cell 0 hp
  rw [wl_at _ _ _ hp] at hx0
  have hy0 := h1.cell 0 (by decide)
  rw [wl_one1] at hy0
  obtain ⟨m, hmm⟩ : ∃ m, nw X = m := ⟨_, rfl⟩
  rw [hmm] at hX hm hch hp hl hlt ⊢
  have HX : Hid (Sl w (.slice (some ⟨h, 0, none⟩) m ch) m (wl X m)) := hX
  have H1 : Hid (Sl w (.slice (some ⟨p, 0, none⟩) 1 cp) 1 (wl 1 1)) := h1
  have HLT : Hid (X < 18446744073709551616 ^ m) := hlt
  have q0 : ¬ ((m : Int) < 1) := by omega
  have q1 : ¬ ((m : Int) = 0) := by omega
  have q2 : (1 : Int) ≤ (ch : Int) := by omega
  have q3 : (1 : Int) ≤ (cp : Int) := by omega
  have HX0 : Hid (w.cell? ⟨h, 0, none⟩ = some (.int .u64 ((wo X 0 : Nat) : Int))) := hx0
  have HY0 : Hid (w.cell? ⟨p, 0, none⟩ = some (.int .u64 1)) := hy0
  clear hX h1 hmm hx0 hy0 hlt
  go_enter Tryz.func131, Tryz.ntmps131
  go_wp2_with (go_at_call 190; refine hm.mono ?_; rintro e w1 ⟨v, ys, rfl, hy, hb, hbl⟩
               obtain ⟨g, cap, cur', rfl, _, hcap, _⟩ := Sl.form_pos hy (by omega)
               have HZ : Hid (Sl w1 (.slice (some ⟨g, 0, none⟩) m cap) m ys) := hy
               have HB : Hid (Below w.heap.size w w1) := hb
               have HL : Hid (w.heap.size ≤ g) := (hbl g rfl).resolve_left (by simp [Value.ownBlock])
               have q4 : (1 : Int) ≤ (cap : Int) := by omega
               clear hy hb hbl)
  have HX1 : Hid (Sl w1 (.slice (some ⟨h, 0, none⟩) m ch) m (wl X m)) := HX.out.below HB.out
  have HGH : Hid (g ≠ h) := by
    have h1 := HL.out
    have h2 := HX.out.cap.2.2
    intro e
    omega
  have HC1 : Hid (w1.cell? ⟨g, 0, none⟩ = some (ys[0]'(by rw [HZ.out.len]; omega))) := by
    show _ = _
    rw [HZ.out.cell 0 (by omega), List.getElem?_eq_getElem]
  have HF1 : Hid (w1.frozen? ⟨g, 0, none⟩ = false) := HZ.out.frozen 0
  have HX1c : Hid (w1.cell? ⟨h, 0, none⟩ = some (.int .u64 ((wo X 0 : Nat) : Int))) := by
    show _ = _
    rw [HX1.out.cell 0 (by omega), wl_at _ _ _ (by omega)]
  have HY1c : Hid (w1.cell? ⟨p, 0, none⟩ = some (.int .u64 1)) := by
    show _ = _
    rw [(H1.out.below HB.out).cell 0 (by decide), wl_one1]
    rfl
  obtain ⟨c, hc⟩ : ∃ c : Nat, (if wo X 0 < 1 then 1 else 0) = c := ⟨_, rfl⟩
  have HCC : Hid ((if wo X 0 < 1 then 1 else 0) = c) := hc
  have HCA : Hid ((c = 1 ∧ bo X 1) ∨ (c = 0 ∧ ¬ bo X 1)) := by
    have := low_borrow X
    rw [hc] at this
    exact this
  clear hc HX0 HY0 hm
  refine wp_region_still_tail 9 rfl (by kernel_rfl) ?_
  simp only [List.take_succ_cons, List.take_zero, List.drop_succ_cons, List.drop_zero]
  repeat still_step
  refine wpStill_nil ?_
  have q5 : ¬ ((m : Int) < (m : Int)) := by omega
  obtain ⟨sm, hsm⟩ : ∃ sm : Nat, (wo X 0 + 18446744073709551615) % 18446744073709551616 = sm := ⟨_, rfl⟩
  have HSM : Hid ((wo X 0 + 18446744073709551615) % 18446744073709551616 = sm) := hsm
  clear hsm
  have HS0 : Hid (wo (X - 1) 0 = sm) := (low_sub X hpos).trans HSM.out
  by_cases hm1 : m = 1
  · subst hm1
    go_wp2_with fail
    refine (subVV1 (w := w1.drew) HC1.out HF1.out HX1c.out HY1c.out).mono ?_
    rintro e w3 ⟨rfl, k, hw2⟩
    rw [HCC.out]
    rw [HSM.out] at hw2
    have hg3 : Hid (w1.grownBy w3 (some g)) := by
      rw [hw2]; exact grown_like (grown_setCell (o := 0) (u := .int .u64 (sm : Int)) (World.grownBy.refl _ _)) rfl rfl rfl rfl
    obtain ⟨ys3, hy3, hy30, hyj⟩ : ∃ ys3, Sl w3 (.slice (some ⟨g, 0, none⟩) 1 cap) 1 ys3 ∧ ys3[0]? = some (.int .u64 ((wo (X - 1) 0 : Nat) : Int)) ∧ ∀ j, 1 ≤ j → j ≤ 1 - 1 → ys3[j]? = some (.int .u64 ((wo (X - 1) j : Nat) : Int)) :=
      ⟨_, by rw [hw2]; exact (HZ.out.set 0 (.int .u64 (sm : Int))).1, by rw [List.getElem?_set, if_pos rfl, if_pos (by rw [HZ.out.len]; omega), HS0.out], fun j h1 h2 => by omega⟩
    clear hw2
    have hd := HCA.out
    have hd0 : c = 0 := by
      rcases hd with ⟨_, h9⟩ | ⟨h9, _⟩
      · exact absurd h9 (no_borrow hpos HLT.out)
      · exact h9
    subst hd0
    have hrow : ys3 = wl (X - 1) 1 := sub_row hy3.len hy30 hyj
    subst hrow
    have HY3 : Hid (Sl w3 (.slice (some ⟨g, 0, none⟩) 1 cap) 1 (wl (X - 1) 1)) := hy3
    have HX3 : Hid (X - 1 < 18446744073709551616 ^ 1) := Nat.lt_of_le_of_lt (Nat.sub_le _ _) HLT.out
    clear hd hy3 hy30 hyj
    go_wp2_with fail
    refine (norm_c (x := X - 1) HY3.out HX3.out (by omega)).mono ?_
    rintro e w5 ⟨rfl, hb5⟩
    go_wp2_with fail
    go_ret
    refine ⟨_, rfl, Nt.below (Nt.norm HY3.out HX3.out) hb5, ?_, fun b hb => by have := HL.out; have hb : g = b := Option.some.inj hb; omega⟩
    exact (HB.out.grown hg3.out HB.out.size (fun k hk => by have := HL.out; injection hk with hk; omega)).trans (hb5.mono (by have := HB.out.size; have := hg3.out.size; omega))
  · have q6 : (1 : Int) < (m : Int) := by omega
    have q8 : (1 : Int) ≤ (m : Int) := by omega
    have q7 : (m : Int) ≤ (cap : Int) := by omega
    have q9 : ¬ (cap = 1) := by omega
    have q10 : ¬ (ch = 1) := by omega
    go_wp2_with fail
    refine (subVV1 (w := w1.drew) HC1.out HF1.out HX1c.out HY1c.out).mono ?_
    rintro e w2 ⟨rfl, k, hw2⟩
    rw [HCC.out]
    rw [HSM.out] at hw2
    have HZ2 : Hid (Sl w2 (.slice (some ⟨g, 0, none⟩) m cap) m (ys.set 0 (.int .u64 (sm : Int)))) := by
      rw [hw2]; exact (HZ.out.set 0 _).1
    have HG2 : Hid (w1.grownBy w2 (some g)) := by
      rw [hw2]; exact grown_like (grown_setCell (o := 0) (u := .int .u64 (sm : Int)) (World.grownBy.refl _ _)) rfl rfl rfl rfl
    have HX2 : Hid (Sl w2 (.slice (some ⟨h, 0, none⟩) m ch) m (wl X m)) := HX1.out.kept HG2.out (.inr (fun e => HGH.out (Option.some.inj e).symm))
    clear hw2
    go_wp2_with fail
    refine wp_region_still_tail 7 rfl (by kernel_rfl) ?_
    simp only [List.take_succ_cons, List.take_zero, List.drop_succ_cons, List.drop_zero]
    repeat still_step
    refine wpStill_nil ?_
    go_wp2_with fail
    refine (subVW_m (w := w2.drew) hpos HGH.out HZ2.out HX2.out (by omega) (by omega) (by omega) (by omega) (by omega) HCA.out).mono ?_
    rintro e w3 ⟨d, rfl, hd, hg3', ys3, hy3, hy30, hyj⟩
    have hg3 : Hid (w2.grownBy w3 (some g)) := ⟨hg3'.os, hg3'.tape, hg3'.output, hg3'.size, hg3'.block⟩
    rw [List.getElem?_set, if_pos rfl, if_pos (by rw [HZ.out.len]; omega), ← HS0.out] at hy30
    clear hg3'
    have hd0 : d = 0 := by
      rcases hd with ⟨_, h9⟩ | ⟨h9, _⟩
      · exact absurd h9 (no_borrow hpos HLT.out)
      · exact h9
    subst hd0
    have hrow : ys3 = wl (X - 1) m := sub_row hy3.len hy30 hyj
    subst hrow
    have HY3 : Hid (Sl w3 (.slice (some ⟨g, 0, none⟩) m cap) m (wl (X - 1) m)) := hy3
    have HX3 : Hid (X - 1 < 18446744073709551616 ^ m) := Nat.lt_of_le_of_lt (Nat.sub_le _ _) HLT.out
    clear hd hy3 hy30 hyj
    go_wp2_with fail
    refine (norm_c (x := X - 1) HY3.out HX3.out (by omega)).mono ?_
    rintro e w5 ⟨rfl, hb5⟩
    go_wp2_with fail
    go_ret
    refine ⟨_, rfl, Nt.below (Nt.norm HY3.out HX3.out) hb5, ?_, fun b hb => by have := HL.out; have hb : g = b := Option.some.inj hb; omega⟩
    have hbb := (HB.out.grown HG2.out HB.out.size (fun k hk => by have := HL.out; injection hk with hk; omega))
    have hbc := hbb.grown hg3.out hbb.size (fun k hk => by have := HL.out; injection hk with hk; omega)
    exact hbc.trans (hb5.mono hbc.size)
end Wa
end Go.Proofs.YtdpnoaaeplgdjaaGreatDoor
