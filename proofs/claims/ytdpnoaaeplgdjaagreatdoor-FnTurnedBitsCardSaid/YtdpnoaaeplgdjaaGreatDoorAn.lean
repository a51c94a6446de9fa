/-
  THE WALK OF nat's set, and of add and sub of 1.
-/
import Derived.Test.YtdpnoaaeplgdjaaGreatDoorSw
namespace Go.Proofs.YtdpnoaaeplgdjaaGreatDoor
open Go.RowKit
namespace Wa

theorem Sl.nil_or {w : World} {v : Value} {n : Nat} {xs : List Value} (h : Sl w v n xs) : ∃ a c, v = .slice a n c ∧ n ≤ c := by
  rcases h.form with ⟨rfl, rfl⟩ | ⟨g, c, cur, h1, _, h3, _⟩
  · exact ⟨none, 0, rfl, Nat.le_refl _⟩
  · exact ⟨_, c, h1, h3⟩

set_option maxRecDepth 100000 in
set_option maxHeartbeats 4000000 in
theorem set_c {w : World} {vx : Value} {X : Nat} (hX : Nt w vx X) (hpos : 0 < X) (hl : nw X ≤ 990) : Calls Tryz.prog 147 #[.slice none 0 0, vx] w fun e w' => ∃ v, e = .returned v ∧ Nt w' v X ∧ Below w.heap.size w w' ∧ ∀ b, v.ownBlock = some b → w.heap.size ≤ b := by
  obtain ⟨h, ch, cur, rfl, _⟩ := Sl.form_pos hX (nw_pos X hpos)
  have HX : Hid (Nt w (.slice (some ⟨h, 0, none⟩) (nw X) ch) X) := hX
  have hm := make_c (World.ownsRow_nil w 0 170 1) (show nw X ≤ 1000 by omega)
  have hp := nw_pos X hpos
  obtain ⟨n, hn⟩ : ∃ n, nw X = n := ⟨_, rfl⟩
  rw [hn] at hm hl hp ⊢
  have HN : Hid (nw X = n) := hn
  clear hn hX
  go_enter Tryz.func147, Tryz.ntmps147
  go_wp2_with (first
    | (go_at_call 190; refine hm.mono ?_; rintro e w1 ⟨v, ys, rfl, hy, hb, hbl⟩
       obtain ⟨g, cap, cur', rfl, _⟩ := Sl.form_pos hy hp
       have HX1 : Hid (Sl w1 (.slice (some ⟨h, 0, none⟩) n ch) n (wl X n)) := by
         have := Nt.below HX.out hb
         unfold Nt at this
         rw [HN.out] at this
         exact this
       have HY : Hid (Sl w1 (.slice (some ⟨g, 0, none⟩) n cap) n ys) := hy
       have HB : Hid (Below w.heap.size w w1) := hb
       have HL : Hid (w.heap.size ≤ g) := (hbl g rfl).resolve_left (by simp [Value.ownBlock])
       clear hy hb hbl)
    | ((with_reducible refine gate_call (b := .copy) rfl ?_); refine wpList_copy_tail rfl 159 und159 _ _ rfl (T := 0) HY.out HX1.out rfl rfl (Nat.sub_zero _).symm (Nat.sub_zero _).symm (Nat.zero_le _) (Nat.le_refl _) (wl_one _ _) ?_))
  go_ret
  obtain ⟨zs, h1, h2⟩ := Sl.sets (wl X n) 0 w1 ys HY.out (by rw [wl_len]; omega)
  have e : zs = wl X n := by
    refine wl_ext X n zs h1.len fun j hj => ?_
    rw [h2 j, wl_len, if_pos (by omega), Nat.sub_zero, wl_at _ _ _ hj]
  rw [e] at h1
  exact ⟨_, rfl, by unfold Nt; rw [HN.out]; exact h1, below_setCells HB.out HL.out _ _, fun b hb => by have := HL.out; have hb : g = b := Option.some.inj hb; omega⟩

theorem nw_one : nw 1 = 1 := by decide
theorem wl_one1 : wl 1 1 = [.int .u64 1] := by
  show [Value.int .u64 ((wo 1 0 : Nat) : Int)] = _
  rw [show wo 1 0 = 1 from by decide]
  rfl
theorem Nt.one (w : World) : Nt (w.alloc (.cells #[.int .u64 1] 170)) (.slice (some ⟨w.heap.size, 0, none⟩) 1 1) 1 := by
  have := Sl.of (w := w.alloc (.cells #[.int .u64 1] 170)) (n := 1) (heap_alloc_new w _) rfl (Nat.le_refl _) (by decide)
  unfold Nt
  rw [nw_one, wl_one1]
  exact this
set_option maxRecDepth 100000 in
theorem one_c (w : World) : Calls Tryz.prog 132 #[] w fun e w' => ∃ v, e = .returned v ∧ Nt w' v 1 ∧ Below w.heap.size w w' := by
  go_enter Tryz.func132, Tryz.ntmps132
  go_wp2
  go_ret
  exact ⟨_, rfl, Nt.one w, (Below.refl _ _).alloc (Nat.le_refl _) _⟩

set_option maxRecDepth 100000 in
set_option maxHeartbeats 4000000 in
theorem add_none {w : World} {v1 v0 : Value} (h1 : Nt w v1 1) (h0 : Nt w v0 0) : Calls Tryz.prog 133 #[.slice none 0 0, v1, v0] w fun e w' => ∃ v, e = .returned v ∧ Nt w' v 1 ∧ Below w.heap.size w w' ∧ ∀ b, v.ownBlock = some b → w.heap.size ≤ b := by
  have hs := set_c h1 (by decide) (by decide)
  obtain ⟨a, c, rfl, _⟩ := Sl.nil_or h1
  obtain ⟨a', c', rfl, _⟩ := Sl.nil_or h0
  rw [nw_one, nw_zero] at *
  clear h1 h0
  go_enter Tryz.func133, Tryz.ntmps133
  go_wp2_with (go_at_call 147; refine hs.mono ?_; rintro e w1 ⟨v, rfl, hv, hb, hn⟩)
  go_ret
  exact ⟨_, rfl, hv, hb, hn⟩

/-- addVW at m words. -/
theorem addVW_m {w : World} {g h k m cap cz cx ch X c : Nat} {zs : List Value} (hgh : g ≠ h) (hZ : Sl w (.slice (some ⟨g, 0, none⟩) k cap) k zs) (hX : Sl w (.slice (some ⟨h, 0, none⟩) m ch) m (wl X m))
    (hn : 2 ≤ m) (hn2 : m ≤ 1000) (hk : m ≤ k) (hcz : m - 1 ≤ cz) (hcx : m - 1 ≤ cx) (hc : (c = 1 ∧ ca X 1) ∨ (c = 0 ∧ ¬ ca X 1)) :
    Calls Tryz.prog 195 #[.slice (some ⟨g, 1, none⟩) (m - 1) cz, .slice (some ⟨h, 1, none⟩) (m - 1) cx, .int .u64 (c : Int)] w fun e w' =>
      ∃ d : Nat, e = .returned (.int .u64 (d : Int)) ∧ ((d = 1 ∧ ca X m) ∨ (d = 0 ∧ ¬ ca X m)) ∧ w.grownBy w' (some g) ∧
        ∃ ys, Sl w' (.slice (some ⟨g, 0, none⟩) k cap) k ys ∧ ys[0]? = zs[0]? ∧ ∀ j, 1 ≤ j → j ≤ m - 1 → ys[j]? = some (.int .u64 ((wo (X + 1) j : Nat) : Int)) := by
  obtain ⟨n, rfl⟩ : ∃ n, m = n + 1 := ⟨m - 1, by omega⟩
  rw [Nat.add_sub_cancel] at *
  exact addVW_c hgh hZ hX (by omega) (by omega) (by omega) hcz hcx hc
theorem subVW_m {w : World} {g h k m cap cz cx ch X c : Nat} {zs : List Value} (hx0 : 0 < X) (hgh : g ≠ h) (hZ : Sl w (.slice (some ⟨g, 0, none⟩) k cap) k zs) (hX : Sl w (.slice (some ⟨h, 0, none⟩) m ch) m (wl X m))
    (hn : 2 ≤ m) (hn2 : m ≤ 1000) (hk : m ≤ k) (hcz : m - 1 ≤ cz) (hcx : m - 1 ≤ cx) (hc : (c = 1 ∧ bo X 1) ∨ (c = 0 ∧ ¬ bo X 1)) :
    Calls Tryz.prog 192 #[.slice (some ⟨g, 1, none⟩) (m - 1) cz, .slice (some ⟨h, 1, none⟩) (m - 1) cx, .int .u64 (c : Int)] w fun e w' =>
      ∃ d : Nat, e = .returned (.int .u64 (d : Int)) ∧ ((d = 1 ∧ bo X m) ∨ (d = 0 ∧ ¬ bo X m)) ∧ w.grownBy w' (some g) ∧
        ∃ ys, Sl w' (.slice (some ⟨g, 0, none⟩) k cap) k ys ∧ ys[0]? = zs[0]? ∧ ∀ j, 1 ≤ j → j ≤ m - 1 → ys[j]? = some (.int .u64 ((wo (X - 1) j : Nat) : Int)) := by
  obtain ⟨n, rfl⟩ : ∃ n, m = n + 1 := ⟨m - 1, by omega⟩
  rw [Nat.add_sub_cancel] at *
  exact subVW_c hx0 hgh hZ hX (by omega) (by omega) (by omega) hcz hcx hc

/-- The last word of a sum. -/
theorem add_last {X m d : Nat} (hX : X < 18446744073709551616 ^ m) (hd : (d = 1 ∧ ca X m) ∨ (d = 0 ∧ ¬ ca X m)) : wo (X + 1) m = d := by
  have h0 := wo_high X m m hX (Nat.le_refl _)
  rcases hd with ⟨rfl, h⟩ | ⟨rfl, h⟩
  · rw [add1_ca X m h, h0]
  · rw [add1_no X m h, h0]
theorem add_row {X m d : Nat} {ys : List Value} (hl : ys.length = m + 1) (h0 : ys[0]? = some (.int .u64 ((wo (X + 1) 0 : Nat) : Int))) (hj : ∀ j, 1 ≤ j → j ≤ m - 1 → ys[j]? = some (.int .u64 ((wo (X + 1) j : Nat) : Int))) (hd : wo (X + 1) m = d) (hm : 1 ≤ m) :
    ys.set m (.int .u64 (d : Int)) = wl (X + 1) (m + 1) := by
  refine wl_ext _ _ _ (by simp [hl]) fun j h => ?_
  rw [List.getElem?_set]
  by_cases c : m = j
  · subst c; rw [if_pos rfl, if_pos (by omega), hd]
  · rw [if_neg c]
    rcases Nat.eq_zero_or_pos j with h1 | h1
    · subst h1; exact h0
    · exact hj j h1 (by omega)
theorem low_add (X : Nat) : wo (X + 1) 0 = (wo X 0 + 1) % 18446744073709551616 := add1_ca X 0 (ca_zero X)
theorem low_carry (X : Nat) : ((wo X 0 + 1) / 18446744073709551616 = 1 ∧ ca X 1) ∨ ((wo X 0 + 1) / 18446744073709551616 = 0 ∧ ¬ ca X 1) := by
  have := wo_lt X 0
  by_cases h : wo X 0 + 1 = 18446744073709551616
  · exact .inl ⟨by rw [h], (ca_succ X 0).2 ⟨ca_zero X, h⟩⟩
  · exact .inr ⟨by omega, fun h1 => h ((ca_succ X 0).1 h1).2⟩

set_option maxRecDepth 100000 in
set_option maxHeartbeats 8000000 in
/-- The sum with 1 of a number that is not 0. -/
theorem add_some {w : World} {vx v1 : Value} {X : Nat} (hX : Nt w vx X) (h1 : Nt w v1 1) (hpos : 0 < X) (hl : nw X ≤ 900) : Calls Tryz.prog 133 #[.slice none 0 0, vx, v1] w fun e w' => ∃ v, e = .returned v ∧ Nt w' v (X + 1) ∧ Below w.heap.size w w' ∧ ∀ b, v.ownBlock = some b → w.heap.size ≤ b := by
  have hm := make_c (World.ownsRow_nil w 0 170 1) (show nw X + 1 ≤ 1000 by omega)
  obtain ⟨h, ch, cur, rfl, _, hch, _⟩ := Sl.form_pos hX (nw_pos X hpos)
  obtain ⟨p, cp, cur1, rfl, _, hcp, _⟩ := Sl.form_pos h1 (by decide)
  rw [nw_one] at *
  have hp := nw_pos X hpos
  have hlt := nw_lt X
  unfold Nt at hX h1
  rw [nw_one] at h1
  have hx0 := hX.cell 0 hp
  rw [wl_at _ _ _ hp] at hx0
  have hy0 := h1.cell 0 (by decide)
  rw [wl_one1] at hy0
  obtain ⟨m, hmm⟩ : ∃ m, nw X = m := ⟨_, rfl⟩
  rw [hmm] at hX hm hch hp hl hlt ⊢
  have HX : Hid (Sl w (.slice (some ⟨h, 0, none⟩) m ch) m (wl X m)) := hX
  have H1 : Hid (Sl w (.slice (some ⟨p, 0, none⟩) 1 cp) 1 (wl 1 1)) := h1
  have HLT : Hid (X < 18446744073709551616 ^ m) := hlt
  have hcast : ((m + 1 : Nat) : Int) = (m : Int) + 1 := by omega
  rw [hcast] at hm
  have q0 : ¬ ((m : Int) < 1) := by omega
  have q1 : ¬ ((m : Int) = 0) := by omega
  have q2 : (1 : Int) ≤ (ch : Int) := by omega
  have q3 : (1 : Int) ≤ (cp : Int) := by omega
  have HX0 : Hid (w.cell? ⟨h, 0, none⟩ = some (.int .u64 ((wo X 0 : Nat) : Int))) := hx0
  have HY0 : Hid (w.cell? ⟨p, 0, none⟩ = some (.int .u64 1)) := hy0
  clear hX h1 hcast hmm hx0 hy0 hlt
  go_enter Tryz.func133, Tryz.ntmps133
  go_wp2_with (go_at_call 190; refine hm.mono ?_; rintro e w1 ⟨v, ys, rfl, hy, hb, hbl⟩
               obtain ⟨g, cap, cur', rfl, _, hcap, _⟩ := Sl.form_pos hy (by omega)
               have HZ : Hid (Sl w1 (.slice (some ⟨g, 0, none⟩) (m + 1) cap) (m + 1) ys) := hy
               have HB : Hid (Below w.heap.size w w1) := hb
               have HL : Hid (w.heap.size ≤ g) := (hbl g rfl).resolve_left (by simp [Value.ownBlock])
               have q4 : (1 : Int) ≤ (cap : Int) := by omega
               clear hy hb hbl)
  have HX1 : Hid (Sl w1 (.slice (some ⟨h, 0, none⟩) m ch) m (wl X m)) := HX.out.below HB.out
  have HGH : Hid (g ≠ h) := by
    have h1 := HL.out
    have h2 := HX.out.cap.2.2
    intro e
    omega
  have HC1 : Hid (w1.cell? ⟨g, 0, none⟩ = some (ys[0]'(by rw [HZ.out.len]; omega))) := by
    show _ = _
    rw [HZ.out.cell 0 (by omega), List.getElem?_eq_getElem]
  have HF1 : Hid (w1.frozen? ⟨g, 0, none⟩ = false) := HZ.out.frozen 0
  have HX1c : Hid (w1.cell? ⟨h, 0, none⟩ = some (.int .u64 ((wo X 0 : Nat) : Int))) := by
    show _ = _
    rw [HX1.out.cell 0 (by omega), wl_at _ _ _ (by omega)]
  have HY1c : Hid (w1.cell? ⟨p, 0, none⟩ = some (.int .u64 1)) := by
    show _ = _
    rw [(H1.out.below HB.out).cell 0 (by decide), wl_one1]
    rfl
  obtain ⟨c, hc⟩ : ∃ c : Nat, (wo X 0 + 1) / 18446744073709551616 = c := ⟨_, rfl⟩
  have HCC : Hid ((wo X 0 + 1) / 18446744073709551616 = c) := hc
  have HCA : Hid ((c = 1 ∧ ca X 1) ∨ (c = 0 ∧ ¬ ca X 1)) := by
    have := low_carry X
    rw [hc] at this
    exact this
  clear hc HX0 HY0 hm
  refine wp_region_still_tail 9 rfl (by kernel_rfl) ?_
  simp only [List.take_succ_cons, List.take_zero, List.drop_succ_cons, List.drop_zero]
  repeat still_step
  refine wpStill_nil ?_
  have q5 : ¬ ((m : Int) < (m : Int)) := by omega
  obtain ⟨sm, hsm⟩ : ∃ sm : Nat, (wo X 0 + 1) % 18446744073709551616 = sm := ⟨_, rfl⟩
  have HSM : Hid ((wo X 0 + 1) % 18446744073709551616 = sm) := hsm
  clear hsm
  have HS0 : Hid (wo (X + 1) 0 = sm) := (low_add X).trans HSM.out
  by_cases hm1 : m = 1
  · subst hm1
    go_wp2_with fail
    refine (addVV1 (w := w1.drew) HC1.out HF1.out HX1c.out HY1c.out).mono ?_
    rintro e w3 ⟨rfl, k, hw2⟩
    rw [HCC.out]
    rw [HSM.out] at hw2
    have hg3 : Hid (w1.grownBy w3 (some g)) := by
      rw [hw2]; exact grown_like (grown_setCell (o := 0) (u := .int .u64 (sm : Int)) (World.grownBy.refl _ _)) rfl rfl rfl rfl
    obtain ⟨ys3, hy3, hy30, hyj⟩ : ∃ ys3, Sl w3 (.slice (some ⟨g, 0, none⟩) (1 + 1) cap) (1 + 1) ys3 ∧ ys3[0]? = some (.int .u64 ((wo (X + 1) 0 : Nat) : Int)) ∧ ∀ j, 1 ≤ j → j ≤ 1 - 1 → ys3[j]? = some (.int .u64 ((wo (X + 1) j : Nat) : Int)) :=
      ⟨_, by rw [hw2]; exact (HZ.out.set 0 (.int .u64 (sm : Int))).1, by rw [List.getElem?_set, if_pos rfl, if_pos (by rw [HZ.out.len]; omega), HS0.out], fun j h1 h2 => by omega⟩
    clear hw2
    obtain ⟨d, hdc, hd⟩ : ∃ d : Nat, c = d ∧ ((d = 1 ∧ ca X 1) ∨ (d = 0 ∧ ¬ ca X 1)) := ⟨c, rfl, HCA.out⟩
    subst hdc
    have HD : Hid (wo (X + 1) 1 = c) := add_last HLT.out hd
    have HR : Hid (ys3.set 1 (.int .u64 (c : Int)) = wl (X + 1) (1 + 1)) := add_row hy3.len hy30 hyj HD.out (by omega)
    have HY3 : Hid (Sl w3 (.slice (some ⟨g, 0, none⟩) (1 + 1) cap) (1 + 1) ys3) := hy3
    obtain ⟨z9, cz⟩ : ∃ z9, w3.cell? ⟨g, 1, none⟩ = some z9 := ⟨ys3[1]'(by rw [hy3.len]; omega), by rw [hy3.cell 1 (by omega), List.getElem?_eq_getElem]⟩
    have cf : w3.frozen? ⟨g, 1, none⟩ = false := hy3.frozen 1
    have HX3 : Hid (X + 1 < 18446744073709551616 ^ (1 + 1)) := by
      have := HLT.out
      show X + 1 < _
      rw [Nat.pow_succ]
      omega
    clear hd hy3 hy30 hyj
    have q5 : True := trivial
    go_wp2_with fail
    refine (norm_c (x := X + 1) (by rw [← HR.out]; exact (HY3.out.set 1 (.int .u64 (c : Int))).1) HX3.out (by omega)).mono ?_
    rintro e w5 ⟨rfl, hb5⟩
    go_wp2_with fail
    go_ret
    refine ⟨_, rfl, Nt.below (Nt.norm (by rw [← HR.out]; exact (HY3.out.set 1 (.int .u64 (c : Int))).1) HX3.out) hb5, ?_, fun b hb => by have := HL.out; have hb : g = b := Option.some.inj hb; omega⟩
    exact ((HB.out.grown (grown_setCell (o := 1) (u := .int .u64 (c : Int)) hg3.out) HB.out.size (fun k hk => by have := HL.out; injection hk with hk; omega))).trans (hb5.mono (by have := HB.out.size; have := hg3.out.size; simp [World.setCell]; omega))
  · have q6 : (1 : Int) < (m : Int) := by omega
    have q8 : (1 : Int) ≤ (m : Int) := by omega
    have q7 : (m : Int) ≤ (cap : Int) := by omega
    have q9 : ¬ (cap = 1) := by omega
    have q10 : ¬ (ch = 1) := by omega
    go_wp2_with fail
    refine (addVV1 (w := w1.drew) HC1.out HF1.out HX1c.out HY1c.out).mono ?_
    rintro e w2 ⟨rfl, k, hw2⟩
    rw [HCC.out]
    rw [HSM.out] at hw2
    have HZ2 : Hid (Sl w2 (.slice (some ⟨g, 0, none⟩) (m + 1) cap) (m + 1) (ys.set 0 (.int .u64 (sm : Int)))) := by
      rw [hw2]; exact (HZ.out.set 0 _).1
    have HG2 : Hid (w1.grownBy w2 (some g)) := by
      rw [hw2]; exact grown_like (grown_setCell (o := 0) (u := .int .u64 (sm : Int)) (World.grownBy.refl _ _)) rfl rfl rfl rfl
    have HX2 : Hid (Sl w2 (.slice (some ⟨h, 0, none⟩) m ch) m (wl X m)) := HX1.out.kept HG2.out (.inr (fun e => HGH.out (Option.some.inj e).symm))
    clear hw2
    go_wp2_with fail
    refine wp_region_still_tail 8 rfl (by kernel_rfl) ?_
    simp only [List.take_succ_cons, List.take_zero, List.drop_succ_cons, List.drop_zero]
    repeat still_step
    refine wpStill_nil ?_
    go_wp2_with fail
    refine (addVW_m (w := w2.drew) HGH.out HZ2.out HX2.out (by omega) (by omega) (by omega) (by omega) (by omega) HCA.out).mono ?_
    rintro e w3 ⟨d, rfl, hd, hg3', ys3, hy3, hy30, hyj⟩
    have hg3 : Hid (w2.grownBy w3 (some g)) := ⟨hg3'.os, hg3'.tape, hg3'.output, hg3'.size, hg3'.block⟩
    rw [List.getElem?_set, if_pos rfl, if_pos (by rw [HZ.out.len]; omega), ← HS0.out] at hy30
    clear hg3'
    have HD : Hid (wo (X + 1) m = d) := add_last HLT.out hd
    have HR : Hid (ys3.set m (.int .u64 (d : Int)) = wl (X + 1) (m + 1)) := add_row hy3.len hy30 hyj HD.out (by omega)
    have HY3 : Hid (Sl w3 (.slice (some ⟨g, 0, none⟩) (m + 1) cap) (m + 1) ys3) := hy3
    obtain ⟨z9, cz⟩ : ∃ z9, w3.cell? ⟨g, m, none⟩ = some z9 := ⟨ys3[m]'(by rw [hy3.len]; omega), by rw [hy3.cell m (by omega), List.getElem?_eq_getElem]⟩
    have cf : w3.frozen? ⟨g, m, none⟩ = false := hy3.frozen m
    have HX3 : Hid (X + 1 < 18446744073709551616 ^ (m + 1)) := by
      have := HLT.out
      show X + 1 < _
      rw [Nat.pow_succ]
      omega
    clear hd hy3 hy30 hyj
    go_wp2_with fail
    refine (norm_c (x := X + 1) (by rw [← HR.out]; exact (HY3.out.set m (.int .u64 (d : Int))).1) HX3.out (by omega)).mono ?_
    rintro e w5 ⟨rfl, hb5⟩
    go_wp2_with fail
    go_ret
    refine ⟨_, rfl, Nt.below (Nt.norm (by rw [← HR.out]; exact (HY3.out.set m (.int .u64 (d : Int))).1) HX3.out) hb5, ?_, fun b hb => by have := HL.out; have hb : g = b := Option.some.inj hb; omega⟩
    have hbb := (HB.out.grown HG2.out HB.out.size (fun k hk => by have := HL.out; injection hk with hk; omega))
    have hbc := hbb.grown (grown_setCell (o := m) (u := .int .u64 (d : Int)) hg3.out) hbb.size (fun k hk => by have := HL.out; injection hk with hk; omega)
    exact hbc.trans (hb5.mono hbc.size)
end Wa
end Go.Proofs.YtdpnoaaeplgdjaaGreatDoor
