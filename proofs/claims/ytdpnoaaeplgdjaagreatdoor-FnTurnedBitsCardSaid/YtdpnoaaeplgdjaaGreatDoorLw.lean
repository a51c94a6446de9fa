/-
  THE WALK OF FnTurnedBits.
-/
import Derived.Test.YtdpnoaaeplgdjaaGreatDoorRkL
import Derived.Test.YtdpnoaaeplgdjaaGreatDoorTd
import Derived.Deep.RegionLaw
namespace Go.Proofs.YtdpnoaaeplgdjaaGreatDoor
open Go.RowKit Go.Proofs.YtdpnoaaeplgdjaaGreatDoorW.PrintWords Go.Proofs.YtdpnoaaeplgdjaaGreatDoorW.PrintMore
namespace Tb
open Rg Dg Sp

set_option maxRecDepth 100000 in
theorem fits_no (neg : Bool) (A : Option Addr) (n c : Nat) (h : (2147483647 : Int) < (n : Int)) (w : World) : Calls Tryz.prog 6 #[.agg #[.bool neg, .slice A n c]] w fun e w' => e = .returned (.bool false) ∧ Below w.heap.size w w' := by
  go_enter Tryz.func6, Tryz.ntmps6
  go_wp2
  go_ret
  exact ⟨rfl, (Below.refl _ _).alloc (Nat.le_refl _) _⟩
set_option maxRecDepth 100000 in
theorem fits_yes (neg : Bool) (A : Option Addr) (n c : Nat) (h : ¬ (2147483647 : Int) < (n : Int)) (w : World) : Calls Tryz.prog 6 #[.agg #[.bool neg, .slice A n c]] w fun e w' => e = .returned (.bool true) ∧ Below w.heap.size w w' := by
  go_enter Tryz.func6, Tryz.ntmps6
  go_wp2
  go_ret
  exact ⟨rfl, (Below.refl _ _).alloc (Nat.le_refl _) _⟩

set_option maxRecDepth 100000 in
set_option maxHeartbeats 8000000 in
/-- Where the law says nothing. -/
theorem law_out (neg : Bool) (A : Option Addr) (n c p : Nat) (w : World) (h : 10 < n ∨ 300 < p) : Calls Tryz.prog 3 #[.agg #[.bool neg, .slice A n c], .int .u16 (p : Int)] w fun e w' => e = .returned (.bool true) ∧ Below w.heap.size w w' := by
  have hb : Below w.heap.size w (w.alloc (.cells #[.bool neg, .slice A n c] 24)) := (Below.refl _ _).alloc (Nat.le_refl _) _
  obtain ⟨W, hW⟩ : ∃ W, w.alloc (.cells #[.bool neg, .slice A n c] 24) = W := ⟨_, rfl⟩
  have HW : Hid (w.alloc (.cells #[.bool neg, .slice A n c] 24) = W) := hW
  have hB : Blk W w.heap.size 24 #[.bool neg, .slice A n c] := by rw [← hW]; exact Blk.new _ _ _
  rw [hW] at hb
  have HB : Hid (Below w.heap.size w W) := hb
  have HBB : Hid (Blk W w.heap.size 24 #[.bool neg, .slice A n c]) := hB
  clear hW hb hB
  have c1 := HBB.out.cells
  by_cases h1 : (2147483647 : Int) < (n : Int)
  · clear h
    go_enter Tryz.func3, Tryz.ntmps3
    go_upto_region 1 with fail
    rw [HW.out]
    go_wp2_with fail
    refine (fits_no neg A n c (by omega) _).mono ?_
    rintro e w2 ⟨rfl, hb2⟩
    clear c1
    go_wp2_with fail
    go_ret
    exact ⟨rfl, HB.out.trans (hb2.mono HB.out.size)⟩
  · by_cases h2 : (10 : Int) < (n : Int)
    · clear h
      go_enter Tryz.func3, Tryz.ntmps3
      go_upto_region 1 with fail
      rw [HW.out]
      go_wp2_with fail
      refine (fits_yes neg A n c (by omega) _).mono ?_
      rintro e w2 ⟨rfl, hb2⟩
      clear c1
      have c2 := (Blk.below' HBB.out hb2).cells
      go_wp2_with fail
      go_ret
      exact ⟨rfl, HB.out.trans (hb2.mono HB.out.size)⟩
    · have h3 : (300 : Int) < (p : Int) := by omega
      clear h
      go_enter Tryz.func3, Tryz.ntmps3
      go_upto_region 1 with fail
      rw [HW.out]
      go_wp2_with fail
      refine (fits_yes neg A n c (by omega) _).mono ?_
      rintro e w2 ⟨rfl, hb2⟩
      clear c1
      have c2 := (Blk.below' HBB.out hb2).cells
      go_wp2_with fail
      go_ret
      exact ⟨rfl, HB.out.trans (hb2.mono HB.out.size)⟩

theorem fit1 {m : Nat} (h : dlen m ≤ 40) : Fit m 1 := by
  refine ⟨Nat.le_trans h (by decide), by decide, Nat.le_trans ((dlen_le_iff _ 41).2 ?_) (by decide)⟩
  have := (dlen_le_iff m 40).1 h
  exact Nat.lt_of_le_of_lt this (Nat.pow_lt_pow_right (by decide) (by decide))
theorem fit2 {m : Nat} (h : dlen m ≤ 40) : dlen (m + 2) ≤ 900 := by
  refine Nat.le_trans ((dlen_le_iff _ 41).2 ?_) (by decide)
  have := (dlen_le_iff m 40).1 h
  exact Nat.lt_of_le_of_lt (Nat.succ_le_succ this) (by decide)
theorem no_int (b : Bool) (A : Option Addr) (n c : Nat) (A' : Option Addr) (n' c' : Nat) (k : Nat) (y : Int) : (#[Value.bool b, .slice A n c, .slice A' n' c'] : Array Value)[k]? = some (.int .i64 y) → False := by
  intro h
  match k, h with
  | 0, h => simp at h
  | 1, h => simp at h
  | 2, h => simp at h
  | k + 3, h => simp at h
theorem Ds.setRow' {w : World} {v : Value} {a g : Nat} {b : Bool} {A : Option Addr} {n c : Nat} {A' : Option Addr} {n' c' : Nat} (h : Ds w v a) (hg : Blk w g 30 #[.bool b, .slice A n c, .slice A' n' c']) (cells : Array Value) : Ds (w.setRow g cells) v a := by
  obtain ⟨A0, c0, hv, hc, hr⟩ := h
  have h1 := Kd.reads_of_C (enc := Value.int .i64) (d := (0 : Int)) (h1 := fun _ => rfl) hr
  refine ⟨A0, c0, hv, hc, Kd.C_of_reads (d := (0 : Int)) (h1 := fun _ => rfl) ⟨h1.1, h1.2.1, fun hn => ?_⟩⟩
  obtain ⟨ad, e, hcell⟩ := h1.2.2 hn
  refine ⟨ad, e, fun j hj => ?_⟩
  have h2 := hcell j hj
  have hne : (ad.add j).block ≠ g := by
    intro e2
    unfold World.cell? at h2
    unfold Blk at hg
    rw [e2, hg] at h2
    simp only at h2
    split at h2
    · cases h2
    · exact no_int _ _ _ _ _ _ _ _ _ h2
  rw [← h2]
  exact World.cell?_of_block (Go.setRow_other w g _ cells hne)
theorem Ra.setRow' {w : World} {v : Value} {p : Bool} {a g : Nat} {b : Bool} {A : Option Addr} {n c : Nat} {A' : Option Addr} {n' c' : Nat} (h : Ra w v p a) (hg : Blk w g 30 #[.bool b, .slice A n c, .slice A' n' c']) (cells : Array Value) : Ra (w.setRow g cells) v p a := by
  obtain ⟨x, y, hv, h1, h2⟩ := h
  exact ⟨x, y, hv, Ds.setRow' h1 hg cells, Ds.setRow' h2 hg cells⟩

set_option maxRecDepth 100000 in
set_option maxHeartbeats 8000000 in
theorem law_in (neg : Bool) (u : Value) (ws : List Nat) (p : Nat) (w : World) (hU : Us w u (zi ws)) (hw : ∀ x ∈ ws, x < 18446744073709551616) (hn : ws.length ≤ 10) (hp : p ≤ 300) : Calls Tryz.prog 3 #[.agg #[.bool neg, u], .int .u16 (p : Int)] w fun e w' => e = .returned (.bool true) ∧ Below w.heap.size w w' := by
  obtain ⟨A, c, rfl, hc, hC⟩ := hU
  have hU : Us w (.slice A (zi ws).length c) (zi ws) := ⟨A, c, rfl, hc, hC⟩
  have hwv := wv_lt ws hw
  have hdl : dlen (wv ws) ≤ 40 := Nat.le_trans ((dlen_le_iff _ _).2 hwv) (by omega)
  obtain ⟨w1, hw1⟩ : ∃ w1, w.alloc (.cells #[.bool neg, .slice A (zi ws).length c] 24) = w1 := ⟨_, rfl⟩
  have HW : Hid (w.alloc (.cells #[.bool neg, .slice A (zi ws).length c] 24) = w1) := hw1
  have hb : Below w.heap.size w w1 := by rw [← hw1]; exact (Below.refl _ _).alloc (Nat.le_refl _) _
  have HB1 : Hid (Blk w1 w.heap.size 24 #[.bool neg, .slice A (zi ws).length c]) := by
    show Blk _ _ _ _
    rw [← hw1]; exact Blk.new _ _ _
  have HH : Hid (Below w.heap.size w w1) := hb
  have HU : Hid (Us w1 (.slice A (zi ws).length c) (zi ws)) := hU.below hb
  have HU0 : Hid (Us w (.slice A (zi ws).length c) (zi ws)) := hU
  have HWL : Hid (∀ x ∈ ws, x < 18446744073709551616) := hw
  have HWN : Hid (ws.length ≤ 10) := hn
  obtain ⟨m, hm⟩ : ∃ m, wv ws = m := ⟨_, rfl⟩
  rw [hm] at hdl
  have HM : Hid (wv ws = m) := hm
  have HDL : Hid (dlen m ≤ 40) := hdl
  obtain ⟨s, hs⟩ : ∃ s, (neg && decide (0 < m)) = s := ⟨_, rfl⟩
  have HSS : Hid ((neg && decide (0 < m)) = s) := hs
  have HS : Hid (s = true → 0 < m) := fun h => by rw [← hs] at h; simp at h; exact h.2
  have hzl := zi_len ws
  obtain ⟨n, hnn⟩ : ∃ n, (zi ws).length = n := ⟨_, rfl⟩
  have q1 : n ≤ 10 := by omega
  rw [hnn] at HW HB1 HU HU0 ⊢
  clear hU hwv hdl hw1 hb hc hC hw hn hm hs hzl hnn
  have HOF : Hid (∀ W v, Us W v (zi ws) → Calls Tryz.prog 8 #[v] W fun e w' => ∃ r, e = .returned r ∧ Ds w' r m ∧ Below W.heap.size W w') := fun W v h => by
    have := of_c HWL.out (by have := HWN.out; omega) h
    rwa [HM.out] at this
  have c1 := HB1.out.cells
  go_enter Tryz.func3, Tryz.ntmps3
  go_upto_region 1 with fail
  rw [HW.out]
  go_wp2_with fail
  refine (fits_yes neg A n c (by omega) _).mono ?_
  rintro e w2 ⟨rfl, hb2⟩
  replace HB1 : Hid (Blk w2 _ _ _) := Blk.below' HB1.out hb2
  replace HH : Hid (Below w.heap.size w w2) := HH.out.trans (hb2.mono HH.out.size)
  replace HU : Hid (Us w2 _ _) := HU.out.below hb2
  clear c1 hb2 HW
  revert w2
  intro w1 HB1 HH HU
  have c1 := HB1.out.cells
  go_upto_region 5 with fail
  clear c1
  have HC : Hid (Below w1.heap.size w1 w1.drew) := ⟨rfl, rfl, rfl, Nat.le_refl _, fun _ _ => rfl⟩
  go_cut [5] (fun s5 wx => ∃ g X nx cx Y ny cy, s5 = .pointer (some ⟨g, 0, none⟩) ∧ Hid (w1.heap.size ≤ g) ∧ Hid (Blk wx g 30 #[.bool s, .slice X nx cx, .slice Y ny cy]) ∧ Hid (Below w1.heap.size w1 wx) ∧ Hid (Ra wx (.agg #[.bool s, .slice X nx cx, .slice Y ny cy]) s m))
  case first =>
    go_region_held3 (fun w' => w'.cell? ⟨w.heap.size, 0, none⟩ = some (.bool neg) ∧ w'.cell? ⟨w.heap.size, 1, none⟩ = some (.slice A n c))
      (first
        | (exact ⟨(Blk.below' HB1.out HC.out).cell 0, (Blk.below' HB1.out HC.out).cell 1⟩)
        | (exact ⟨(Blk.below' HB1.out (HC.out.alloc HC.out.size _)).cell 0, (Blk.below' HB1.out (HC.out.alloc HC.out.size _)).cell 1⟩)
        | (exact ⟨(Blk.below' HB1.out HF.out.2.2).cell 0, (Blk.below' HB1.out HF.out.2.2).cell 1⟩)
        | (exact ⟨(Blk.below' HB1.out (below_row HF.out.2.2 HF.out.1 _)).cell 0, (Blk.below' HB1.out (below_row HF.out.2.2 HF.out.1 _)).cell 1⟩)
        | (exact ⟨(Blk.below' HB1.out (below_row (HC.out.alloc HC.out.size _) HC.out.size _)).cell 0, (Blk.below' HB1.out (below_row (HC.out.alloc HC.out.size _) HC.out.size _)).cell 1⟩))
      (first
      | (go_at_call 8; (with_reducible refine (HOF.out _ _ (HU.out.below HC.out)).mono ?_); rintro e wn ⟨r, rfl, hr, hbn⟩
         obtain ⟨X, cx, rfl⟩ := hr.form
         have HR : Hid (Ds wn _ m) := hr
         replace HC : Hid (Below w1.heap.size w1 wn) := Rg.below_step HC.out hbn
         clear hr hbn)
      | (go_at_call 8; (with_reducible refine (HOF.out _ _ (HU.out.below ((Below.refl _ _).alloc (Nat.le_refl _) _).drew)).mono ?_); rintro e wn ⟨r, rfl, hr, hbn⟩
         obtain ⟨X, cx, rfl⟩ := hr.form
         have HR : Hid (Ds wn _ m) := hr
         have HF : Hid (Fin w1 wn w1.heap.size) := (Fin.new (Below.refl w1.heap.size w1)).drew.below hbn
         clear hr hbn HC)
      | (go_at_call 7; (with_reducible refine (whole_c HR.out _).mono ?_); rintro e wn ⟨r, rfl, hr, hbn⟩
         rw [HSS.out] at hr
         obtain ⟨X1, nx, cx, Y1, ny, cy, rfl⟩ := hr.form
         have HV : Hid (Ra wn _ s m) := hr
         try (replace HC : Hid (Below w1.heap.size w1 wn) := Rg.below_step HC.out hbn)
         try (replace HF : Hid (Fin w1 wn _) := HF.out.below hbn)
         try (have hS : Slot wn _ 30 3 := HF.out.2.1.slot)
         try (have hS : Slot wn w1.heap.size 30 3 := HF.out.2.1.slot)
         try (have hS : Slot (wn.alloc (.cells #[.bool false, .slice none 0 0, .slice none 0 0] 30)) wn.heap.size 30 3 := (Blk.new wn 30 r0).slot)
         clear hr hbn)
      | (go_at_call 7; (with_reducible refine (whole_c (HR.out.below ((Below.refl _ _).alloc (Nat.le_refl _) _)) _).mono ?_); rintro e wn ⟨r, rfl, hr, hbn⟩
         rw [HSS.out] at hr
         obtain ⟨X1, nx, cx, Y1, ny, cy, rfl⟩ := hr.form
         have HV : Hid (Ra wn _ s m) := hr
         have HF : Hid (Fin w1 wn _) := (Fin.new HC.out).below hbn
         have hS : Slot wn _ 30 3 := HF.out.2.1.slot
         clear hr hbn HC))
    all_goals
      go_wp2_with fail
      go_meet
      first
        | exact ⟨_, _, _, _, _, _, _, rfl, HF.out.1, (HF.out.done HV.out).2.1, (HF.out.done HV.out).2.2.1, (HF.out.done HV.out).2.2.2⟩
        | exact ⟨_, _, _, _, _, _, _, rfl, (Fin.new HC.out).1, ((Fin.new HC.out).done (HV.out.below ((Below.refl _ _).alloc (Nat.le_refl _) _))).2.1, ((Fin.new HC.out).done (HV.out.below ((Below.refl _ _).alloc (Nat.le_refl _) _))).2.2.1, ((Fin.new HC.out).done (HV.out.below ((Below.refl _ _).alloc (Nat.le_refl _) _))).2.2.2⟩
  case rest =>
  obtain ⟨g, X, nx, cx, Y, ny, cy, hs5, HG, HV, HC, HR⟩ := hcut
  subst hs5
  revert wc
  intro wa HV HC HR
  replace HB1 : Hid (Blk wa _ _ _) := Blk.below' HB1.out HC.out
  replace HH : Hid (Below w.heap.size w wa) := HH.out.trans (HC.out.mono HH.out.size)
  replace HU : Hid (Us wa _ _) := HU.out.below HC.out
  clear HG HC
  have c5 := HV.out.cells
  go_wp2_with fail
  refine (negated_c HR.out).mono ?_
  rintro e w2 ⟨r2, rfl, hr2, hb2⟩
  replace HB1 : Hid (Blk w2 _ _ _) := Blk.below' HB1.out hb2
  replace HH : Hid (Below w.heap.size w w2) := HH.out.trans (hb2.mono HH.out.size)
  replace HU : Hid (Us w2 _ _) := HU.out.below hb2
  have HR2 : Hid (Ra w2 r2 (!s && decide (0 < m)) m) := hr2
  clear c5 hr2 hb2 HV HR
  go_wp2_with fail
  refine (of64_c _).mono ?_
  rintro e w3 ⟨r3, r4, rfl, hr3, hr4, hb3⟩
  replace HB1 : Hid (Blk w3 _ _ _) := Blk.below' HB1.out hb3
  replace HH : Hid (Below w.heap.size w w3) := HH.out.trans (hb3.mono HH.out.size)
  replace HU : Hid (Us w3 _ _) := HU.out.below hb3
  replace HR2 : Hid (Ra w3 _ _ _) := HR2.out.below hb3
  have HO : Hid (Ra w3 (.agg #[.bool false, r3, r4]) false 1) := ⟨_, _, rfl, hr3, hr4⟩
  have HFIT : Hid (Fit m 1) := fit1 HDL.out
  clear hr3 hr4 hb3
  go_wp2_with fail
  refine (minus_c HFIT.out HR2.out HO.out).mono ?_
  rintro e w4 ⟨r5, rfl, hr5', hb4⟩
  have hr5 : Ra w4 r5 (Wa.out s m 0).1 (Wa.out s m 0).2 := by
    rw [← want_all s m HS.out]; exact hr5'
  obtain ⟨t, ht⟩ : ∃ t, (Wa.out s m 0).1 = t := ⟨_, rfl⟩
  obtain ⟨k, hk⟩ : ∃ k, (Wa.out s m 0).2 = k := ⟨_, rfl⟩
  have HT : Hid ((Wa.out s m 0).1 = t) := ht
  have HK : Hid ((Wa.out s m 0).2 = k) := hk
  rw [ht, hk] at hr5
  clear hr5' ht hk HR2 HO HFIT
  obtain ⟨X, nx, cx, Y, ny, cy, rfl⟩ := hr5.form
  have hF := Fin.new (w1 := w4) (Below.refl w4.heap.size w4)
  have hd := hF.done (cells := #[.bool t, .slice X nx cx, .slice Y ny cy]) (hr5.below ((Below.refl _ _).alloc (Nat.le_refl _) _))
  have hS : Slot (w4.alloc (.cells #[.bool false, .slice none 0 0, .slice none 0 0] 30)) w4.heap.size 30 3 := hF.2.1.slot
  obtain ⟨w5, hw5⟩ : ∃ w5, (w4.alloc (.cells #[.bool false, .slice none 0 0, .slice none 0 0] 30)).setRow w4.heap.size #[.bool t, .slice X nx cx, .slice Y ny cy] = w5 := ⟨_, rfl⟩
  have HW5 : Hid ((w4.alloc (.cells #[.bool false, .slice none 0 0, .slice none 0 0] 30)).setRow w4.heap.size #[.bool t, .slice X nx cx, .slice Y ny cy] = w5) := hw5
  have hd5 : w4.heap.size ≤ w4.heap.size ∧ Blk w5 w4.heap.size 30 #[.bool t, .slice X nx cx, .slice Y ny cy] ∧ Below w4.heap.size w4 w5 ∧ Ra w5 (.agg #[.bool t, .slice X nx cx, .slice Y ny cy]) t k := by
    rw [← hw5]; exact hd
  obtain ⟨_, h3, h4, h5⟩ := hd5
  have HL : Hid (w.heap.size < w4.heap.size) := (Blk.below' HB1.out hb4).lt
  replace hb4 := Rg.below_step hb4 h4
  replace HB1 : Hid (Blk w5 _ _ _) := Blk.below' HB1.out hb4
  replace HH : Hid (Below w.heap.size w w5) := HH.out.trans (hb4.mono HH.out.size)
  replace HU : Hid (Us w5 _ _) := HU.out.below hb4
  have HV : Hid (Blk w5 w4.heap.size 30 #[.bool t, .slice X nx cx, .slice Y ny cy]) := h3
  have HR : Hid (Ra w5 (.agg #[.bool t, .slice X nx cx, .slice Y ny cy]) t k) := h5
  clear hF hd hw5 h3 h4 h5 hb4 hr5
  go_upto_region 7 with fail
  rw [HW5.out]
  obtain ⟨gw, hgw⟩ : ∃ g, w4.heap.size = g := ⟨_, rfl⟩
  rw [hgw] at HV HL ⊢
  clear hgw hS HW5
  go_upto_if 29 with fail
  go_cut [6] (fun s6 wx => s6 = .pointer (some ⟨gw, 0, none⟩) ∧ ∃ q X nx cx Y ny cy, Hid (Blk wx gw 30 #[.bool q, .slice X nx cx, .slice Y ny cy]) ∧ Hid (Below w.heap.size w wx) ∧ Hid (Ra wx (.agg #[.bool q, .slice X nx cx, .slice Y ny cy]) (Wa.out s m p).1 (Wa.out s m p).2) ∧ Hid (q = (Wa.out s m p).1) ∧ Hid (Blk wx w.heap.size 24 #[.bool neg, .slice A n c]))
  case first =>
    by_cases hp0 : p = 0
    · subst hp0
      go_wp2_with fail
      go_meet
      exact ⟨rfl, _, _, _, _, _, _, _, HV, HH, (by rw [HT.out, HK.out]; exact HR.out : Ra _ _ _ _), HT.out.symm, HB1⟩
    · have q0 : (0 : Int) < (p : Int) := by omega
      go_upto_region 8 with fail
      have HPP : Hid (0 < p) := Nat.pos_of_ne_zero hp0
      clear hp0
      have HC : Hid (Below w5.heap.size w5 w5.drew) := ⟨rfl, rfl, rfl, Nat.le_refl _, fun _ _ => rfl⟩
      have c6 := HV.out.cells
      have HSZ : Hid (dlen (k + 1) ≤ 900 ∧ dlen (2 ^ p + 2 ^ p) ≤ 900) := by
        constructor
        · have h1 := Wa.out_le s m 0
          rw [HK.out] at h1
          refine Nat.le_trans (dlen_mono (show k + 1 ≤ m + 2 from ?_)) (fit2 HDL.out)
          omega
        · rw [show 2 ^ p + 2 ^ p = 2 ^ (p + 1) from by rw [Nat.pow_succ]; omega]
          exact Nat.le_trans (dlen_pow (p + 1)) (by omega)
      have hwp : IntKind.i64.wrap (p : Int) = (p : Int) := by rw [IntKind.wrap_i64]; omega
      go_region_law (go_simp; first
        | (go_at_call 13; (with_reducible refine (bit_at (by omega) _).mono ?_); rintro e wn ⟨v, rfl, hv, hbn⟩
           have HD : Hid (Ds wn v (2 ^ p)) := hv
           have c7 := (Blk.below' HV.out (Rg.below_step HC.out hbn)).cells
           replace HC : Hid (Below w5.heap.size w5 wn) := Rg.below_step HC.out hbn
           clear hv hbn)
        | (go_at_call 7; (with_reducible refine (whole_c HD.out _).mono ?_); rintro e wn ⟨v, rfl, hv, hbn⟩
           have HE : Hid (Ra wn v false (2 ^ p)) := hv
           have c7 := (Blk.below' HV.out (Rg.below_step HC.out hbn)).cells
           replace HC : Hid (Below w5.heap.size w5 wn) := Rg.below_step HC.out hbn
           clear hv hbn)
        | (go_at_call 12; (with_reducible refine (floored_c (Nat.two_pow_pos p) HSZ.out.1 HSZ.out.2 (HR.out.below HC.out) HE.out).mono ?_); rintro e wn ⟨v, v', rfl, _, hv, hbn⟩
           obtain ⟨q2, hq2⟩ : ∃ q, (fl t k (2 ^ p)).1 = q := ⟨_, rfl⟩
           have HQ2 : Hid ((fl t k (2 ^ p)).1 = q2) := hq2
           rw [hq2] at hv
           obtain ⟨X2, nx2, cx2, Y2, ny2, cy2, rfl⟩ := hv.form
           have HFV : Hid (Ra wn _ q2 (fl t k (2 ^ p)).2) := hv
           replace HC : Hid (Below w5.heap.size w5 wn) := Rg.below_step HC.out hbn
           have hS : Slot wn gw 30 3 := (Blk.below' HV.out HC.out).slot
           clear hv hbn hq2))
      all_goals
        have HFL : Hid (fl t k (2 ^ p) = Wa.out s m p) := by
          show fl t k (2 ^ p) = _
          unfold fl
          rw [← HT.out, ← HK.out]
          exact want_low s m p HPP.out
        have HBV : Hid (Blk wn gw 30 #[.bool t, .slice X nx cx, .slice Y ny cy]) := Blk.below' HV.out HC.out
        go_wp2_with fail
        go_meet
        refine ⟨rfl, _, _, _, _, _, _, _, HBV.out.setRow_same _, below_row (HH.out.trans (HC.out.mono HH.out.size)) (Nat.le_of_lt HL.out) _, ?_, ?_, (Blk.below' HB1.out HC.out).setRow_other (by have := HL.out; omega) _⟩
        · have h9 := Ra.setRow' HFV.out HBV.out #[.bool q2, .slice X2 nx2 cx2, .slice Y2 ny2 cy2]
          rw [← HQ2.out, HFL.out] at h9
          rw [← HQ2.out, HFL.out]
          exact h9
        · show q2 = _
          rw [← HQ2.out, HFL.out]
  case rest =>
  obtain ⟨hs6, q, X2, nx2, cx2, Y2, ny2, cy2, HV2, HH2, HR2, HQ, HB2⟩ := hcut
  subst hs6
  revert wc
  intro wz HV2 HH2 HR2 HB2
  obtain ⟨so, hso⟩ : ∃ o, (Wa.out s m p).1 = o := ⟨_, rfl⟩
  obtain ⟨ao, hao⟩ : ∃ o, (Wa.out s m p).2 = o := ⟨_, rfl⟩
  have HSO : Hid (so = true → 0 < ao) := by
    show so = true → 0 < ao
    rw [← hso, ← hao]; exact Wa.out_sign s m p
  have HAO : Hid (dlen ao ≤ 900) := by
    show dlen ao ≤ 900
    rw [← hao]
    rcases Wa.out_le s m p with h1 | h1
    · exact Nat.le_trans (dlen_mono (Nat.le_succ_of_le h1)) (fit2 HDL.out)
    · exact Nat.le_trans (dlen_mono h1) (Nat.le_trans (dlen_pow p) (by omega))
  have HUN : Hid (∀ W, Us W (.slice A n c) (zi ws) → Calls Tryz.prog 15 #[.int .i64 2, .agg (Wa.iv neg (.slice A n c)), .int .u64 (p : Int)] W fun e w' => ∃ u', e = .returned (.agg (Wa.iv so u')) ∧ Us w' u' (wds ao) ∧ Below W.heap.size W w') := fun W h => by
    have h9 := Wa.unary_int (p := p) ⟨HWL.out, by have := HWN.out; omega, h⟩ neg (by
      rw [HM.out, Wa.nw_dlen]
      have := fit2 HDL.out
      have := dlen_mono (show m + 1 ≤ m + 2 by omega)
      omega) (by omega)
    rw [HM.out, HSS.out, hso, hao] at h9
    exact h9
  have hq : q = so := HQ.out.trans hso
  rw [hso, hao] at HR2
  subst hq
  clear hso hao HQ HV HR HB1 HU HT HK HH HDL HSS HS HOF
  have HC : Hid (Below wz.heap.size wz wz.drew) := ⟨rfl, rfl, rfl, Nat.le_refl _, fun _ _ => rfl⟩
  have hwp : IntKind.u64.wrap (p : Int) = (p : Int) := by rw [IntKind.wrap_u64]; omega
  go_wp2_with fail
  go_region_held3 (fun w' => (∀ j, w'.cell? ⟨w.heap.size, j, none⟩ = (#[.bool neg, .slice A n c] : Array Value)[j]?) ∧ (∀ j, w'.cell? ⟨gw, j, none⟩ = (#[.bool q, .slice X2 nx2 cx2, .slice Y2 ny2 cy2] : Array Value)[j]?))
    (exact ⟨(Blk.below' HB2.out HC.out).cells, (Blk.below' HV2.out HC.out).cells⟩)
    (first
    | (go_at_call 15; (with_reducible refine (HUN.out _ ((HU0.out.below HH2.out).below HC.out)).mono ?_); rintro e wn ⟨u', rfl, hu, hbn⟩
       obtain ⟨A3, n3, c3, rfl⟩ := hu.form
       have HU3 : Hid (Us wn _ (wds ao)) := hu
       replace HC : Hid (Below wz.heap.size wz wn) := Rg.below_step HC.out hbn
       clear hu hbn)
    | (go_at_call 14; (with_reducible refine (isInt_c HSO.out HAO.out HU3.out (HR2.out.below HC.out)).mono ?_); rintro e wn ⟨rfl, hbn⟩
       replace HC : Hid (Below wz.heap.size wz wn) := Rg.below_step HC.out hbn
       clear hbn))
  all_goals
    go_wp2_with fail
    go_ret
    exact ⟨rfl, HH2.out.trans (HC.out.mono HH2.out.size)⟩

/-- The law at every number that can be read and every number of bits. -/
theorem law_true (neg : Bool) (A : Option Addr) (c : Nat) (l : List Int) (p : Int) (w : World) (hC : Kd.C (Kd.int .u64) w A l.length l) (hc : l.length ≤ c) (hl : ∀ x ∈ l, 0 ≤ x ∧ x < 18446744073709551616) (hp : 0 ≤ p) :
    Calls Tryz.prog 3 #[.agg #[.bool neg, .slice A l.length c], .int .u16 p] w fun e w' => e = .returned (.bool true) ∧ Below w.heap.size w w' := by
  obtain ⟨p, rfl⟩ := Int.eq_ofNat_of_zero_le hp
  by_cases h : 10 < l.length ∨ 300 < p
  · exact law_out neg A l.length c p w h
  · obtain ⟨ws, hz, hw, hn⟩ : ∃ ws : List Nat, zi ws = l ∧ (∀ x ∈ ws, x < 18446744073709551616) ∧ ws.length = l.length := by
      refine ⟨l.map Int.toNat, ?_, ?_, by simp⟩
      · unfold zi
        rw [List.map_map]
        refine (List.map_congr_left fun x hx => ?_).trans (List.map_id l)
        have := (hl x hx).1
        show ((x.toNat : Nat) : Int) = x
        omega
      · intro x hx
        obtain ⟨y, hy, rfl⟩ := List.mem_map.1 hx
        have := hl y hy
        omega
    exact law_in neg _ ws p w ⟨A, c, by rw [hz], by rw [hz]; exact hc, by rw [hz]; exact hC⟩ hw (by omega) (by omega)
end Tb
end Go.Proofs.YtdpnoaaeplgdjaaGreatDoor
