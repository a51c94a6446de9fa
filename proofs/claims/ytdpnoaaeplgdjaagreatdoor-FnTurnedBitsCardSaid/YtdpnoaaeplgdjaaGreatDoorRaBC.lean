/-
  THE WALK OF package spec's fractions: Whole, Negated, SignOf.
-/
import Derived.Test.YtdpnoaaeplgdjaaGreatDoorSp
import Derived.Test.YtdpnoaaeplgdjaaGreatDoorDgAll
namespace Go.Proofs.YtdpnoaaeplgdjaaGreatDoor
open Go.RowKit Go.Proofs.YtdpnoaaeplgdjaaGreatDoorW.PrintWords Go.Proofs.YtdpnoaaeplgdjaaGreatDoorW.PrintMore
namespace Sp
open Rg Dg

/-- A fraction that is nothing yet. -/
abbrev r0 : Array Value := #[.bool false, .slice none 0 0, .slice none 0 0]
/-- v is an integer as a fraction. -/
def Ra (w : World) (v : Value) (p : Bool) (a : Nat) : Prop := ∃ x y, v = .agg #[.bool p, x, y] ∧ Ds w x a ∧ Ds w y 1
theorem Ra.below {w w' : World} {v : Value} {p : Bool} {a : Nat} (h : Ra w v p a) (hb : Below w.heap.size w w') : Ra w' v p a := by
  obtain ⟨x, y, hv, h1, h2⟩ := h
  exact ⟨x, y, hv, h1.below hb, h2.below hb⟩

theorem ret30 {f : Func} {p : Tmp} {R : Ending → World → Prop} {a : Act} {w : World} (h : f.results = #[.cell p 30]) (hd : a.defers = []) {g : Nat} {cs : Array Value} (hp : a.tmps.getD p undef = .pointer (some ⟨g, 0, none⟩)) (hg : Blk w g 30 cs) (hs : cs.size = 3)
    (hR : R (.returned (.agg cs)) w) : bodyPost Tryz.prog f R .ret a w :=
  bodyPost_ret (results_cell_row h a.tmps w g 30 cs (0, 0) _ hp hg Tryz.underlying30 rfl (by rw [hs]; exact size30)) hd hR

theorem r0_no_int (k : Nat) (y : Int) : r0[k]? = some (.int .i64 y) → False := by
  intro h
  match k, h with
  | 0, h => simp at h
  | 1, h => simp at h
  | 2, h => simp at h
  | k + 3, h => simp at h
theorem Ds.setRow {w : World} {v : Value} {a g : Nat} (h : Ds w v a) (hg : Blk w g 30 r0) (cells : Array Value) : Ds (w.setRow g cells) v a := by
  obtain ⟨A, c, hv, hc, hr⟩ := h
  have h1 := Kd.reads_of_C (enc := Value.int .i64) (d := (0 : Int)) (h1 := fun _ => rfl) hr
  refine ⟨A, c, hv, hc, Kd.C_of_reads (d := (0 : Int)) (h1 := fun _ => rfl) ⟨h1.1, h1.2.1, fun hn => ?_⟩⟩
  obtain ⟨ad, e, hcell⟩ := h1.2.2 hn
  refine ⟨ad, e, fun j hj => ?_⟩
  have h2 := hcell j hj
  have hne : (ad.add j).block ≠ g := by
    intro e2
    unfold World.cell? at h2
    unfold Blk at hg
    rw [e2, hg] at h2
    simp only at h2
    split at h2
    · cases h2
    · exact r0_no_int _ _ h2
  rw [← h2]
  exact World.cell?_of_block (Go.setRow_other w g _ cells hne)

set_option maxRecDepth 100000 in
set_option maxHeartbeats 4000000 in
theorem whole_c {w : World} {x : Value} {a : Nat} (h : Ds w x a) (p : Bool) : Calls Tryz.prog 7 #[.bool p, x] w fun e w' => ∃ r, e = .returned r ∧ Ra w' r (p && decide (0 < a)) a ∧ Below w.heap.size w w' := by
  obtain ⟨A, c, rfl⟩ := h.form
  obtain ⟨w1, hw1⟩ : ∃ w1, w.alloc (.cells r0 30) = w1 := ⟨_, rfl⟩
  have HW : Hid (w.alloc (.cells r0 30) = w1) := hw1
  have hB1 : Blk w1 w.heap.size 30 r0 := by rw [← hw1]; exact Blk.new w 30 _
  have hb1 : Below w.heap.size w w1 := by rw [← hw1]; exact (Below.refl _ _).alloc (Nat.le_refl _) _
  have hD1 : Ds w1 (.slice A (dlen a) c) a := h.below hb1
  have hsm := small_c 1 (by decide) w1
  rw [show ((1 : Nat) : Int) = 1 from rfl] at hsm
  have hlen : decide (0 < dlen a) = decide (0 < a) := by
    rcases Nat.eq_zero_or_pos a with h0 | h0
    · subst h0; rfl
    · have := dlen_pos a h0
      rw [decide_eq_true h0, decide_eq_true this]
  obtain ⟨n, hn⟩ : ∃ n, dlen a = n := ⟨_, rfl⟩
  obtain ⟨q, hq⟩ : ∃ q, decide (0 < a) = q := ⟨_, rfl⟩
  have HD : Hid (Ds w1 (.slice A n c) a) := by rw [← hn]; exact hD1
  have HB : Hid (Blk w1 w.heap.size 30 r0) := hB1
  have HH : Hid (Below w.heap.size w w1) := hb1
  rw [hn] at hlen ⊢
  rw [hq] at hlen ⊢
  clear hw1 hB1 hb1 hD1 hn hq h
  have fin : ∀ (w2 : World) (r : Value), Ds w2 r 1 → Below w1.heap.size w1 w2 → ∀ b : Bool, (∃ A' n' c', r = .slice A' n' c') → Ra (w2.setRow w.heap.size #[.bool b, .slice A n c, r]) (.agg #[.bool b, .slice A n c, r]) b a ∧ Below w.heap.size w (w2.setRow w.heap.size #[.bool b, .slice A n c, r]) := by
    intro w2 r hr hb2 b _
    have hB2 : Blk w2 w.heap.size 30 r0 := Blk.below' HB.out hb2
    have hbb : Below w.heap.size w w2 := HH.out.trans (hb2.mono HH.out.size)
    exact ⟨⟨_, _, rfl, (HD.out.below hb2).setRow hB2 _, hr.setRow hB2 _⟩, below_row hbb (Nat.le_refl _) _⟩
  have HF : Hid (∀ (w2 : World) (r : Value), Ds w2 r 1 → Below w1.heap.size w1 w2 → ∀ b : Bool, (∃ A' n' c', r = .slice A' n' c') → Ra (w2.setRow w.heap.size #[.bool b, .slice A n c, r]) (.agg #[.bool b, .slice A n c, r]) b a ∧ Below w.heap.size w (w2.setRow w.heap.size #[.bool b, .slice A n c, r])) := fin
  clear fin
  cases p with
  | false =>
    go_enter Tryz.func7, Tryz.ntmps7
    go_wp2_with fail
    rw [HW.out]
    refine hsm.mono ?_
    rintro e w2 ⟨r, rfl, hr, hb2⟩
    have hS : Slot w2 w.heap.size 30 3 := (Blk.below' HB.out hb2).slot
    have HB2 : Hid (Blk w2 w.heap.size 30 r0) := Blk.below' HB.out hb2
    obtain ⟨A', c', rfl⟩ := hr.form
    obtain ⟨f1, f2⟩ := HF.out w2 _ hr hb2 false ⟨_, _, _, rfl⟩
    have HX : Hid (Ra _ _ _ _ ∧ Below _ _ _) := ⟨f1, f2⟩
    clear hr hb2 hsm f1 f2
    go_wp2_with fail
    exact ret30 (cs := #[.bool false, .slice A n c, .slice A' (dlen 1) c']) rfl rfl rfl (HB2.out.setRow_same _) rfl ⟨_, rfl, HX.out.1, HX.out.2⟩
  | true =>
    go_enter Tryz.func7, Tryz.ntmps7
    go_wp2_with fail
    rw [HW.out]
    refine hsm.mono ?_
    rintro e w2 ⟨r, rfl, hr, hb2⟩
    have hS : Slot w2 w.heap.size 30 3 := (Blk.below' HB.out hb2).slot
    have HB2 : Hid (Blk w2 w.heap.size 30 r0) := Blk.below' HB.out hb2
    obtain ⟨A', c', rfl⟩ := hr.form
    obtain ⟨f1, f2⟩ := HF.out w2 _ hr hb2 q ⟨_, _, _, rfl⟩
    have HX : Hid (Ra _ _ _ _ ∧ Below _ _ _) := ⟨f1, f2⟩
    clear hr hb2 hsm f1 f2
    go_wp2_with fail
    exact ret30 (cs := #[.bool q, .slice A n c, .slice A' (dlen 1) c']) rfl rfl rfl (HB2.out.setRow_same _) rfl ⟨_, rfl, HX.out.1, HX.out.2⟩

set_option maxRecDepth 100000 in
set_option maxHeartbeats 4000000 in
theorem negated_c {w : World} {r : Value} {p : Bool} {a : Nat} (h : Ra w r p a) : Calls Tryz.prog 10 #[r] w fun e w' => ∃ r', e = .returned r' ∧ Ra w' r' (!p && decide (0 < a)) a ∧ Below w.heap.size w w' := by
  obtain ⟨x, y, rfl, hx, hy⟩ := h
  obtain ⟨A, c, rfl⟩ := hx.form
  obtain ⟨A', c', rfl⟩ := hy.form
  obtain ⟨w1, hw1⟩ : ∃ w1, (w.alloc (.cells #[.bool p, .slice A (dlen a) c, .slice A' (dlen 1) c'] 30)).alloc (.cells r0 30) = w1 := ⟨_, rfl⟩
  have hB1 : Blk w1 (w.heap.size + 1) 30 r0 := by
    rw [← hw1]
    have := Blk.new (w.alloc (.cells #[.bool p, .slice A (dlen a) c, .slice A' (dlen 1) c'] 30)) 30 r0
    simpa using this
  have hb1 : Below w.heap.size w w1 := by rw [← hw1]; exact ((Below.refl _ _).alloc (Nat.le_refl _) _).alloc (by simp) _
  have fin : ∀ b : Bool, Ra (w1.setRow (w.heap.size + 1) #[.bool b, .slice A (dlen a) c, .slice A' (dlen 1) c']) (.agg #[.bool b, .slice A (dlen a) c, .slice A' (dlen 1) c']) b a ∧ Below w.heap.size w (w1.setRow (w.heap.size + 1) #[.bool b, .slice A (dlen a) c, .slice A' (dlen 1) c']) :=
    fun b => ⟨⟨_, _, rfl, (hx.below hb1).setRow hB1 _, (hy.below hb1).setRow hB1 _⟩, below_row hb1 (Nat.le_succ _) _⟩
  have hlen : decide (0 < dlen a) = decide (0 < a) := by
    rcases Nat.eq_zero_or_pos a with h0 | h0
    · subst h0; rfl
    · have := dlen_pos a h0
      rw [decide_eq_true h0, decide_eq_true this]
  obtain ⟨n, hn⟩ : ∃ n, dlen a = n := ⟨_, rfl⟩
  obtain ⟨n', hn'⟩ : ∃ n', dlen 1 = n' := ⟨_, rfl⟩
  obtain ⟨q, hq⟩ : ∃ q, decide (0 < a) = q := ⟨_, rfl⟩
  rw [hn, hn'] at hw1 fin
  rw [hn] at hlen
  rw [hq] at hlen
  rw [hn, hn', hq]
  have hS : Slot ((w.alloc (.cells #[.bool p, .slice A n c, .slice A' n' c'] 30)).alloc (.cells r0 30)) (w.heap.size + 1) 30 3 := by rw [hw1]; exact hB1.slot
  rw [← hw1] at fin hB1
  have HF : Hid (∀ b : Bool, Ra (((w.alloc (.cells #[.bool p, .slice A n c, .slice A' n' c'] 30)).alloc (.cells r0 30)).setRow (w.heap.size + 1) #[.bool b, .slice A n c, .slice A' n' c']) (.agg #[.bool b, .slice A n c, .slice A' n' c']) b a ∧ Below w.heap.size w (((w.alloc (.cells #[.bool p, .slice A n c, .slice A' n' c'] 30)).alloc (.cells r0 30)).setRow (w.heap.size + 1) #[.bool b, .slice A n c, .slice A' n' c'])) := fin
  have HB1 : Hid (Blk ((w.alloc (.cells #[.bool p, .slice A n c, .slice A' n' c'] 30)).alloc (.cells r0 30)) (w.heap.size + 1) 30 r0) := hB1
  clear fin hw1 hB1 hb1 hx hy hn hn' hq
  cases p with
  | false =>
    go_enter Tryz.func10, Tryz.ntmps10
    go_wp2_with fail
    exact ret30 (cs := #[.bool q, .slice A n c, .slice A' n' c']) rfl rfl rfl (HB1.out.setRow_same _) rfl ⟨_, rfl, (HF.out q).1, (HF.out q).2⟩
  | true =>
    go_enter Tryz.func10, Tryz.ntmps10
    go_wp2_with fail
    exact ret30 (cs := #[.bool false, .slice A n c, .slice A' n' c']) rfl rfl rfl (HB1.out.setRow_same _) rfl ⟨_, rfl, (HF.out false).1, (HF.out false).2⟩

set_option maxRecDepth 100000 in
set_option maxHeartbeats 4000000 in
theorem signOf_c {w : World} {r : Value} {p : Bool} {a : Nat} (h : Ra w r p a) : Calls Tryz.prog 24 #[r] w fun e w' => e = .returned (.int .i64 (if a = 0 then 0 else if p then -1 else 1)) ∧ Below w.heap.size w w' := by
  obtain ⟨x, y, rfl, hx, hy⟩ := h
  obtain ⟨A, c, rfl⟩ := hx.form
  obtain ⟨A', c', rfl⟩ := hy.form
  rcases Nat.eq_zero_or_pos a with h0 | h0
  · subst h0
    rw [if_pos rfl, dlen_zero]
    clear hx hy
    go_enter Tryz.func24, Tryz.ntmps24
    go_wp2
    go_ret
    exact ⟨rfl, (Below.refl _ _).alloc (Nat.le_refl _) _⟩
  · have hp := dlen_pos a h0
    have q1 : ¬ ((dlen a : Int) = 0) := by omega
    rw [if_neg (by omega)]
    obtain ⟨n, hn⟩ : ∃ n, dlen a = n := ⟨_, rfl⟩
    rw [hn] at q1 ⊢
    clear hx hy hn hp h0
    cases p with
    | false =>
      go_enter Tryz.func24, Tryz.ntmps24
      go_wp2
      go_ret
      exact ⟨rfl, (Below.refl _ _).alloc (Nat.le_refl _) _⟩
    | true =>
      go_enter Tryz.func24, Tryz.ntmps24
      go_wp2
      go_ret
      exact ⟨rfl, (Below.refl _ _).alloc (Nat.le_refl _) _⟩
end Sp
end Go.Proofs.YtdpnoaaeplgdjaaGreatDoor
/-
  THE WALK OF package spec's DivMod by one digit, and of Gcd with 1.
-/
namespace Go.Proofs.YtdpnoaaeplgdjaaGreatDoor
open Go.RowKit Go.Proofs.YtdpnoaaeplgdjaaGreatDoorW.PrintWords Go.Proofs.YtdpnoaaeplgdjaaGreatDoorW.PrintMore
namespace Sp
open Rg Dg

/-- The first digit of a number that is not 0. -/
theorem Ds.first {w : World} {v : Value} {b : Nat} (h : Ds w v b) (hb : 0 < b) : ∃ ad c, v = .slice (some ad) (dlen b) c ∧ dlen b ≤ c ∧ w.cell? ad = some (.int .i64 ((b % 65536 : Nat) : Int)) := by
  obtain ⟨A, c, rfl, hc, hr⟩ := h
  have hp := dlen_pos b hb
  obtain ⟨ad, rfl, hcell⟩ := Kd.at_int hr 0 (by omega) (by rw [dg_len]; omega)
  refine ⟨ad, c, by rw [dg_len], by rw [← dg_len]; exact hc, ?_⟩
  have e1 : ad.add (0 : Int).toNat = ad := by
    unfold Addr.add
    split
    · rfl
    · rename_i h9; exact absurd rfl h9
  rw [e1] at hcell
  rw [hcell]
  have := rd_dg b 0
  rw [Nat.pow_zero, Nat.div_one] at this
  rw [show (0 : Int) = ((0 : Nat) : Int) from rfl, this]

set_option maxRecDepth 100000 in
set_option maxHeartbeats 4000000 in
theorem divMod_digit {w : World} {v u : Value} {a b : Nat} (hb : 0 < b) (hb2 : b < 65536) (ha : dlen a ≤ 900) (h1 : Ds w v a) (h2 : Ds w u b) :
    Calls Tryz.prog 42 #[v, u] w fun e w' => ∃ r r', e = .returned (.tuple #[r, r']) ∧ Ds w' r (a / b) ∧ Ds w' r' (a % b) ∧ Below w.heap.size w w' := by
  have hd : dlen b = 1 := dlen_eq b 0 (by rw [Nat.zero_add, Nat.pow_one]; exact hb2) (by rw [Nat.pow_zero]; exact hb)
  obtain ⟨ad, c, rfl, hc, hcell⟩ := h2.first hb
  rw [Nat.mod_eq_of_lt hb2] at hcell
  rw [hd] at *
  obtain ⟨A, c', rfl⟩ := h1.form
  have hby := fun w' (hb' : Below w.heap.size w w') => byDigit_c (w := w') hb hb2 ha (h1.below hb')
  have hsm := fun w' => small_c (a % b) (by have := Nat.mod_lt a hb; omega) w'
  obtain ⟨B, hB⟩ : ∃ B : Int, (b : Int) = B := ⟨_, rfl⟩
  have HBY : Hid (∀ w', Below w.heap.size w w' → Calls Tryz.prog 109 #[.slice A (dlen a) c', .int .i64 (b : Int)] w' fun e w'' => ∃ r, e = .returned (.tuple #[r, .int .i64 ((a % b : Nat) : Int)]) ∧ Ds w'' r (a / b) ∧ Below w'.heap.size w' w'') := hby
  have HSM : Hid (∀ w', Calls Tryz.prog 20 #[.int .i64 ((a % b : Nat) : Int)] w' fun e w'' => ∃ r, e = .returned r ∧ Ds w'' r (a % b) ∧ Below w'.heap.size w' w'') := hsm
  rw [hB] at hcell HBY
  obtain ⟨R, hR⟩ : ∃ R : Int, ((a % b : Nat) : Int) = R := ⟨_, rfl⟩
  rw [hR] at HBY HSM
  clear hR
  obtain ⟨n, hn⟩ : ∃ n, dlen a = n := ⟨_, rfl⟩
  rw [hn] at HBY ⊢
  clear hn
  clear h1 h2 hby hsm hB hd ha hb2
  go_enter Tryz.func42, Tryz.ntmps42
  go_wp2_with fail
  refine (HBY.out w (Below.refl _ _)).mono ?_
  rintro e w1 ⟨r, rfl, hr, hb1⟩
  have HR : Hid (Ds w1 r (a / b) ∧ Below w.heap.size w w1) := ⟨hr, hb1⟩
  clear hr hb1
  go_wp2_with fail
  refine (HSM.out w1).mono ?_
  rintro e w2 ⟨r', rfl, hr', hb2⟩
  have HR2 : Hid (Ds w2 r' (a % b) ∧ Below w1.heap.size w1 w2) := ⟨hr', hb2⟩
  clear hr' hb2
  go_wp2_with fail
  go_ret2
  exact ⟨r, r', rfl, HR.out.1.below HR2.out.2, HR2.out.1, HR.out.2.trans (HR2.out.2.mono HR.out.2.size)⟩

set_option maxRecDepth 100000 in
set_option maxHeartbeats 4000000 in
/-- Gcd with 1. -/
theorem gcd1 {w : World} {v u : Value} {a : Nat} (ha : dlen a ≤ 900) (h1 : Ds w v a) (h2 : Ds w u 1) : Calls Tryz.prog 108 #[v, u] w fun e w' => ∃ r, e = .returned r ∧ Ds w' r 1 ∧ Below w.heap.size w w' := by
  obtain ⟨A, c, rfl⟩ := h1.form
  obtain ⟨A', c', rfl⟩ := h2.form
  have HD : Hid (∀ w', Below w.heap.size w w' → Calls Tryz.prog 42 #[.slice A (dlen a) c, .slice A' (dlen 1) c'] w' fun e w'' => ∃ r r', e = .returned (.tuple #[r, r']) ∧ Ds w'' r (a / 1) ∧ Ds w'' r' (a % 1) ∧ Below w'.heap.size w' w'') :=
    fun w' hb => divMod_digit (by decide) (by decide) ha (h1.below hb) (h2.below hb)
  have H2 : Hid (Ds w (.slice A' (dlen 1) c') 1) := h2
  rw [dlen_one] at HD H2 ⊢
  obtain ⟨n, hn⟩ : ∃ n, dlen a = n := ⟨_, rfl⟩
  rw [hn] at HD ⊢
  clear h1 h2 hn ha
  go_enter Tryz.func108, Tryz.ntmps108
  go_wp2
  go_loopg [0, 1] 2 (fun gk s0 s1 wx => (gk = 2 ∧ s0 = .slice A n c ∧ s1 = .slice A' 1 c' ∧ wx = w) ∨ (gk = 1 ∧ s0 = .slice A' 1 c' ∧ (∃ B d, s1 = .slice B 0 d) ∧ Hid (Below w.heap.size w wx)))
  case atStart => exact .inl ⟨rfl, rfl, rfl, rfl⟩
  case round =>
    rcases hrel with ⟨rfl, rfl, rfl, rfl⟩ | ⟨rfl, rfl, ⟨B, d, rfl⟩, hb⟩
    · go_wp2_with fail
      refine (HD.out _ (Below.refl _ _)).mono ?_
      rintro e w1 ⟨r, r', rfl, hr, hr', hb1⟩
      have HB1 : Hid (Below wr.heap.size wr w1) := hb1
      rw [Nat.mod_one] at hr'
      obtain ⟨B, d, rfl⟩ := hr'.form
      rw [dlen_zero]
      clear hr hr' hb1
      go_wp2_with fail
      go_roundg 1
      case measure => omega
      case rel => exact .inr ⟨rfl, rfl, ⟨_, _, rfl⟩, HB1⟩
    · go_wp2_with fail
      go_ret
      exact ⟨_, rfl, H2.out.below hb.out, hb.out⟩
end Sp
end Go.Proofs.YtdpnoaaeplgdjaaGreatDoor
/-
  THE WALK OF package spec's Over, of integers over 1.
-/
namespace Go.Proofs.YtdpnoaaeplgdjaaGreatDoor
open Go.RowKit Go.Proofs.YtdpnoaaeplgdjaaGreatDoorW.PrintWords Go.Proofs.YtdpnoaaeplgdjaaGreatDoorW.PrintMore
namespace Sp
open Rg Dg

set_option maxRecDepth 100000 in
set_option maxHeartbeats 8000000 in
theorem over1 {w : World} {v u : Value} {a : Nat} (ha : dlen a ≤ 900) (h1 : Ds w v a) (h2 : Ds w u 1) (p : Bool) : Calls Tryz.prog 38 #[.bool p, v, u] w fun e w' => ∃ r, e = .returned r ∧ Ra w' r (p && decide (0 < a)) a ∧ Below w.heap.size w w' := by
  obtain ⟨A, c, rfl⟩ := h1.form
  obtain ⟨A', c', rfl⟩ := h2.form
  obtain ⟨w1, hw1⟩ : ∃ w1, w.alloc (.cells r0 30) = w1 := ⟨_, rfl⟩
  have HW : Hid (w.alloc (.cells r0 30) = w1) := hw1
  have hB1 : Blk w1 w.heap.size 30 r0 := by rw [← hw1]; exact Blk.new w 30 _
  have hb1 : Below w.heap.size w w1 := by rw [← hw1]; exact (Below.refl _ _).alloc (Nat.le_refl _) _
  have HG : Hid (Calls Tryz.prog 108 #[.slice A (dlen a) c, .slice A' (dlen 1) c'] w1 fun e w' => ∃ r, e = .returned r ∧ Ds w' r 1 ∧ Below w1.heap.size w1 w') := gcd1 ha (h1.below hb1) (h2.below hb1)
  have HD1 : Hid (∀ w2 r, Below w1.heap.size w1 w2 → Ds w2 r 1 → Calls Tryz.prog 42 #[.slice A (dlen a) c, r] w2 fun e w' => ∃ r r', e = .returned (.tuple #[r, r']) ∧ Ds w' r (a / 1) ∧ Ds w' r' (a % 1) ∧ Below w2.heap.size w2 w') :=
    fun w2 r hb hr => divMod_digit (by decide) (by decide) ha ((h1.below hb1).below hb) hr
  have HD2 : Hid (∀ w2 r, Below w1.heap.size w1 w2 → Ds w2 r 1 → Calls Tryz.prog 42 #[.slice A' (dlen 1) c', r] w2 fun e w' => ∃ r r', e = .returned (.tuple #[r, r']) ∧ Ds w' r (1 / 1) ∧ Ds w' r' (1 % 1) ∧ Below w2.heap.size w2 w') :=
    fun w2 r hb hr => divMod_digit (by decide) (by decide) (by decide) ((h2.below hb1).below hb) hr
  have hlen : decide (0 < dlen a) = decide (0 < a) := by
    rcases Nat.eq_zero_or_pos a with h0 | h0
    · subst h0; rfl
    · have := dlen_pos a h0
      rw [decide_eq_true h0, decide_eq_true this]
  obtain ⟨n, hn⟩ : ∃ n, dlen a = n := ⟨_, rfl⟩
  obtain ⟨n', hn'⟩ : ∃ n', dlen 1 = n' := ⟨_, rfl⟩
  obtain ⟨q, hq⟩ : ∃ q, decide (0 < a) = q := ⟨_, rfl⟩
  rw [hn, hn'] at HG
  rw [hn] at HD1 hlen
  rw [hn'] at HD2
  rw [hq] at hlen
  rw [hn, hn', hq]
  have HB : Hid (Blk w1 w.heap.size 30 r0) := hB1
  have HH : Hid (Below w.heap.size w w1) := hb1
  clear hw1 hB1 hb1 h1 h2 hn hn' hq ha
  cases p
  all_goals
    go_enter Tryz.func38, Tryz.ntmps38
    go_wp2_with fail
    rw [HW.out]
    refine HG.out.mono ?_
    rintro e w2 ⟨r, rfl, hr, hb2⟩
    go_wp2_with fail
    refine (HD1.out w2 r hb2 hr).mono ?_
    rintro e w3 ⟨x, x', rfl, hx, _, hb3⟩
    rw [Nat.div_one] at hx
    go_wp2_with fail
    refine (HD2.out w3 r (hb2.trans (hb3.mono hb2.size)) (hr.below hb3)).mono ?_
    rintro e w4 ⟨y, y', rfl, hy, _, hb4⟩
    have hx4 := hx.below hb4
    have hb14 : Below w1.heap.size w1 w4 := (hb2.trans (hb3.mono hb2.size)).trans (hb4.mono (Nat.le_trans hb2.size hb3.size))
    have hB4 : Blk w4 w.heap.size 30 r0 := Blk.below' HB.out hb14
    have hS : Slot w4 w.heap.size 30 3 := hB4.slot
    have hbw : Below w.heap.size w w4 := HH.out.trans (hb14.mono HH.out.size)
    obtain ⟨X, cx, rfl⟩ := hx4.form
    obtain ⟨Y, cy, rfl⟩ := hy.form
    obtain ⟨nx, hnx⟩ : ∃ nx, dlen a = nx := ⟨_, rfl⟩
    obtain ⟨ny, hny⟩ : ∃ ny, dlen (1 / 1) = ny := ⟨_, rfl⟩
    rw [hnx] at hx4 ⊢
    rw [hny] at hy ⊢
    have HX : Hid (Ds w4 (.slice X nx cx) a ∧ Ds w4 (.slice Y ny cy) 1 ∧ Blk w4 w.heap.size 30 r0 ∧ Below w.heap.size w w4) := ⟨hx4, hy, hB4, hbw⟩
    clear hr hb2 hx hb3 hy hb4 hx4 hb14 hB4 hbw hnx hny
    go_wp2_with fail
  · exact ret30 (cs := #[.bool false, .slice X nx cx, .slice Y ny cy]) rfl rfl rfl (HX.out.2.2.1.setRow_same _) rfl ⟨_, rfl, ⟨_, _, rfl, HX.out.1.setRow HX.out.2.2.1 _, HX.out.2.1.setRow HX.out.2.2.1 _⟩, below_row HX.out.2.2.2 (Nat.le_refl _) _⟩
  · exact ret30 (cs := #[.bool q, .slice X nx cx, .slice Y ny cy]) rfl rfl rfl (HX.out.2.2.1.setRow_same _) rfl ⟨_, rfl, ⟨_, _, rfl, HX.out.1.setRow HX.out.2.2.1 _, HX.out.2.1.setRow HX.out.2.2.1 _⟩, below_row HX.out.2.2.2 (Nat.le_refl _) _⟩
end Sp
end Go.Proofs.YtdpnoaaeplgdjaaGreatDoor
