/-
  THE PRINTED FUNCTIONS OF PACKAGE spec AT NUMBERS: their contracts, told by the numbers whose digits they are given.
-/
import Derived.Test.YtdpnoaaeplgdjaaGreatDoorDgAll
import Derived.Test.YtdpnoaaeplgdjaaGreatDoorPrest
import Derived.Test.YtdpnoaaeplgdjaaGreatDoorBaseRg
namespace Go.Proofs.YtdpnoaaeplgdjaaGreatDoor
open Go.RowKit Go.Proofs.YtdpnoaaeplgdjaaGreatDoorW.PrintWords Go.Proofs.YtdpnoaaeplgdjaaGreatDoorW.PrintMore
namespace Sp
open Dg

/-- v is a slice that reads as the digits of a. -/
def Ds (w : World) (v : Value) (a : Nat) : Prop := ∃ A c, v = .slice A (dg a).length c ∧ (dg a).length ≤ c ∧ Kd.C (Kd.int .i64) w A (dg a).length (dg a)
/-- v is a slice that reads as these words. -/
def Us (w : World) (v : Value) (l : List Int) : Prop := ∃ A c, v = .slice A l.length c ∧ l.length ≤ c ∧ Kd.C (Kd.int .u64) w A l.length l

section
variable {w w' : World} {v u : Value} {a b : Nat} {l : List Int}
theorem Ds.below (h : Ds w v a) (hb : Below w.heap.size w w') : Ds w' v a := by
  obtain ⟨A, c, hv, hc, hr⟩ := h
  exact ⟨A, c, hv, hc, Kd.C_below hr hb⟩
theorem Us.below (h : Us w v l) (hb : Below w.heap.size w w') : Us w' v l := by
  obtain ⟨A, c, hv, hc, hr⟩ := h
  exact ⟨A, c, hv, hc, Kd.C_below hr hb⟩
theorem Ds.of_V {e base : Nat} {ok : Nat → Prop} (h : Kd.V (Kd.int .i64) e w base ok v (dg a)) : Ds w v a := by
  obtain ⟨A, c, rfl⟩ := Kd.V_slice h
  obtain ⟨_, h2, h3⟩ := Kd.V_reads' h
  exact ⟨A, c, rfl, h2, h3⟩
theorem Ds.of_R {e base : Nat} {ok : Nat → Prop} (h : Kd.R (Kd.int .i64) e w base ok v (dg a)) : Ds w v a := Ds.of_V (base := base) (Kd.R_V h)
theorem Ds.nil (w : World) : Ds w (.slice none 0 0) 0 := ⟨none, 0, rfl, Nat.le_refl _, Kd.C_nil _ w⟩
theorem Us.nil (w : World) : Us w (.slice none 0 0) [] := ⟨none, 0, rfl, Nat.le_refl _, Kd.C_nil _ w⟩
theorem Ds.form (h : Ds w v a) : ∃ A c, v = .slice A (dlen a) c := by
  obtain ⟨A, c, hv, _⟩ := h
  exact ⟨A, c, by rw [hv, dg_len]⟩
theorem below_drawn (h : Drawn0 w w') : Below w.heap.size w w' := by
  obtain ⟨m, rfl⟩ := h
  exact pw_below_drewN (Below.refl _ _) m

theorem add_c (ha : dlen a ≤ 900) (hb : dlen b ≤ 900) (h1 : Ds w v a) (h2 : Ds w u b) : Calls Tryz.prog 39 #[v, u] w fun e w' => ∃ r, e = .returned r ∧ Ds w' r (a + b) ∧ Below w.heap.size w w' := by
  obtain ⟨A, c, rfl, hc, hr⟩ := h1
  obtain ⟨A', c', rfl, hc', hr'⟩ := h2
  refine (PAdd.spec_Add.calls 5000 A c _ A' c' _ _ w hr hc hr' hc' (add_is a b (by omega) (by omega) 5000 (by omega))).mono ?_
  rintro e w' ⟨r, rfl, hv, hb⟩
  exact ⟨r, rfl, Ds.of_V hv, hb⟩
theorem sub_c (hab : b ≤ a) (ha : dlen a ≤ 900) (h1 : Ds w v a) (h2 : Ds w u b) : Calls Tryz.prog 41 #[v, u] w fun e w' => ∃ r, e = .returned r ∧ Ds w' r (a - b) ∧ Below w.heap.size w w' := by
  obtain ⟨A, c, rfl, hc, hr⟩ := h1
  obtain ⟨A', c', rfl, hc', hr'⟩ := h2
  refine (PSub.spec_Sub.calls 5000 A c _ A' c' _ _ w hr hc hr' hc' (sub_is a b hab (by omega) 5000 (by omega))).mono ?_
  rintro e w' ⟨r, rfl, hv, hb⟩
  exact ⟨r, rfl, Ds.of_V hv, hb⟩
theorem mul1_c (ha : dlen a ≤ 900) (h1 : Ds w v a) (h2 : Ds w u 1) : Calls Tryz.prog 37 #[v, u] w fun e w' => ∃ r, e = .returned r ∧ Ds w' r a ∧ Below w.heap.size w w' := by
  obtain ⟨A, c, rfl, hc, hr⟩ := h1
  obtain ⟨A', c', rfl, hc', hr'⟩ := h2
  refine (PMul.spec_Mul.calls 6000 A c _ A' c' _ _ w hr hc hr' hc' (by rw [dg_one]; exact mul1_is a (by omega) 6000 (by omega))).mono ?_
  rintro e w' ⟨r, rfl, hv, hb⟩
  exact ⟨r, rfl, Ds.of_V hv, hb⟩
theorem cmp_c (ha : dlen a ≤ 900) (h1 : Ds w v a) (h2 : Ds w u b) : Calls Tryz.prog 40 #[v, u] w fun e w' => e = .returned (.int .i64 (cmpN a b)) ∧ Below w.heap.size w w' := by
  obtain ⟨A, c, rfl, hc, hr⟩ := h1
  obtain ⟨A', c', rfl, hc', hr'⟩ := h2
  refine (Psame.spec_Cmp.calls 5000 A c _ A' c' _ _ w hr hc hr' hc' (cmp_is a b (by omega) 5000 (by omega))).mono ?_
  rintro e w' ⟨rfl, hb⟩
  exact ⟨rfl, below_drawn hb⟩
theorem len_c (ha : dlen a ≤ 900) (h1 : Ds w v a) : Calls Tryz.prog 110 #[v] w fun e w' => e = .returned (.int .i64 ((bl a : Nat) : Int)) ∧ Below w.heap.size w w' := by
  obtain ⟨A, c, rfl, hc, hr⟩ := h1
  refine (PLen.spec_Len.calls 70000 A c _ _ w hr hc (len_is a (by omega) 70000 (by omega))).mono ?_
  rintro e w' ⟨rfl, hb⟩
  exact ⟨rfl, below_drawn hb⟩
theorem small_c (n : Nat) (hn : n < 9223372036854775808) (w : World) : Calls Tryz.prog 20 #[.int .i64 (n : Int)] w fun e w' => ∃ r, e = .returned r ∧ Ds w' r n ∧ Below w.heap.size w w' := by
  refine (Pquoted.spec_Small.calls 10 _ _ w (Pquoted_small n hn 10 (by omega))).mono ?_
  rintro e w' ⟨r, rfl, hv, hb⟩
  exact ⟨r, rfl, Ds.of_R hv, hb⟩
theorem byDigit_c {d : Nat} (hd : 0 < d) (hd2 : d < 65536) (ha : dlen a ≤ 900) (h1 : Ds w v a) : Calls Tryz.prog 109 #[v, .int .i64 (d : Int)] w fun e w' => ∃ r, e = .returned (.tuple #[r, .int .i64 ((a % d : Nat) : Int)]) ∧ Ds w' r (a / d) ∧ Below w.heap.size w w' := by
  obtain ⟨A, c, rfl, hc, hr⟩ := h1
  refine (Pquoted.spec_byDigit.calls 5000 A c _ _ _ _ w hr hc (byDigit_is a d hd hd2 (by omega) 5000 (by omega))).mono ?_
  rintro e w' ⟨r, rfl, hv, hb⟩
  exact ⟨r, rfl, Ds.of_V hv, hb⟩
theorem of_c {ws : List Nat} (hw : ∀ x ∈ ws, x < 18446744073709551616) (hl : ws.length ≤ 900) (h1 : Us w v (zi ws)) : Calls Tryz.prog 8 #[v] w fun e w' => ∃ r, e = .returned r ∧ Ds w' r (wv ws) ∧ Below w.heap.size w w' := by
  obtain ⟨A, c, rfl, hc, hr⟩ := h1
  refine (POf64.spec_Of.calls 20000 A c _ _ w hr hc (of_is ws hw (by omega) 20000 (by omega))).mono ?_
  rintro e w' ⟨r, rfl, hv, hb⟩
  exact ⟨r, rfl, Ds.of_V hv, hb⟩
theorem of64_c (w : World) : Calls Tryz.prog 11 #[.int .i64 1] w fun e w' => ∃ r1 r2, e = .returned (.agg #[.bool false, r1, r2]) ∧ Ds w' r1 1 ∧ Ds w' r2 1 ∧ Below w.heap.size w w' := by
  refine (POf64.spec_Of64.calls 20000 _ _ _ _ w (of64_one 20000 (by omega))).mono ?_
  rintro e w' ⟨r1, r2, rfl, hv, hv2, hb⟩
  exact ⟨r1, r2, rfl, Ds.of_V hv, Ds.of_R hv2, hb⟩
theorem hasWords_c (ha : dlen a ≤ 900) (h1 : Us w u (wds a)) (h2 : Ds w v a) : Calls Tryz.prog 112 #[u, v] w fun e w' => e = .returned (.bool true) ∧ Below w.heap.size w w' := by
  obtain ⟨A, c, rfl, hc, hr⟩ := h1
  obtain ⟨A', c', rfl, hc', hr'⟩ := h2
  exact PHasWords.spec_HasWords.calls 2000 A c _ A' c' _ _ w hr hc hr' hc' (hasWords_is a (by omega) 2000 (by omega))
theorem same_c {p : Bool} {v1 v2 u1 u2 : Value} (ha : dlen a ≤ 900) (h1 : Ds w v1 a) (h2 : Ds w v2 1) (h3 : Ds w u1 a) (h4 : Ds w u2 1) :
    Calls Tryz.prog 26 #[.agg #[.bool p, v1, v2], .agg #[.bool p, u1, u2]] w fun e w' => e = .returned (.bool true) ∧ Below w.heap.size w w' := by
  obtain ⟨A1, c1, rfl, hc1, hr1⟩ := h1
  obtain ⟨A2, c2, rfl, hc2, hr2⟩ := h2
  obtain ⟨A3, c3, rfl, hc3, hr3⟩ := h3
  obtain ⟨A4, c4, rfl, hc4, hr4⟩ := h4
  exact Psame.spec_same.calls 5000 p A1 c1 _ A2 c2 _ p A3 c3 _ A4 c4 _ _ w hr1 hc1 hr2 hc2 hr3 hc3 hr4 hc4 (same_is p a (by omega) 5000 (by omega))
theorem rest_c {s : Bool} {l : List Int} (h1 : Us w v l) :
    Calls Tryz.prog 44 #[.agg #[.int .i64 3, .bool false, .string ⟨#[]⟩, .bool s, v, .slice none 0 0, .bool false, .slice none 0 0, .slice none 0 0]] w fun e w' => e = .returned (.bool true) ∧ Below w.heap.size w w' := by
  obtain ⟨A, c, rfl, hc, hr⟩ := h1
  exact Prest.spec_rest.calls 3 false ⟨#[]⟩ s A c l none 0 [] false none 0 [] none 0 [] true w hr hc (Kd.C_nil _ w) (Nat.le_refl _) (Kd.C_nil _ w) (Nat.le_refl _) (Kd.C_nil _ w) (Nat.le_refl _) (by unfold Prest.spec_rest.f; rw [if_neg (by simp), if_pos (by rw [ByteArray.toList, ByteArray.toList.loop]; rfl), if_neg (by simp), if_pos (show (([] : List Int).length : Int) = 0 from rfl)]; rfl)
end
end Sp
end Go.Proofs.YtdpnoaaeplgdjaaGreatDoor
