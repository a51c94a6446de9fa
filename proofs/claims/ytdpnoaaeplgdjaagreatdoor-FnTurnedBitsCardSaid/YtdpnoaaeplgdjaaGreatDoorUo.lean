/-
  THE WALK OF constant.UnaryOp at ^ of an integer.
-/
import Derived.Test.YtdpnoaaeplgdjaaGreatDoorMi
import Derived.Test.YtdpnoaaeplgdjaaGreatDoorIb
namespace Go.Proofs.YtdpnoaaeplgdjaaGreatDoor
open Go.RowKit
namespace Wa
open Rg

set_option maxRecDepth 100000 in
theorem newInt_c (w : World) : Calls Tryz.prog 51 #[] w fun e w' => ∃ g, e = .returned (.pointer (some ⟨g, 0, none⟩)) ∧ Bi w' g false (.slice none 0 0) ∧ Below w.heap.size w w' ∧ w.heap.size ≤ g := by
  go_enter Tryz.func51, Tryz.ntmps51
  go_wp2
  go_ret
  exact ⟨_, rfl, Blk.new w 161 _, (Below.refl _ _).alloc (Nat.le_refl _) _, Nat.le_refl _⟩
theorem nw_pow (p : Nat) (hp : p ≤ 300) : nw (2 ^ p) ≤ 900 := by
  have h : ∀ n, 5 ≤ n → nw (2 ^ p) ≤ n := fun n hn => by
    refine (nw_le_iff _ n).2 ?_
    rw [p2]
    exact Nat.pow_lt_pow_right (by decide) (by omega)
  exact h 900 (by decide)
/-- What is left of the world behind the first three calls, seen from the call's beginning. -/
theorem below3 {w w2 w3 : World} {g : Nat} (h : Below w.heap.size w w2) (hg : w.heap.size ≤ g) (k : w2.grownBy w3 (some g)) : Below w.heap.size w w3 :=
  h.grown k h.size (fun k hk => by injection hk with hk; omega)

set_option maxRecDepth 100000 in
set_option maxHeartbeats 8000000 in
theorem un_zero_pos_all {w : World} :
    Calls Tryz.prog 29 #[.int .i64 19, .iface 86 (.int .i64 0), .int .u64 0] w fun e w' => ∃ x, e = .returned x ∧ Cv w' x true (0 + 1) ∧ Below w.heap.size w w' := by
  have hl : nw (0 + 1) ≤ 900 := by decide
  have hlm : nw 0 ≤ 900 := Nat.le_trans (nw_mono (Nat.le_succ 0)) hl
  go_enter Tryz.func29, Tryz.ntmps29
  go_wp2_with fail
  go_step3
  go_wp2_with fail
  refine (newInt_c w).mono ?_
  rintro e w1 ⟨gz, rfl, hz1, hb1, hgz⟩
  go_wp2_with fail
  refine (new_zero w1).mono ?_
  rintro e w2 ⟨gx, vx, rfl, hx, hX, hbx, hgx, hnx⟩
  have hz2 : Bi w2 gz false (.slice none 0 0) := Blk.below' hz1 hbx
  have hb2 : Below w.heap.size w w2 := hb1.trans (hbx.mono hb1.size)
  go_wp2_with fail
  refine (not_pos hz2 hx hX hlm).mono ?_
  rintro e w3 ⟨rfl, v3, hz3, hv3, hg3, hn3⟩
  have hb3 := below3 hb2 hgz hg3
  go_wp2_with fail
  refine (makeInt_c hz3 hv3 (by simp)).mono ?_
  rintro e w8 ⟨x, rfl, hcv, hb8⟩
  have HCV : Hid (Cv w8 x true (0 + 1)) := hcv
  have HB8 : Hid (Below w.heap.size w w8) := hb3.trans (hb8.mono hb3.size)
  clear hcv hb8
  go_wp2_with fail
  rw [Exit.noGoto_ret]
  go_ret
  exact ⟨x, rfl, HCV.out, HB8.out⟩

set_option maxRecDepth 100000 in
set_option maxHeartbeats 8000000 in
theorem un_zero_pos_some {w : World} {p : Nat} (hp0 : 0 < p) (hp : p ≤ 300) :
    Calls Tryz.prog 29 #[.int .i64 19, .iface 86 (.int .i64 0), .int .u64 (p : Int)] w fun e w' => ∃ x, e = .returned x ∧ Cv w' x false (2 ^ p - 1 - (0 + 1 - 1) % 2 ^ p) ∧ Below w.heap.size w w' := by
  have q0 : (0 : Int) < (p : Int) := by omega
  have hl : nw (0 + 1) ≤ 900 := by decide
  have hlm : nw 0 ≤ 900 := Nat.le_trans (nw_mono (Nat.le_succ 0)) hl
  go_enter Tryz.func29, Tryz.ntmps29
  go_wp2_with fail
  go_step3
  go_wp2_with fail
  refine (newInt_c w).mono ?_
  rintro e w1 ⟨gz, rfl, hz1, hb1, hgz⟩
  go_wp2_with fail
  refine (new_zero w1).mono ?_
  rintro e w2 ⟨gx, vx, rfl, hx, hX, hbx, hgx, hnx⟩
  have hz2 : Bi w2 gz false (.slice none 0 0) := Blk.below' hz1 hbx
  have hb2 : Below w.heap.size w w2 := hb1.trans (hbx.mono hb1.size)
  go_wp2_with fail
  refine (not_pos hz2 hx hX hlm).mono ?_
  rintro e w3 ⟨rfl, v3, hz3, hv3, hg3, hn3⟩
  have hb3 := below3 hb2 hgz hg3
  go_wp2_with fail
  refine (newInt_c w3).mono ?_
  rintro e w4 ⟨gl, rfl, hl4, hb4, hgl⟩
  go_wp2_with fail
  refine (new_neg 1 (by decide) (by decide) w4).mono ?_
  rintro e w5 ⟨g1, v1, rfl, h15, hv15, hb5, hg1, hn1⟩
  have hl5 : Bi w5 gl false (.slice none 0 0) := Blk.below' hl4 hb5
  go_wp2_with fail
  refine (intLsh_c hl5 h15 hv15 hp0 hp).mono ?_
  rintro e w6 ⟨rfl, vy, hy6, hvy6, hg6⟩
  have hz5 : Bi w5 gz true v3 := Blk.below' (Blk.below' hz3 hb4) hb5
  have hv5 : Nt w5 v3 (0 + 1) := (hv3.below hb4).below hb5
  have hzl : gz ≠ gl := by have := hz3.lt; omega
  have hz6 : Bi w6 gz true v3 := Blk.grown hz5 hg6 (fun e => hzl (Option.some.inj e))
  have hv6 : Nt w6 v3 (0 + 1) := Sl.kept hv5 hg6 (.inr (fun e => by have := (World.ownsRow.lt hv3 _ e).2; omega))
  have hb6 : Below w.heap.size w w6 := (((hb3.trans (hb4.mono hb3.size)).trans (hb5.mono (Nat.le_trans hb3.size hb4.size)))).grown hg6 (Nat.le_trans hb3.size (Nat.le_trans hb4.size hb5.size)) (fun k hk => by have := hb3.size; injection hk with hk; omega)
  go_wp2_with fail
  refine (andNot_neg (B := w.heap.size) hz6 hv6 hy6 hvy6 hp0 (by omega) hl (nw_pow p hp) hgz (fun b hb => Nat.le_trans hb2.size (hn3 b hb)) hb6.size).mono ?_
  rintro e w7 ⟨rfl, v7, hz7, hv7, hb7⟩
  go_wp2_with fail
  refine (makeInt_c hz7 hv7 (by simp)).mono ?_
  rintro e w8 ⟨x, rfl, hcv, hb8⟩
  have HCV : Hid (Cv w8 x false (2 ^ p - 1 - (0 + 1 - 1) % 2 ^ p)) := hcv
  have HB8 : Hid (Below w.heap.size w w8) := (hb6.trans hb7).trans (hb8.mono (Nat.le_trans hb6.size hb7.size))
  clear hcv hb8
  go_wp2_with fail
  rw [Exit.noGoto_ret]
  go_ret
  exact ⟨x, rfl, HCV.out, HB8.out⟩

set_option maxRecDepth 100000 in
set_option maxHeartbeats 8000000 in
theorem un_word_pos_all {w : World} {m : Nat} (hm : 0 < m) (hs : m < 9223372036854775808) (hl : nw (m + 1) ≤ 900) :
    Calls Tryz.prog 29 #[.int .i64 19, .iface 86 (.int .i64 (m : Int)), .int .u64 0] w fun e w' => ∃ x, e = .returned x ∧ Cv w' x true (m + 1) ∧ Below w.heap.size w w' := by
  have hlm : nw m ≤ 900 := Nat.le_trans (nw_mono (Nat.le_succ m)) hl
  go_enter Tryz.func29, Tryz.ntmps29
  go_wp2_with fail
  go_step3
  go_wp2_with fail
  refine (newInt_c w).mono ?_
  rintro e w1 ⟨gz, rfl, hz1, hb1, hgz⟩
  go_wp2_with fail
  refine (new_pos m hm hs w1).mono ?_
  rintro e w2 ⟨gx, vx, rfl, hx, hX, hbx, hgx, hnx⟩
  have hz2 : Bi w2 gz false (.slice none 0 0) := Blk.below' hz1 hbx
  have hb2 : Below w.heap.size w w2 := hb1.trans (hbx.mono hb1.size)
  go_wp2_with fail
  refine (not_pos hz2 hx hX hlm).mono ?_
  rintro e w3 ⟨rfl, v3, hz3, hv3, hg3, hn3⟩
  have hb3 := below3 hb2 hgz hg3
  go_wp2_with fail
  refine (makeInt_c hz3 hv3 (by simp)).mono ?_
  rintro e w8 ⟨x, rfl, hcv, hb8⟩
  have HCV : Hid (Cv w8 x true (m + 1)) := hcv
  have HB8 : Hid (Below w.heap.size w w8) := hb3.trans (hb8.mono hb3.size)
  clear hcv hb8
  go_wp2_with fail
  rw [Exit.noGoto_ret]
  go_ret
  exact ⟨x, rfl, HCV.out, HB8.out⟩

set_option maxRecDepth 100000 in
set_option maxHeartbeats 8000000 in
theorem un_word_pos_some {w : World} {m p : Nat} (hm : 0 < m) (hs : m < 9223372036854775808) (hl : nw (m + 1) ≤ 900) (hp0 : 0 < p) (hp : p ≤ 300) :
    Calls Tryz.prog 29 #[.int .i64 19, .iface 86 (.int .i64 (m : Int)), .int .u64 (p : Int)] w fun e w' => ∃ x, e = .returned x ∧ Cv w' x false (2 ^ p - 1 - (m + 1 - 1) % 2 ^ p) ∧ Below w.heap.size w w' := by
  have q0 : (0 : Int) < (p : Int) := by omega
  have hlm : nw m ≤ 900 := Nat.le_trans (nw_mono (Nat.le_succ m)) hl
  go_enter Tryz.func29, Tryz.ntmps29
  go_wp2_with fail
  go_step3
  go_wp2_with fail
  refine (newInt_c w).mono ?_
  rintro e w1 ⟨gz, rfl, hz1, hb1, hgz⟩
  go_wp2_with fail
  refine (new_pos m hm hs w1).mono ?_
  rintro e w2 ⟨gx, vx, rfl, hx, hX, hbx, hgx, hnx⟩
  have hz2 : Bi w2 gz false (.slice none 0 0) := Blk.below' hz1 hbx
  have hb2 : Below w.heap.size w w2 := hb1.trans (hbx.mono hb1.size)
  go_wp2_with fail
  refine (not_pos hz2 hx hX hlm).mono ?_
  rintro e w3 ⟨rfl, v3, hz3, hv3, hg3, hn3⟩
  have hb3 := below3 hb2 hgz hg3
  go_wp2_with fail
  refine (newInt_c w3).mono ?_
  rintro e w4 ⟨gl, rfl, hl4, hb4, hgl⟩
  go_wp2_with fail
  refine (new_neg 1 (by decide) (by decide) w4).mono ?_
  rintro e w5 ⟨g1, v1, rfl, h15, hv15, hb5, hg1, hn1⟩
  have hl5 : Bi w5 gl false (.slice none 0 0) := Blk.below' hl4 hb5
  go_wp2_with fail
  refine (intLsh_c hl5 h15 hv15 hp0 hp).mono ?_
  rintro e w6 ⟨rfl, vy, hy6, hvy6, hg6⟩
  have hz5 : Bi w5 gz true v3 := Blk.below' (Blk.below' hz3 hb4) hb5
  have hv5 : Nt w5 v3 (m + 1) := (hv3.below hb4).below hb5
  have hzl : gz ≠ gl := by have := hz3.lt; omega
  have hz6 : Bi w6 gz true v3 := Blk.grown hz5 hg6 (fun e => hzl (Option.some.inj e))
  have hv6 : Nt w6 v3 (m + 1) := Sl.kept hv5 hg6 (.inr (fun e => by have := (World.ownsRow.lt hv3 _ e).2; omega))
  have hb6 : Below w.heap.size w w6 := (((hb3.trans (hb4.mono hb3.size)).trans (hb5.mono (Nat.le_trans hb3.size hb4.size)))).grown hg6 (Nat.le_trans hb3.size (Nat.le_trans hb4.size hb5.size)) (fun k hk => by have := hb3.size; injection hk with hk; omega)
  go_wp2_with fail
  refine (andNot_neg (B := w.heap.size) hz6 hv6 hy6 hvy6 hp0 (by omega) hl (nw_pow p hp) hgz (fun b hb => Nat.le_trans hb2.size (hn3 b hb)) hb6.size).mono ?_
  rintro e w7 ⟨rfl, v7, hz7, hv7, hb7⟩
  go_wp2_with fail
  refine (makeInt_c hz7 hv7 (by simp)).mono ?_
  rintro e w8 ⟨x, rfl, hcv, hb8⟩
  have HCV : Hid (Cv w8 x false (2 ^ p - 1 - (m + 1 - 1) % 2 ^ p)) := hcv
  have HB8 : Hid (Below w.heap.size w w8) := (hb6.trans hb7).trans (hb8.mono (Nat.le_trans hb6.size hb7.size))
  clear hcv hb8
  go_wp2_with fail
  rw [Exit.noGoto_ret]
  go_ret
  exact ⟨x, rfl, HCV.out, HB8.out⟩

set_option maxRecDepth 100000 in
set_option maxHeartbeats 8000000 in
theorem un_word_neg_all {w : World} {m : Nat} (hm : 0 < m) (hs : m ≤ 9223372036854775808) (hl : nw (m + 1) ≤ 900) :
    Calls Tryz.prog 29 #[.int .i64 19, .iface 86 (.int .i64 (-(m : Int))), .int .u64 0] w fun e w' => ∃ x, e = .returned x ∧ Cv w' x false (m - 1) ∧ Below w.heap.size w w' := by
  have hlm : nw m ≤ 900 := Nat.le_trans (nw_mono (Nat.le_succ m)) hl
  go_enter Tryz.func29, Tryz.ntmps29
  go_wp2_with fail
  go_step3
  go_wp2_with fail
  refine (newInt_c w).mono ?_
  rintro e w1 ⟨gz, rfl, hz1, hb1, hgz⟩
  go_wp2_with fail
  refine (new_neg m hm hs w1).mono ?_
  rintro e w2 ⟨gx, vx, rfl, hx, hX, hbx, hgx, hnx⟩
  have hz2 : Bi w2 gz false (.slice none 0 0) := Blk.below' hz1 hbx
  have hb2 : Below w.heap.size w w2 := hb1.trans (hbx.mono hb1.size)
  go_wp2_with fail
  refine (not_neg hz2 hx hX hm hlm).mono ?_
  rintro e w3 ⟨rfl, v3, hz3, hv3, hg3, hn3⟩
  have hb3 := below3 hb2 hgz hg3
  go_wp2_with fail
  refine (makeInt_c hz3 hv3 (by simp)).mono ?_
  rintro e w8 ⟨x, rfl, hcv, hb8⟩
  have HCV : Hid (Cv w8 x false (m - 1)) := hcv
  have HB8 : Hid (Below w.heap.size w w8) := hb3.trans (hb8.mono hb3.size)
  clear hcv hb8
  go_wp2_with fail
  rw [Exit.noGoto_ret]
  go_ret
  exact ⟨x, rfl, HCV.out, HB8.out⟩

set_option maxRecDepth 100000 in
set_option maxHeartbeats 8000000 in
theorem un_word_neg_some {w : World} {m p : Nat} (hm : 0 < m) (hs : m ≤ 9223372036854775808) (hl : nw (m + 1) ≤ 900) (hp0 : 0 < p) (hp : p ≤ 300) :
    Calls Tryz.prog 29 #[.int .i64 19, .iface 86 (.int .i64 (-(m : Int))), .int .u64 (p : Int)] w fun e w' => ∃ x, e = .returned x ∧ Cv w' x false ((m - 1) % 2 ^ p) ∧ Below w.heap.size w w' := by
  have q0 : (0 : Int) < (p : Int) := by omega
  have hlm : nw m ≤ 900 := Nat.le_trans (nw_mono (Nat.le_succ m)) hl
  go_enter Tryz.func29, Tryz.ntmps29
  go_wp2_with fail
  go_step3
  go_wp2_with fail
  refine (newInt_c w).mono ?_
  rintro e w1 ⟨gz, rfl, hz1, hb1, hgz⟩
  go_wp2_with fail
  refine (new_neg m hm hs w1).mono ?_
  rintro e w2 ⟨gx, vx, rfl, hx, hX, hbx, hgx, hnx⟩
  have hz2 : Bi w2 gz false (.slice none 0 0) := Blk.below' hz1 hbx
  have hb2 : Below w.heap.size w w2 := hb1.trans (hbx.mono hb1.size)
  go_wp2_with fail
  refine (not_neg hz2 hx hX hm hlm).mono ?_
  rintro e w3 ⟨rfl, v3, hz3, hv3, hg3, hn3⟩
  have hb3 := below3 hb2 hgz hg3
  go_wp2_with fail
  refine (newInt_c w3).mono ?_
  rintro e w4 ⟨gl, rfl, hl4, hb4, hgl⟩
  go_wp2_with fail
  refine (new_neg 1 (by decide) (by decide) w4).mono ?_
  rintro e w5 ⟨g1, v1, rfl, h15, hv15, hb5, hg1, hn1⟩
  have hl5 : Bi w5 gl false (.slice none 0 0) := Blk.below' hl4 hb5
  go_wp2_with fail
  refine (intLsh_c hl5 h15 hv15 hp0 hp).mono ?_
  rintro e w6 ⟨rfl, vy, hy6, hvy6, hg6⟩
  have hz5 : Bi w5 gz false v3 := Blk.below' (Blk.below' hz3 hb4) hb5
  have hv5 : Nt w5 v3 (m - 1) := (hv3.below hb4).below hb5
  have hzl : gz ≠ gl := by have := hz3.lt; omega
  have hz6 : Bi w6 gz false v3 := Blk.grown hz5 hg6 (fun e => hzl (Option.some.inj e))
  have hv6 : Nt w6 v3 (m - 1) := Sl.kept hv5 hg6 (.inr (fun e => by have := (World.ownsRow.lt hv3 _ e).2; omega))
  have hb6 : Below w.heap.size w w6 := (((hb3.trans (hb4.mono hb3.size)).trans (hb5.mono (Nat.le_trans hb3.size hb4.size)))).grown hg6 (Nat.le_trans hb3.size (Nat.le_trans hb4.size hb5.size)) (fun k hk => by have := hb3.size; injection hk with hk; omega)
  go_wp2_with fail
  refine (andNot_pos (B := w.heap.size) hz6 hv6 hy6 hvy6 hp0 (Nat.le_trans (nw_mono (by omega)) hl) (nw_pow p hp) hgz (fun b hb => Nat.le_trans hb2.size (hn3 b hb)) hb6.size).mono ?_
  rintro e w7 ⟨rfl, v7, hz7, hv7, hb7⟩
  go_wp2_with fail
  refine (makeInt_c hz7 hv7 (by simp)).mono ?_
  rintro e w8 ⟨x, rfl, hcv, hb8⟩
  have HCV : Hid (Cv w8 x false ((m - 1) % 2 ^ p)) := hcv
  have HB8 : Hid (Below w.heap.size w w8) := (hb6.trans hb7).trans (hb8.mono (Nat.le_trans hb6.size hb7.size))
  clear hcv hb8
  go_wp2_with fail
  rw [Exit.noGoto_ret]
  go_ret
  exact ⟨x, rfl, HCV.out, HB8.out⟩

set_option maxRecDepth 100000 in
set_option maxHeartbeats 8000000 in
theorem un_big_pos_all {w : World} {m : Nat} {gx : Nat} {vx : Value} (hx0 : Bi w gx false vx) (hX0 : Nt w vx m) (hl : nw (m + 1) ≤ 900) :
    Calls Tryz.prog 29 #[.int .i64 19, .iface 89 (.agg #[.pointer (some ⟨gx, 0, none⟩)]), .int .u64 0] w fun e w' => ∃ x, e = .returned x ∧ Cv w' x true (m + 1) ∧ Below w.heap.size w w' := by
  have hlm : nw m ≤ 900 := Nat.le_trans (nw_mono (Nat.le_succ m)) hl
  go_enter Tryz.func29, Tryz.ntmps29
  go_wp2_with fail
  go_step3
  go_wp2_with fail
  refine (newInt_c w).mono ?_
  rintro e w1 ⟨gz, rfl, hz1, hb1, hgz⟩
  have hx1 : Bi w1 gx false vx := Blk.below' hx0 hb1
  have hX1 : Nt w1 vx m := hX0.below hb1
  go_wp2_with fail
  obtain ⟨w2, hw2⟩ : ∃ w2, w1.alloc (.cells #[.pointer (some ⟨gx, 0, none⟩)] 89) = w2 := ⟨_, rfl⟩
  have hx : Bi w2 gx false vx := by rw [← hw2]; exact Blk.alloc hx1 _
  have hX : Nt w2 vx m := by rw [← hw2]; exact Sl.alloc hX1 _
  have hz2 : Bi w2 gz false (.slice none 0 0) := by rw [← hw2]; exact Blk.alloc hz1 _
  have hb2 : Below w.heap.size w w2 := by rw [← hw2]; exact hb1.alloc hb1.size _
  rw [hw2]
  refine (not_pos hz2 hx hX hlm).mono ?_
  rintro e w3 ⟨rfl, v3, hz3, hv3, hg3, hn3⟩
  have hb3 := below3 hb2 hgz hg3
  go_wp2_with fail
  refine (makeInt_c hz3 hv3 (by simp)).mono ?_
  rintro e w8 ⟨x, rfl, hcv, hb8⟩
  have HCV : Hid (Cv w8 x true (m + 1)) := hcv
  have HB8 : Hid (Below w.heap.size w w8) := hb3.trans (hb8.mono hb3.size)
  clear hcv hb8
  go_wp2_with fail
  rw [Exit.noGoto_ret]
  go_ret
  exact ⟨x, rfl, HCV.out, HB8.out⟩

set_option maxRecDepth 100000 in
set_option maxHeartbeats 8000000 in
theorem un_big_pos_some {w : World} {m p : Nat} {gx : Nat} {vx : Value} (hx0 : Bi w gx false vx) (hX0 : Nt w vx m) (hl : nw (m + 1) ≤ 900) (hp0 : 0 < p) (hp : p ≤ 300) :
    Calls Tryz.prog 29 #[.int .i64 19, .iface 89 (.agg #[.pointer (some ⟨gx, 0, none⟩)]), .int .u64 (p : Int)] w fun e w' => ∃ x, e = .returned x ∧ Cv w' x false (2 ^ p - 1 - (m + 1 - 1) % 2 ^ p) ∧ Below w.heap.size w w' := by
  have q0 : (0 : Int) < (p : Int) := by omega
  have hlm : nw m ≤ 900 := Nat.le_trans (nw_mono (Nat.le_succ m)) hl
  go_enter Tryz.func29, Tryz.ntmps29
  go_wp2_with fail
  go_step3
  go_wp2_with fail
  refine (newInt_c w).mono ?_
  rintro e w1 ⟨gz, rfl, hz1, hb1, hgz⟩
  have hx1 : Bi w1 gx false vx := Blk.below' hx0 hb1
  have hX1 : Nt w1 vx m := hX0.below hb1
  go_wp2_with fail
  obtain ⟨w2, hw2⟩ : ∃ w2, w1.alloc (.cells #[.pointer (some ⟨gx, 0, none⟩)] 89) = w2 := ⟨_, rfl⟩
  have hx : Bi w2 gx false vx := by rw [← hw2]; exact Blk.alloc hx1 _
  have hX : Nt w2 vx m := by rw [← hw2]; exact Sl.alloc hX1 _
  have hz2 : Bi w2 gz false (.slice none 0 0) := by rw [← hw2]; exact Blk.alloc hz1 _
  have hb2 : Below w.heap.size w w2 := by rw [← hw2]; exact hb1.alloc hb1.size _
  rw [hw2]
  refine (not_pos hz2 hx hX hlm).mono ?_
  rintro e w3 ⟨rfl, v3, hz3, hv3, hg3, hn3⟩
  have hb3 := below3 hb2 hgz hg3
  go_wp2_with fail
  refine (newInt_c w3).mono ?_
  rintro e w4 ⟨gl, rfl, hl4, hb4, hgl⟩
  go_wp2_with fail
  refine (new_neg 1 (by decide) (by decide) w4).mono ?_
  rintro e w5 ⟨g1, v1, rfl, h15, hv15, hb5, hg1, hn1⟩
  have hl5 : Bi w5 gl false (.slice none 0 0) := Blk.below' hl4 hb5
  go_wp2_with fail
  refine (intLsh_c hl5 h15 hv15 hp0 hp).mono ?_
  rintro e w6 ⟨rfl, vy, hy6, hvy6, hg6⟩
  have hz5 : Bi w5 gz true v3 := Blk.below' (Blk.below' hz3 hb4) hb5
  have hv5 : Nt w5 v3 (m + 1) := (hv3.below hb4).below hb5
  have hzl : gz ≠ gl := by have := hz3.lt; omega
  have hz6 : Bi w6 gz true v3 := Blk.grown hz5 hg6 (fun e => hzl (Option.some.inj e))
  have hv6 : Nt w6 v3 (m + 1) := Sl.kept hv5 hg6 (.inr (fun e => by have := (World.ownsRow.lt hv3 _ e).2; omega))
  have hb6 : Below w.heap.size w w6 := (((hb3.trans (hb4.mono hb3.size)).trans (hb5.mono (Nat.le_trans hb3.size hb4.size)))).grown hg6 (Nat.le_trans hb3.size (Nat.le_trans hb4.size hb5.size)) (fun k hk => by have := hb3.size; injection hk with hk; omega)
  go_wp2_with fail
  refine (andNot_neg (B := w.heap.size) hz6 hv6 hy6 hvy6 hp0 (by omega) hl (nw_pow p hp) hgz (fun b hb => Nat.le_trans hb2.size (hn3 b hb)) hb6.size).mono ?_
  rintro e w7 ⟨rfl, v7, hz7, hv7, hb7⟩
  go_wp2_with fail
  refine (makeInt_c hz7 hv7 (by simp)).mono ?_
  rintro e w8 ⟨x, rfl, hcv, hb8⟩
  have HCV : Hid (Cv w8 x false (2 ^ p - 1 - (m + 1 - 1) % 2 ^ p)) := hcv
  have HB8 : Hid (Below w.heap.size w w8) := (hb6.trans hb7).trans (hb8.mono (Nat.le_trans hb6.size hb7.size))
  clear hcv hb8
  go_wp2_with fail
  rw [Exit.noGoto_ret]
  go_ret
  exact ⟨x, rfl, HCV.out, HB8.out⟩

set_option maxRecDepth 100000 in
set_option maxHeartbeats 8000000 in
theorem un_big_neg_all {w : World} {m : Nat} {gx : Nat} {vx : Value} (hx0 : Bi w gx true vx) (hX0 : Nt w vx m) (hm : 0 < m) (hl : nw (m + 1) ≤ 900) :
    Calls Tryz.prog 29 #[.int .i64 19, .iface 89 (.agg #[.pointer (some ⟨gx, 0, none⟩)]), .int .u64 0] w fun e w' => ∃ x, e = .returned x ∧ Cv w' x false (m - 1) ∧ Below w.heap.size w w' := by
  have hlm : nw m ≤ 900 := Nat.le_trans (nw_mono (Nat.le_succ m)) hl
  go_enter Tryz.func29, Tryz.ntmps29
  go_wp2_with fail
  go_step3
  go_wp2_with fail
  refine (newInt_c w).mono ?_
  rintro e w1 ⟨gz, rfl, hz1, hb1, hgz⟩
  have hx1 : Bi w1 gx true vx := Blk.below' hx0 hb1
  have hX1 : Nt w1 vx m := hX0.below hb1
  go_wp2_with fail
  obtain ⟨w2, hw2⟩ : ∃ w2, w1.alloc (.cells #[.pointer (some ⟨gx, 0, none⟩)] 89) = w2 := ⟨_, rfl⟩
  have hx : Bi w2 gx true vx := by rw [← hw2]; exact Blk.alloc hx1 _
  have hX : Nt w2 vx m := by rw [← hw2]; exact Sl.alloc hX1 _
  have hz2 : Bi w2 gz false (.slice none 0 0) := by rw [← hw2]; exact Blk.alloc hz1 _
  have hb2 : Below w.heap.size w w2 := by rw [← hw2]; exact hb1.alloc hb1.size _
  rw [hw2]
  refine (not_neg hz2 hx hX hm hlm).mono ?_
  rintro e w3 ⟨rfl, v3, hz3, hv3, hg3, hn3⟩
  have hb3 := below3 hb2 hgz hg3
  go_wp2_with fail
  refine (makeInt_c hz3 hv3 (by simp)).mono ?_
  rintro e w8 ⟨x, rfl, hcv, hb8⟩
  have HCV : Hid (Cv w8 x false (m - 1)) := hcv
  have HB8 : Hid (Below w.heap.size w w8) := hb3.trans (hb8.mono hb3.size)
  clear hcv hb8
  go_wp2_with fail
  rw [Exit.noGoto_ret]
  go_ret
  exact ⟨x, rfl, HCV.out, HB8.out⟩

set_option maxRecDepth 100000 in
set_option maxHeartbeats 8000000 in
theorem un_big_neg_some {w : World} {m p : Nat} {gx : Nat} {vx : Value} (hx0 : Bi w gx true vx) (hX0 : Nt w vx m) (hm : 0 < m) (hl : nw (m + 1) ≤ 900) (hp0 : 0 < p) (hp : p ≤ 300) :
    Calls Tryz.prog 29 #[.int .i64 19, .iface 89 (.agg #[.pointer (some ⟨gx, 0, none⟩)]), .int .u64 (p : Int)] w fun e w' => ∃ x, e = .returned x ∧ Cv w' x false ((m - 1) % 2 ^ p) ∧ Below w.heap.size w w' := by
  have q0 : (0 : Int) < (p : Int) := by omega
  have hlm : nw m ≤ 900 := Nat.le_trans (nw_mono (Nat.le_succ m)) hl
  go_enter Tryz.func29, Tryz.ntmps29
  go_wp2_with fail
  go_step3
  go_wp2_with fail
  refine (newInt_c w).mono ?_
  rintro e w1 ⟨gz, rfl, hz1, hb1, hgz⟩
  have hx1 : Bi w1 gx true vx := Blk.below' hx0 hb1
  have hX1 : Nt w1 vx m := hX0.below hb1
  go_wp2_with fail
  obtain ⟨w2, hw2⟩ : ∃ w2, w1.alloc (.cells #[.pointer (some ⟨gx, 0, none⟩)] 89) = w2 := ⟨_, rfl⟩
  have hx : Bi w2 gx true vx := by rw [← hw2]; exact Blk.alloc hx1 _
  have hX : Nt w2 vx m := by rw [← hw2]; exact Sl.alloc hX1 _
  have hz2 : Bi w2 gz false (.slice none 0 0) := by rw [← hw2]; exact Blk.alloc hz1 _
  have hb2 : Below w.heap.size w w2 := by rw [← hw2]; exact hb1.alloc hb1.size _
  rw [hw2]
  refine (not_neg hz2 hx hX hm hlm).mono ?_
  rintro e w3 ⟨rfl, v3, hz3, hv3, hg3, hn3⟩
  have hb3 := below3 hb2 hgz hg3
  go_wp2_with fail
  refine (newInt_c w3).mono ?_
  rintro e w4 ⟨gl, rfl, hl4, hb4, hgl⟩
  go_wp2_with fail
  refine (new_neg 1 (by decide) (by decide) w4).mono ?_
  rintro e w5 ⟨g1, v1, rfl, h15, hv15, hb5, hg1, hn1⟩
  have hl5 : Bi w5 gl false (.slice none 0 0) := Blk.below' hl4 hb5
  go_wp2_with fail
  refine (intLsh_c hl5 h15 hv15 hp0 hp).mono ?_
  rintro e w6 ⟨rfl, vy, hy6, hvy6, hg6⟩
  have hz5 : Bi w5 gz false v3 := Blk.below' (Blk.below' hz3 hb4) hb5
  have hv5 : Nt w5 v3 (m - 1) := (hv3.below hb4).below hb5
  have hzl : gz ≠ gl := by have := hz3.lt; omega
  have hz6 : Bi w6 gz false v3 := Blk.grown hz5 hg6 (fun e => hzl (Option.some.inj e))
  have hv6 : Nt w6 v3 (m - 1) := Sl.kept hv5 hg6 (.inr (fun e => by have := (World.ownsRow.lt hv3 _ e).2; omega))
  have hb6 : Below w.heap.size w w6 := (((hb3.trans (hb4.mono hb3.size)).trans (hb5.mono (Nat.le_trans hb3.size hb4.size)))).grown hg6 (Nat.le_trans hb3.size (Nat.le_trans hb4.size hb5.size)) (fun k hk => by have := hb3.size; injection hk with hk; omega)
  go_wp2_with fail
  refine (andNot_pos (B := w.heap.size) hz6 hv6 hy6 hvy6 hp0 (Nat.le_trans (nw_mono (by omega)) hl) (nw_pow p hp) hgz (fun b hb => Nat.le_trans hb2.size (hn3 b hb)) hb6.size).mono ?_
  rintro e w7 ⟨rfl, v7, hz7, hv7, hb7⟩
  go_wp2_with fail
  refine (makeInt_c hz7 hv7 (by simp)).mono ?_
  rintro e w8 ⟨x, rfl, hcv, hb8⟩
  have HCV : Hid (Cv w8 x false ((m - 1) % 2 ^ p)) := hcv
  have HB8 : Hid (Below w.heap.size w w8) := (hb6.trans hb7).trans (hb8.mono (Nat.le_trans hb6.size hb7.size))
  clear hcv hb8
  go_wp2_with fail
  rw [Exit.noGoto_ret]
  go_ret
  exact ⟨x, rfl, HCV.out, HB8.out⟩

theorem unary_c {w : World} {x : Value} {s : Bool} {m p : Nat} (h : Cv w x s m) (hs : s = true → 0 < m) (hl : nw (m + 1) ≤ 900) (hp : p ≤ 300) :
    Calls Tryz.prog 29 #[.int .i64 19, x, .int .u64 (p : Int)] w fun e w' => ∃ y, e = .returned y ∧ Cv w' y (out s m p).1 (out s m p).2 ∧ Below w.heap.size w w' := by
  rcases Nat.eq_zero_or_pos p with hp0 | hp0
  · subst hp0
    rw [show ((0 : Nat) : Int) = 0 from rfl]
    rcases h with ⟨h1, rfl⟩ | ⟨h1, g, v, rfl, hb, hv⟩
    · cases s with
      | true => exact un_word_neg_all (hs rfl) (by rcases h1 with h1 | ⟨_, h1⟩ <;> omega) hl
      | false =>
        have h2 : m < 9223372036854775808 := by
          rcases h1 with h1 | ⟨h1, _⟩
          · exact h1
          · cases h1
        rcases Nat.eq_zero_or_pos m with h0 | h0
        · subst h0; exact un_zero_pos_all
        · exact un_word_pos_all h0 h2 hl
    · cases s with
      | true => exact un_big_neg_all hb hv (hs rfl) hl
      | false => exact un_big_pos_all hb hv hl
  · have hpn : ¬ p = 0 := by omega
    have e1 : out true m p = (false, (m - 1) % 2 ^ p) := by simp [out, hpn]
    have e2 : out false m p = (false, 2 ^ p - 1 - (m + 1 - 1) % 2 ^ p) := by simp [out, hpn]
    rcases h with ⟨h1, rfl⟩ | ⟨h1, g, v, rfl, hb, hv⟩
    · cases s with
      | true => rw [e1]; exact un_word_neg_some (hs rfl) (by rcases h1 with h1 | ⟨_, h1⟩ <;> omega) hl hp0 hp
      | false =>
        rw [e2]
        have h2 : m < 9223372036854775808 := by
          rcases h1 with h1 | ⟨h1, _⟩
          · exact h1
          · cases h1
        rcases Nat.eq_zero_or_pos m with h0 | h0
        · subst h0; exact un_zero_pos_some hp0 hp
        · exact un_word_pos_some h0 h2 hl hp0 hp
    · cases s with
      | true => rw [e1]; exact un_big_neg_some hb hv (hs rfl) hl hp0 hp
      | false => rw [e2]; exact un_big_pos_some hb hv hl hp0 hp
end Wa
end Go.Proofs.YtdpnoaaeplgdjaaGreatDoor

