/-
  THE WALK OF the thin package's of and made, of an integer.
-/
import Derived.Test.YtdpnoaaeplgdjaaGreatDoorMi
import Derived.Test.YtdpnoaaeplgdjaaGreatDoorSp
import Derived.Test.YtdpnoaaeplgdjaaGreatDoorPwordsOf
namespace Go.Proofs.YtdpnoaaeplgdjaaGreatDoor
open Go.RowKit Go.Proofs.YtdpnoaaeplgdjaaGreatDoorW.PrintWords Go.Proofs.YtdpnoaaeplgdjaaGreatDoorW.PrintMore
namespace Wa
open Rg Dg Sp

theorem wordsOf_from (xs : List Int) (hl : xs.length ≤ 1000) : ∀ (d i k : Nat), i + d = xs.length → d + 1 ≤ k → PwordsOf.impl_wordsOf.l0 k (xs.take i) xs (xs.length : Int) (i : Int) = some xs
  | 0, i, k, h, hk => by
    obtain ⟨K, rfl⟩ : ∃ K, k = K + 1 := ⟨k - 1, by omega⟩
    rw [PwordsOf.impl_wordsOf.l0, if_neg (by omega), List.take_of_length_le (by omega)]
  | d + 1, i, k, h, hk => by
    obtain ⟨K, rfl⟩ : ∃ K, k = K + 1 := ⟨k - 1, by omega⟩
    have hi : i < xs.length := by omega
    have w1 : wrap64 ((i : Int) + 1) = ((i + 1 : Nat) : Int) := by rw [w64 _ (by omega) (by omega)]; omega
    have hr : rd xs (i : Int) = xs[i] := by simp [rd, hi]
    rw [PwordsOf.impl_wordsOf.l0, if_pos (by omega), if_pos (by omega), if_pos (by omega), if_pos (by rw [List.length_take]; omega), hr, w1]
    have := wordsOf_from xs hl d (i + 1) K (by omega) (by omega)
    rwa [List.take_succ_eq_append_getElem hi] at this
theorem wo_wv (ws : List Nat) (hw : ∀ w ∈ ws, w < 18446744073709551616) (j : Nat) (h : j < ws.length) : wo (wv ws) j = ws[j] := by
  have := wv_at ws j h hw
  rw [Nat.pow_mul] at this
  exact this
theorem zi_wl (ws : List Nat) (hw : ∀ w ∈ ws, w < 18446744073709551616) : (zi ws).map (Value.int .u64) = wl (wv ws) ws.length := by
  refine wl_ext _ _ _ (by simp [zi]) fun j hj => ?_
  rw [wo_wv ws hw j hj]
  simp [zi, hj]
theorem wv_lt' (ws : List Nat) (hw : ∀ w ∈ ws, w < 18446744073709551616) : wv ws < 18446744073709551616 ^ ws.length := by
  have := wv_lt ws hw
  rw [Nat.pow_mul] at this
  exact this

theorem wordsOf_c {w : World} {u : Value} {ws : List Nat} (hw : ∀ x ∈ ws, x < 18446744073709551616) (hl : ws.length ≤ 900) (h : Us w u (zi ws)) :
    Calls Tryz.prog 139 #[u] w fun e w' => ∃ v, e = .returned v ∧ Sl w' v ws.length (wl (wv ws) ws.length) ∧ Below w.heap.size w w' := by
  obtain ⟨A, c, rfl, hc, hr⟩ := h
  have hz := zi_len ws
  refine (PwordsOf.impl_wordsOf.calls 1000 A c (zi ws) (zi ws) w hr hc (by
    have := wordsOf_from (zi ws) (by omega) (zi ws).length 0 1000 (by omega) (by omega)
    unfold PwordsOf.impl_wordsOf.f
    exact this)).mono ?_
  rintro e w' ⟨v, rfl, hv, hb⟩
  have h1 := Kd.own_of_R hv
  refine ⟨v, rfl, ?_, hb⟩
  rw [hz] at h1
  have e1 : encs (Value.int .u64) (zi ws) = wl (wv ws) ws.length := by rw [← zi_wl ws hw]; rfl
  rw [e1] at h1
  exact own_weaken h1 (Nat.zero_le _)

theorem und87 : Tryz.prog.underlying 87 = some (.pointer 161) := by kernel_rfl
theorem info161 : (Tryz.prog.info? 161).isSome = true := by kernel_rfl
theorem neq_same (a : Addr) (w : World) : (binOp .neq 87 (.pointer (some a)) (.pointer (some a))).run Tryz.prog w = .ok (.bool false) w := by
  obtain ⟨i, hi⟩ := Option.isSome_iff_exists.1 info161
  have h : ∀ d : Nat, (Op.equalIn (d + 1) 87 (.pointer (some a)) (.pointer (some a))).run Tryz.prog w = .ok true w := fun d => by
    simp [Op.equalIn, run_underlying und87, sizeOf, typeInfo, hi, run_sameAddr_same]
  simp only [binOp]
  simp [Op.equal, Op.maxDepth, h 9999]
attribute [local go_sem] neq_same

set_option maxRecDepth 100000 in
set_option maxHeartbeats 4000000 in
theorem neg_c {w : World} {g m : Nat} {v : Value} (h : Bi w g false v) (hv : Nt w v m) : Calls Tryz.prog 52 #[.pointer (some ⟨g, 0, none⟩), .pointer (some ⟨g, 0, none⟩)] w fun e w' => e = .returned (.pointer (some ⟨g, 0, none⟩)) ∧ w' = w.setCell ⟨g, 0, none⟩ (.bool (decide (0 < m))) := by
  have c0 := h.cell 0
  have c1 := h.cell 1
  have f0 := h.frozen 0
  simp only [List.getElem?_toArray, List.getElem?_cons_zero, List.getElem?_cons_succ] at c0 c1
  obtain ⟨a, c, rfl, _⟩ := Sl.nil_or hv
  rcases Nat.eq_zero_or_pos m with h0 | h0
  · subst h0
    rw [nw_zero] at c1
    clear h hv
    go_enter Tryz.func52, Tryz.ntmps52
    go_wp2
    go_ret
    exact ⟨rfl, rfl⟩
  · have hp := nw_pos m h0
    obtain ⟨n, hn⟩ : ∃ n, nw m = n := ⟨_, rfl⟩
    rw [hn] at c1 hp
    have q1 : (0 : Int) < (n : Int) := by omega
    have e : decide (0 < m) = true := decide_eq_true h0
    rw [e]
    clear h hv hn e
    go_enter Tryz.func52, Tryz.ntmps52
    go_wp2
    go_ret
    exact ⟨rfl, rfl⟩

/-- The words of an argument, and the number that they are. -/
def Arg (w : World) (u : Value) (ws : List Nat) : Prop := (∀ x ∈ ws, x < 18446744073709551616) ∧ ws.length ≤ 900 ∧ Us w u (zi ws)

set_option maxRecDepth 100000 in
set_option maxHeartbeats 4000000 in
theorem setBits_c {w : World} {g n x : Nat} {u v : Value} (h : Bi w g false u) (hv : Sl w v n (wl x n)) (hx : x < 18446744073709551616 ^ n) (hn : n ≤ 900) :
    Calls Tryz.prog 138 #[.pointer (some ⟨g, 0, none⟩), v] w fun e w' => e = .returned (.pointer (some ⟨g, 0, none⟩)) ∧ ∃ v', Bi w' g false v' ∧ Nt w' v' x ∧ w.grownBy w' (some g) := by
  obtain ⟨a, c, rfl, _⟩ := hv.nil_or
  have hc := norm_c hv hx (by omega)
  have HV : Hid (Nt w (.slice a (nw x) c) x) := Nt.norm hv hx
  have HB : Hid (Bi w g false u) := h
  clear h hv
  go_enter Tryz.func138, Tryz.ntmps138
  go_wp2_with fail
  refine hc.mono ?_
  rintro e w1 ⟨rfl, hb1⟩
  have HV1 : Hid (Nt w1 (.slice a (nw x) c) x) := HV.out.below hb1
  have HB1 : Hid (Bi w1 g false u) := Blk.below' HB.out hb1
  have HH : Hid (Below w.heap.size w w1) := hb1
  have c0 := HB1.out.cell 0
  have c1 := HB1.out.cell 1
  have f0 := HB1.out.frozen 0
  have f1 := HB1.out.frozen 1
  simp only [List.getElem?_toArray, List.getElem?_cons_zero, List.getElem?_cons_succ] at c0 c1
  clear hb1 hc
  go_wp2_with fail
  go_ret
  exact ⟨rfl, _, HB1.out.set1.set0, (HV1.out.set (HB1.out.ne_row HV1.out)).set (HB1.out.ne_row HV1.out), grown_setCell (grown_setCell (grown_of_below HH.out))⟩

set_option maxRecDepth 100000 in
set_option maxHeartbeats 4000000 in
theorem of_any {w : World} {u : Value} {ws : List Nat} (h : Arg w u ws) (neg : Bool) : Calls Tryz.prog 67 #[.agg #[.bool neg, u]] w fun e w' => ∃ g v, e = .returned (.pointer (some ⟨g, 0, none⟩)) ∧ Bi w' g (neg && decide (0 < wv ws)) v ∧ Nt w' v (wv ws) ∧ Below w.heap.size w w' := by
  obtain ⟨hw, hl, hu⟩ := h
  have hu0 := hu
  obtain ⟨A, c, hform, _⟩ := hu
  obtain ⟨w1, hw1⟩ : ∃ w1, (w.alloc (.cells #[.bool neg, u] 24)).alloc (.cells #[.bool false, .slice none 0 0] 161) = w1 := ⟨_, rfl⟩
  have hu1 : Us w1 u (zi ws) := by rw [← hw1]; exact (hu0.below ((Below.refl _ _).alloc (Nat.le_refl _) _)).below ((Below.refl _ _).alloc (Nat.le_refl _) _)
  have hB : Blk w1 w.heap.size 24 #[.bool neg, u] := by rw [← hw1]; exact (Blk.new w 24 _).alloc _
  have hz : Bi w1 (w.heap.size + 1) false (.slice none 0 0) := by
    rw [← hw1]
    have := Blk.new (w.alloc (.cells #[.bool neg, u] 24)) 161 #[.bool false, .slice none 0 0]
    simpa [Bi] using this
  have hb1 : Below w.heap.size w w1 := by rw [← hw1]; exact ((Below.refl _ _).alloc (Nat.le_refl _) _).alloc (by simp) _
  have HW : Hid ((w.alloc (.cells #[.bool neg, u] 24)).alloc (.cells #[.bool false, .slice none 0 0] 161) = w1) := hw1
  have HU : Hid (Us w1 u (zi ws)) := hu1
  clear hw1 hu1 hu0
  subst hform
  go_enter Tryz.func67, Tryz.ntmps67
  go_wp2_with fail
  rw [HW.out]
  refine (wordsOf_c hw hl HU.out).mono ?_
  rintro e w2 ⟨v, rfl, hv, hb2⟩
  have hz2 : Bi w2 (w.heap.size + 1) false (.slice none 0 0) := Blk.below' hz hb2
  have hB2 := Blk.below' hB hb2
  have hlt2 := hz2.lt
  go_wp2_with fail
  refine (setBits_c hz2 hv (wv_lt' ws hw) hl).mono ?_
  rintro e w3 ⟨rfl, v3, hz3, hv3, hg3⟩
  have hB3 := Blk.grown hB2 hg3 (fun e => by have := Option.some.inj e; omega)
  have c0 := hB3.cell 0
  simp only [List.getElem?_toArray, List.getElem?_cons_zero] at c0
  have hb3 : Below w.heap.size w w3 := (hb1.trans (hb2.mono hb1.size)).grown hg3 (Nat.le_trans hb1.size hb2.size) (fun k hk => by injection hk with hk; omega)
  have HB3 : Hid (Below w.heap.size w w3) := hb3
  have HZ3 : Hid (Bi w3 (w.heap.size + 1) false v3) := hz3
  have HV3 : Hid (Nt w3 v3 (wv ws)) := hv3
  clear hB hB2 hz hz2 hb1 hb2 hg3 hv hB3 hb3 hlt2
  cases neg with
  | false =>
    clear hz3 hv3
    go_wp2_with fail
    go_ret
    exact ⟨_, _, rfl, HZ3.out, HV3.out, HB3.out⟩
  | true =>
    go_wp2_with fail
    refine (neg_c hz3 hv3).mono ?_
    rintro e w4 ⟨rfl, hw4⟩
    have HW4 : Hid (w4 = w3.setCell ⟨w.heap.size + 1, 0, none⟩ (.bool (decide (0 < wv ws)))) := hw4
    clear hw4 hz3 hv3
    go_wp2_with fail
    go_ret
    refine ⟨_, v3, rfl, ?_, ?_, ?_⟩
    · rw [HW4.out, Bool.true_and]; exact HZ3.out.set0
    · rw [HW4.out]; exact HV3.out.set (HZ3.out.ne_row HV3.out)
    · rw [HW4.out]; exact HB3.out.setCell (p := ⟨w.heap.size + 1, 0, none⟩) (Nat.le_succ _) _
end Wa
end Go.Proofs.YtdpnoaaeplgdjaaGreatDoor
/-
  THE WALK OF the thin package's made, of an integer, and of constant.Make.
-/
namespace Go.Proofs.YtdpnoaaeplgdjaaGreatDoor
open Go.RowKit Go.Proofs.YtdpnoaaeplgdjaaGreatDoorW.PrintWords Go.Proofs.YtdpnoaaeplgdjaaGreatDoorW.PrintMore
namespace Wa
open Rg Dg Sp

/-- An integer as the thin package's value. -/
abbrev iv (neg : Bool) (u : Value) : Array Value := #[.int .i64 3, .bool false, .string ⟨#[]⟩, .bool neg, u, .slice none 0 0, .bool false, .slice none 0 0, .slice none 0 0]

theorem Arg.below {w w' : World} {u : Value} {ws : List Nat} (h : Arg w u ws) (hb : Below w.heap.size w w') : Arg w' u ws := ⟨h.1, h.2.1, h.2.2.below hb⟩

set_option maxRecDepth 100000 in
set_option maxHeartbeats 4000000 in
theorem make_int {w : World} {g m : Nat} {s : Bool} {v : Value} (h : Bi w g s v) (hv : Nt w v m) (hs : s = true → 0 < m) : Calls Tryz.prog 66 #[.iface 87 (.pointer (some ⟨g, 0, none⟩))] w fun e w' => ∃ x, e = .returned x ∧ Cv w' x s m ∧ Below w.heap.size w w' := by
  have hc := makeInt_c h hv hs
  clear h hv hs
  go_enter Tryz.func66, Tryz.ntmps66
  go_wp2_with fail
  refine hc.mono ?_
  rintro e w1 ⟨x, rfl, hcv, hb⟩
  have HC : Hid (Cv w1 x s m ∧ Below w.heap.size w w1) := ⟨hcv, hb⟩
  clear hcv hb hc
  go_wp2_with fail
  go_ret
  exact ⟨x, rfl, HC.out⟩

set_option maxRecDepth 100000 in
set_option maxHeartbeats 4000000 in
theorem made_int {w : World} {u : Value} {ws : List Nat} (h : Arg w u ws) (neg : Bool) : Calls Tryz.prog 30 #[.agg (iv neg u)] w fun e w' => ∃ x, e = .returned x ∧ Cv w' x (neg && decide (0 < wv ws)) (wv ws) ∧ Below w.heap.size w w' := by
  obtain ⟨w1, hw1⟩ : ∃ w1, w.alloc (.cells (iv neg u) 41) = w1 := ⟨_, rfl⟩
  have ha : Arg w1 u ws := by rw [← hw1]; exact h.below ((Below.refl _ _).alloc (Nat.le_refl _) _)
  have hb1 : Below w.heap.size w w1 := by rw [← hw1]; exact (Below.refl _ _).alloc (Nat.le_refl _) _
  obtain ⟨A, c, hform, _⟩ := h.2.2
  have HA : Hid (Arg w1 u ws) := ha
  have HW : Hid (w.alloc (.cells (iv neg u) 41) = w1) := hw1
  have HB : Hid (Below w.heap.size w w1) := hb1
  clear ha hw1 hb1 h
  subst hform
  go_enter Tryz.func30, Tryz.ntmps30
  go_wp2_with fail
  rw [HW.out]
  refine (of_any HA.out neg).mono ?_
  rintro e w2 ⟨g, v, rfl, hz, hv, hb2⟩
  go_wp2_with fail
  refine (make_int hz hv (fun h => by simp at h; exact h.2)).mono ?_
  rintro e w3 ⟨x, rfl, hcv, hb3⟩
  have HC : Hid (Cv w3 x (neg && decide (0 < wv ws)) (wv ws)) := hcv
  have HB3 : Hid (Below w.heap.size w w3) := (HB.out.trans (hb2.mono HB.out.size)).trans (hb3.mono (Nat.le_trans HB.out.size hb2.size))
  clear hcv hb3 hb2 hz hv
  go_wp2_with fail
  go_ret
  exact ⟨x, rfl, HC.out, HB3.out⟩
end Wa
end Go.Proofs.YtdpnoaaeplgdjaaGreatDoor
