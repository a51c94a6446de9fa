/-
  THE WALK OF nat's lsh of 1: powers of 2.
-/
import Derived.Test.YtdpnoaaeplgdjaaGreatDoorAn
import Derived.Laws.BitsAllLaws
namespace Go.Proofs.YtdpnoaaeplgdjaaGreatDoor
open Go.RowKit
namespace Wa

set_option maxRecDepth 100000 in
set_option maxHeartbeats 4000000 in
theorem lsh1_c {w : World} {g q p cz cp r : Nat} {z0 : Value} (hr0 : 0 < r) (hr : r < 64) (hz : w.cell? ⟨g, q, none⟩ = some z0) (hf : w.frozen? ⟨g, q, none⟩ = false) (hx : w.cell? ⟨p, 0, none⟩ = some (.int .u64 1)) :
    Calls Tryz.prog 197 #[.slice (some ⟨g, q, none⟩) 1 cz, .slice (some ⟨p, 0, none⟩) 1 cp, .int .u64 (r : Int)] w fun e w' => e = .returned (.int .u64 0) ∧ ∃ k, w' = (w.setCell ⟨g, q, none⟩ (.int .u64 ((2 ^ r : Nat) : Int))).drewN k := by
  have q0 : ¬ ((r : Int) = 0) := by omega
  have e1 : bits .and .u64 (r : Int) 63 = (r : Int) := by
    rw [show (63 : Int) = ((63 : Nat) : Int) from rfl, u64_and_nat r 63 (by omega) (by decide), show (63 : Nat) = 2 ^ 6 - 1 from rfl, Nat.and_two_pow_sub_one_eq_mod]
    congr 1
    exact Nat.mod_eq_of_lt hr
  obtain ⟨t, ht⟩ : ∃ t : Nat, 64 - r = t := ⟨_, rfl⟩
  have e2 : IntKind.u64.wrap (64 - (r : Int)) = (t : Int) := by simp only [IntKind.wrap_u64]; omega
  have e3 : bits .and .u64 (t : Int) 63 = (t : Int) := by
    rw [show (63 : Int) = ((63 : Nat) : Int) from rfl, u64_and_nat t 63 (by omega) (by decide), show (63 : Nat) = 2 ^ 6 - 1 from rfl, Nat.and_two_pow_sub_one_eq_mod]
    congr 1
    exact Nat.mod_eq_of_lt (by omega)
  have t0 : (0 : Int) ≤ (t : Int) := by omega
  have r0 : (0 : Int) ≤ (r : Int) := by omega
  go_enter Tryz.func197, Tryz.ntmps197
  go_wp2
  go_loopg [8] 1 (fun gk s8 wx => gk = 1 ∧ s8 = .int .i64 0 ∧ wx = w)
  case atStart => exact ⟨rfl, rfl, rfl⟩
  case round =>
    obtain ⟨rfl, rfl, rfl⟩ := hrel
    go_wp2_with fail
    go_ret
    have ed : (1 : Int) / 2 ^ t = 0 := by
      have h1 : 1 < 2 ^ t := Nat.one_lt_two_pow (by omega)
      have h2 : (1 / 2 ^ t : Nat) = 0 := Nat.div_eq_of_lt h1
      have h3 := congrArg (fun n : Nat => (n : Int)) h2
      simpa using h3
    have ew : IntKind.u64.wrap ((2 : Int) ^ r) = ((2 ^ r : Nat) : Int) := by
      have h1 : 2 ^ r < 2 ^ 64 := Nat.pow_lt_pow_right (by decide) hr
      have h2 : ((2 ^ r : Nat) : Int) = (2 : Int) ^ r := by simp
      rw [← h2]
      obtain ⟨P, hP⟩ : ∃ P : Nat, 2 ^ r = P := ⟨_, rfl⟩
      rw [hP] at h1 ⊢
      simp only [IntKind.wrap_u64]
      omega
    refine ⟨?_, 0, ?_⟩
    · show Ending.returned (Value.int .u64 (1 / 2 ^ t)) = _
      rw [ed]
    · rw [ew]
      rfl

/-- The row of a power of 2, behind the stores. -/
theorem pow_row {w w3 : World} {g q r s cap : Nat} {ys : List Value} (hs : s = 64 * q + r ∧ r < 64) (hy : Sl w (.slice (some ⟨g, 0, none⟩) (q + 2) cap) (q + 2) ys) (h0 : ys[q]? = some (.int .u64 ((2 ^ r : Nat) : Int)))
    (hw : w3.heap = ((w.setCell ⟨g, 1 + q, none⟩ (.int .u64 0)).setCells g 0 (List.replicate q (.int .u64 0))).heap) : Sl w3 (.slice (some ⟨g, 0, none⟩) (q + 2) cap) (q + 2) (wl (2 ^ s) (q + 2)) := by
  obtain ⟨zs, h1, h2⟩ := Sl.sets (List.replicate q (.int .u64 0)) 0 _ _ (hy.set (1 + q) (.int .u64 0)).1 (by simp)
  have e : zs = wl (2 ^ s) (q + 2) := by
    refine wl_ext _ _ zs h1.len fun j hj => ?_
    rw [h2 j, List.length_replicate, hs.1, pow_word q r j hs.2]
    by_cases c : j < q
    · rw [if_pos (by omega), if_neg (by omega), Nat.sub_zero, List.getElem?_replicate, if_pos c]
      rfl
    · rw [if_neg (by omega), List.getElem?_set]
      by_cases c2 : 1 + q = j
      · subst c2
        rw [if_pos rfl, if_pos (by rw [hy.len]; omega), if_neg (by omega)]
        rfl
      · have : j = q := by omega
        subst this
        rw [if_neg c2, if_pos rfl, h0]
  rw [e] at h1
  exact h1.like hw
theorem pow_lt {q r s : Nat} (hs : s = 64 * q + r ∧ r < 64) : 2 ^ s < 18446744073709551616 ^ (q + 2) := by
  rw [p2, hs.1]
  exact Nat.pow_lt_pow_right (by decide) (by omega)

set_option maxRecDepth 100000 in
set_option maxHeartbeats 8000000 in
theorem lsh_c {w : World} {v1 : Value} {s : Nat} (h1 : Nt w v1 1) (hs0 : 0 < s) (hs : s ≤ 300) : Calls Tryz.prog 137 #[.slice none 0 0, v1, .int .u64 (s : Int)] w fun e w' => ∃ v, e = .returned v ∧ Nt w' v (2 ^ s) ∧ Below w.heap.size w w' := by
  obtain ⟨q, hq⟩ : ∃ q, s / 64 = q := ⟨_, rfl⟩
  obtain ⟨r, hr⟩ : ∃ r, s % 64 = r := ⟨_, rfl⟩
  have hm := make_c (World.ownsRow_nil w 0 170 1) (show q + 2 ≤ 1000 by omega)
  obtain ⟨p, cp, cur1, rfl, _, hcp, _⟩ := Sl.form_pos h1 (by decide)
  unfold Nt at h1
  rw [nw_one] at *
  have H1 : Hid (Sl w (.slice (some ⟨p, 0, none⟩) 1 cp) 1 (wl 1 1)) := h1
  clear h1
  have e0 : ¬ ((s : Int) = 0) := by omega
  have d1 : (s : Int) / 64 = (q : Int) := by omega
  have d2 : (s : Int) % 64 = (r : Int) := by omega
  have hc : ((q + 2 : Nat) : Int) = 1 + (q : Int) + 1 := by omega
  rw [hc] at hm
  have HS : Hid (s = 64 * q + r ∧ r < 64) := ⟨by omega, by omega⟩
  have hq9 : q ≤ 9 := by omega
  clear hq hr hc hs
  go_enter Tryz.func137, Tryz.ntmps137
  by_cases hr0 : r = 0
  · subst hr0
    go_wp2_with fail
    refine hm.mono ?_
    rintro e w1 ⟨v, ys, rfl, hy, hb, hbl⟩
    obtain ⟨g, cap, cur', rfl, _, hcap, _⟩ := Sl.form_pos hy (by omega)
    have HZ : Hid (Sl w1 (.slice (some ⟨g, 0, none⟩) (q + 2) cap) (q + 2) ys) := hy
    have HB : Hid (Below w.heap.size w w1) := hb
    have HL : Hid (w.heap.size ≤ g) := (hbl g rfl).resolve_left (by simp [Value.ownBlock])
    have q1 : (1 + (q : Int)) ≤ (cap : Int) := by omega
    have q2 : ¬ (cap = q) := by omega
    have q3 : (1 + (q : Int)).toNat = 1 + q := by omega
    have q4 : (q : Int) ≤ 1 + (q : Int) := by omega
    clear hy hb hbl hm
    have HY1 : Hid (Sl w1 (.slice (some ⟨p, 0, none⟩) 1 cp) 1 (wl 1 1)) := H1.out.below HB.out
    have H0 : Hid ((ys.set q (.int .u64 1))[q]? = some (.int .u64 ((2 ^ 0 : Nat) : Int))) := by
      show _ = _
      rw [List.getElem?_set, if_pos rfl, if_pos (by rw [HZ.out.len]; omega)]
      rfl
    have HZ2 : Hid (Sl (w1.setCell ⟨g, q, none⟩ (.int .u64 1)) (.slice (some ⟨g, 0, none⟩) (q + 2) cap) (q + 2) (ys.set q (.int .u64 1))) := (HZ.out.set q _).1
    have HG2 : Hid (w1.grownBy (w1.setCell ⟨g, q, none⟩ (.int .u64 1)) (some g)) := grown_setCell (World.grownBy.refl _ _)
    obtain ⟨ys2, hys2⟩ : ∃ ys2, ys.set q (.int .u64 1) = ys2 := ⟨_, rfl⟩
    rw [hys2] at HZ2 H0
    obtain ⟨w2, hw2⟩ : ∃ w2, w1.setCell ⟨g, q, none⟩ (.int .u64 1) = w2 := ⟨_, rfl⟩
    have HW : Hid (w1.setCells g q [.int .u64 1] = w2) := hw2
    rw [hw2] at HZ2 HG2
    obtain ⟨z9, cz⟩ : ∃ z9, w2.cell? ⟨g, 1 + q, none⟩ = some z9 := ⟨ys2[1 + q]'(by rw [HZ2.out.len]; omega), by rw [HZ2.out.cell (1 + q) (by omega), List.getElem?_eq_getElem]⟩
    have cf : w2.frozen? ⟨g, 1 + q, none⟩ = false := HZ2.out.frozen (1 + q)
    clear hw2 hys2
    go_wp2_with (first
      | ((with_reducible refine gate_call (b := .copy) rfl ?_); refine wpList_copy_words rfl 159 und159 _ _ rfl g q 1 (cap - q) ⟨p, 0, none⟩ 1 cp [.int .u64 1] rfl rfl rfl (fun j v hj => by rw [addr_add, Nat.zero_add]; match j, hj with | 0, hj => rw [HY1.out.cell 0 (by decide), wl_one1]; exact hj) (fun j hj => by rw [HZ.out.cell (q + j) (by simp at hj; omega), List.getElem?_eq_getElem (by rw [HZ.out.len]; simp at hj; omega)]; rfl) (fun j hj => HZ.out.frozen (q + j)) (by intro v hv; rw [List.mem_singleton.1 hv]; rfl) ?_; rw [HW.out])
      | ((with_reducible refine gate_call (b := .clear) rfl ?_); refine wpList_clear_words rfl _ rfl g q cap rfl (fun j hj => by rw [(HZ2.out.set (1 + q) (.int .u64 0)).1.cell j (by omega), List.getElem?_eq_getElem (by rw [List.length_set, HZ2.out.len]; omega)]; rfl) (fun j hj => (HZ2.out.set (1 + q) (.int .u64 0)).1.frozen j) ?_))
    refine (norm_c (x := 2 ^ s) (pow_row HS.out HZ2.out H0.out rfl) (pow_lt HS.out) (by omega)).mono ?_
    rintro e w5 ⟨rfl, hb5⟩
    go_wp2_with fail
    go_ret
    refine ⟨_, rfl, Nt.below (Nt.norm (pow_row HS.out HZ2.out H0.out rfl) (pow_lt HS.out)) hb5, ?_⟩
    have hbb := (HB.out.grown HG2.out HB.out.size (fun k hk => by have := HL.out; injection hk with hk; omega))
    have hbc := hbb.grown (grown_setCells g (List.replicate q (.int .u64 0)) 0 _ (grown_setCell (o := 1 + q) (u := .int .u64 0) (World.grownBy.refl _ _))) hbb.size (fun k hk => by have := HL.out; injection hk with hk; omega)
    exact hbc.trans (hb5.mono hbc.size)
  · have c0 : ¬ ((r : Int) = 0) := by omega
    go_wp2_with fail
    refine hm.mono ?_
    rintro e w1 ⟨v, ys, rfl, hy, hb, hbl⟩
    obtain ⟨g, cap, cur', rfl, _, hcap, _⟩ := Sl.form_pos hy (by omega)
    have HZ : Hid (Sl w1 (.slice (some ⟨g, 0, none⟩) (q + 2) cap) (q + 2) ys) := hy
    have HB : Hid (Below w.heap.size w w1) := hb
    have HL : Hid (w.heap.size ≤ g) := (hbl g rfl).resolve_left (by simp [Value.ownBlock])
    have q1 : (1 + (q : Int)) ≤ (cap : Int) := by omega
    have q2 : ¬ (cap = q) := by omega
    have q3 : (1 + (q : Int)).toNat = 1 + q := by omega
    have q4 : (q : Int) ≤ 1 + (q : Int) := by omega
    clear hy hb hbl hm
    have HC1 : Hid (w1.cell? ⟨g, q, none⟩ = some (ys[q]'(by rw [HZ.out.len]; omega))) := by
      show _ = _
      rw [HZ.out.cell q (by omega), List.getElem?_eq_getElem]
    have HF1 : Hid (w1.frozen? ⟨g, q, none⟩ = false) := HZ.out.frozen q
    have HY1c : Hid (w1.cell? ⟨p, 0, none⟩ = some (.int .u64 1)) := by
      show _ = _
      rw [(H1.out.below HB.out).cell 0 (by decide), wl_one1]
      rfl
    go_wp2_with fail
    refine (lsh1_c (by omega) HS.out.2 HC1.out HF1.out HY1c.out).mono ?_
    rintro e w2 ⟨rfl, k, hw2⟩
    have HZ2 : Hid (Sl w2 (.slice (some ⟨g, 0, none⟩) (q + 2) cap) (q + 2) (ys.set q (.int .u64 ((2 ^ r : Nat) : Int)))) := by
      rw [hw2]; exact (HZ.out.set q _).1
    have HG2 : Hid (w1.grownBy w2 (some g)) := by
      rw [hw2]; exact grown_like (grown_setCell (o := q) (u := .int .u64 ((2 ^ r : Nat) : Int)) (World.grownBy.refl _ _)) rfl rfl rfl rfl
    have H0 : Hid ((ys.set q (.int .u64 ((2 ^ r : Nat) : Int)))[q]? = some (.int .u64 ((2 ^ r : Nat) : Int))) := by
      show _ = _
      rw [List.getElem?_set, if_pos rfl, if_pos (by rw [HZ.out.len]; omega)]
    obtain ⟨ys2, hys2⟩ : ∃ ys2, ys.set q (.int .u64 ((2 ^ r : Nat) : Int)) = ys2 := ⟨_, rfl⟩
    rw [hys2] at HZ2 H0
    obtain ⟨z9, cz⟩ : ∃ z9, w2.cell? ⟨g, 1 + q, none⟩ = some z9 := ⟨ys2[1 + q]'(by rw [HZ2.out.len]; omega), by rw [HZ2.out.cell (1 + q) (by omega), List.getElem?_eq_getElem]⟩
    have cf : w2.frozen? ⟨g, 1 + q, none⟩ = false := HZ2.out.frozen (1 + q)
    clear hw2 hys2
    go_wp2_with (first
      | ((with_reducible refine gate_call (b := .clear) rfl ?_); refine wpList_clear_words rfl _ rfl g q cap rfl (fun j hj => by rw [(HZ2.out.set (1 + q) (.int .u64 0)).1.cell j (by omega), List.getElem?_eq_getElem (by rw [List.length_set, HZ2.out.len]; omega)]; rfl) (fun j hj => (HZ2.out.set (1 + q) (.int .u64 0)).1.frozen j) ?_))
    refine (norm_c (x := 2 ^ s) (pow_row HS.out HZ2.out H0.out rfl) (pow_lt HS.out) (by omega)).mono ?_
    rintro e w5 ⟨rfl, hb5⟩
    go_wp2_with fail
    go_ret
    refine ⟨_, rfl, Nt.below (Nt.norm (pow_row HS.out HZ2.out H0.out rfl) (pow_lt HS.out)) hb5, ?_⟩
    have hbb := (HB.out.grown HG2.out HB.out.size (fun k hk => by have := HL.out; injection hk with hk; omega))
    have hbc := hbb.grown (grown_setCells g (List.replicate q (.int .u64 0)) 0 _ (grown_setCell (o := 1 + q) (u := .int .u64 0) (World.grownBy.refl _ _))) hbb.size (fun k hk => by have := HL.out; injection hk with hk; omega)
    exact hbc.trans (hb5.mono hbc.size)
end Wa
end Go.Proofs.YtdpnoaaeplgdjaaGreatDoor
