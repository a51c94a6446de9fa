/-
  THE WALK OF package spec's Bit, Shl and DivMod.
-/
import Derived.Test.YtdpnoaaeplgdjaaGreatDoorRaBC
import Derived.Test.YtdpnoaaeplgdjaaGreatDoorRp
namespace Go.Proofs.YtdpnoaaeplgdjaaGreatDoor
open Go.RowKit Go.Proofs.YtdpnoaaeplgdjaaGreatDoorW.PrintWords Go.Proofs.YtdpnoaaeplgdjaaGreatDoorW.PrintMore
namespace Sp
open Rg Dg

theorem inf3 : (Tryz.prog.info? 3).map (fun i => (i.zero, i.size, i.bytes)) = some (some (.int .i64 0), 1, 8) := by kernel_rfl

/-- A row of the call's own that holds these numbers. -/
def Rw (w : World) (B : Nat) (v : Value) (l : List Int) : Prop := Kd.R (Kd.int .i64) 3 w B (fun _ => True) v l
theorem Rw.of_full {w : World} {B g n : Nat} (h : w.ownsRow B 3 1 (.slice (some ⟨g, 0, none⟩) n n) n (madeCells (Value.int .i64 0).cells (n * 1)).toList) : Rw w B (.slice (some ⟨g, 0, none⟩) n n) (List.replicate n 0) := by
  have e : (madeCells (Value.int .i64 0).cells (n * 1)).toList = encs (Value.int .i64) (List.replicate n 0) := by
    apply List.ext_getElem?
    intro j
    by_cases hj : j < n
    · simp [madeCells, encs, hj, Value.cells, Nat.mod_one]
    · simp [madeCells, encs, hj, Value.cells]
  rw [e] at h
  refine Kd.R_of_own ?_ (fun _ _ => trivial)
  rw [List.length_replicate]
  exact h
theorem Rw.ds {w : World} {B a : Nat} {v : Value} (h : Rw w B v (dg a)) : Ds w v a := Ds.of_R h
theorem Rw.set {w : World} {B g n c : Nat} {l : List Int} (h : Rw w B (.slice (some ⟨g, 0, none⟩) n c) l) (i : Nat) (x : Int) : Rw (w.setCell ⟨g, i, none⟩ (.int .i64 x)) B (.slice (some ⟨g, 0, none⟩) n c) (l.set i x) :=
  (Kd.R_putg h (i : Int) x).1

set_option maxRecDepth 100000 in
set_option maxHeartbeats 4000000 in
theorem bit_c (q r : Nat) (hr : r < 16) (hq : q ≤ 2000) (w : World) : Calls Tryz.prog 13 #[.int .i64 ((16 * q + r : Nat) : Int)] w fun e w' => ∃ v, e = .returned v ∧ Ds w' v (2 ^ (16 * q + r)) ∧ Below w.heap.size w w' := by
  obtain ⟨n, hn⟩ : ∃ n : Nat, 16 * q + r = n := ⟨_, rfl⟩
  have d1 : (n : Int) / 16 = (q : Int) := by omega
  have d2 : (n : Int) % 16 = (r : Int) := by omega
  have h9 : n ≤ 100000 := by omega
  have HN : Hid (16 * q + r = n) := hn
  obtain ⟨i3, hi3, hz0, hz1, hz2⟩ := info_parts inf3
  rw [hn]
  clear hn
  go_enter Tryz.func13, Tryz.ntmps13
  go_wp2_with ((with_reducible refine gate_dst (N := 7) rfl ?_); refine wpList_make_full w rfl _ _ 28 rfl w.heap.size 3 i3 _ 1 Tryz.underlying28 hi3 hz0 hz1 .i64 .i64 _ _ (q + 1) rfl rfl (by omega) (by omega) (by rw [hz2]; omega) (by unfold maxLen; omega) (Nat.le_refl _) ?_; intro w1 ho hg; have HR : Hid (Rw w1 w.heap.size _ _) := Rw.of_full ho; have HG : Hid (w.grownBy w1 none) := hg; have hc := (Kd.R_celln 0 HR.out (q : Int) (by omega) (by omega)).1; have hf := (Kd.R_celln 0 HR.out (q : Int) (by omega) (by omega)).2; rw [show ((q : Int)).toNat = q from rfl] at hc hf; clear ho hg)
  go_ret
  refine ⟨_, rfl, ?_, ?_⟩
  · have h := HR.out.set q ((2 ^ r : Nat) : Int)
    rw [bit_is q r hr, HN.out] at h
    have e : wrap64 ((2 : Int) ^ r) = ((2 ^ r : Nat) : Int) := by
      have h1 : 2 ^ r < 2 ^ 16 := Nat.pow_lt_pow_right (by decide) hr
      have h2 : ((2 ^ r : Nat) : Int) = (2 : Int) ^ r := by simp
      rw [← h2]
      obtain ⟨P, hP⟩ : ∃ P : Nat, 2 ^ r = P := ⟨_, rfl⟩
      rw [hP] at h1 ⊢
      exact w64 _ (by omega) (by omega)
    rw [e]
    obtain ⟨A, c, hv, hc', hC⟩ := h.ds
    rw [hv]
    exact ⟨A, c, rfl, hc', hC⟩
  · exact ((Below.refl _ _).grown HG.out (Nat.le_refl _) (fun k hk => by cases hk)).setCell (Nat.le_refl _) _

theorem trim_c {w : World} {B g n c a : Nat} (h : Rw w B (.slice (some ⟨g, 0, none⟩) n c) (ld a n)) (ha : a < 65536 ^ n) (hn : n ≤ 4000) :
    Calls Tryz.prog 21 #[.slice (some ⟨g, 0, none⟩) n c] w fun e w' => ∃ v, e = .returned v ∧ Ds w' v a ∧ Below w.heap.size w w' := by
  have h1 : Kd.V (Kd.int .i64) 3 w w.heap.size (fun _ => True) (.slice (some ⟨g, 0, none⟩) n c) (ld a n) := Kd.R_V h
  have h2 := Pquoted.spec_trim.calls 5000 (fun _ => True) (some ⟨g, 0, none⟩) c (ld a n) (dg a) w (by rw [ld_len]; exact h1) (by unfold Pquoted.spec_trim.f; exact Pquoted_trim n a 5000 (by omega) ha (by omega))
  rw [ld_len] at h2
  refine h2.mono ?_
  rintro e w' ⟨v, rfl, hv, hb⟩
  exact ⟨v, rfl, Ds.of_V hv, hb⟩
theorem Rw.cells {w : World} {B g n c : Nat} {l : List Int} (h : Rw w B (.slice (some ⟨g, 0, none⟩) n c) l) (i : Nat) (hi : i < n) : ∃ x : Int, l.getD i 0 = x ∧ w.cell? ⟨g, i, none⟩ = some (.int .i64 x) ∧ w.frozen? ⟨g, i, none⟩ = false := by
  obtain ⟨h1, h2⟩ := Kd.R_celln 0 h (i : Int) (by omega) (by omega)
  exact ⟨_, rfl, h1, h2⟩
theorem Ds.cells {w : World} {A : Option Addr} {n c a : Nat} (h : Ds w (.slice A n c) a) (i : Nat) (hi : i < n) : ∃ ad, A = some ad ∧ w.cell? (ad.add i) = some (.int .i64 ((a / 65536 ^ i % 65536 : Nat) : Int)) := by
  obtain ⟨A', c', e, hc, hr⟩ := h
  injection e with e1 e2 e3
  subst e1 e2 e3
  obtain ⟨ad, rfl, hcell⟩ := Kd.at_int hr (i : Int) (by omega) (by omega)
  rw [rd_dg] at hcell
  exact ⟨ad, rfl, hcell⟩

set_option maxRecDepth 100000 in
set_option maxHeartbeats 8000000 in
theorem shl_c {w : World} {v : Value} {a q r : Nat} (hr : r < 16) (hq : q ≤ 2000) (ha : dlen a ≤ 900) (h : Ds w v a) :
    Calls Tryz.prog 111 #[v, .int .i64 ((16 * q + r : Nat) : Int)] w fun e w' => ∃ u, e = .returned u ∧ Ds w' u (a * 2 ^ (16 * q + r)) ∧ Below w.heap.size w w' := by
  obtain ⟨A, c, rfl⟩ := h.form
  have HD : Hid (Ds w (.slice A (dlen a) c) a) := h
  clear h
  obtain ⟨m, hm⟩ : ∃ m : Nat, 16 * q + r = m := ⟨_, rfl⟩
  have d1 : (m : Int) / 16 = (q : Int) := by omega
  have d2 : (m : Int) % 16 = (r : Int) := by omega
  have h9 : m ≤ 100000 := by omega
  have HM : Hid (16 * q + r = m) := hm
  rw [hm]
  clear hm
  rcases Nat.eq_zero_or_pos a with h0 | h0
  · subst h0
    rw [dlen_zero] at HD ⊢
    go_enter Tryz.func111, Tryz.ntmps111
    go_wp2
    go_ret
    exact ⟨_, rfl, by rw [Nat.zero_mul]; exact HD.out, Below.refl _ _⟩
  · have hp := dlen_pos a h0
    obtain ⟨i3, hi3, hz0, hz1, hz2⟩ := info_parts inf3
    obtain ⟨n, hn⟩ : ∃ n, dlen a = n := ⟨_, rfl⟩
    have HN : Hid (dlen a = n) := hn
    rw [hn] at HD hp ha ⊢
    have z0 : ((n : Int) == 0) = false := by simp; omega
    clear hn h0
    go_enter Tryz.func111, Tryz.ntmps111
    go_wp2_with ((with_reducible refine gate_dst (N := 18) rfl ?_); refine wpList_make_full w rfl _ _ 28 rfl w.heap.size 3 i3 _ 1 Tryz.underlying28 hi3 hz0 hz1 .i64 .i64 _ _ (q + n + 1) rfl rfl (by omega) (by omega) (by rw [hz2]; omega) (by unfold maxLen; omega) (Nat.le_refl _) ?_; intro w1 ho hg; have HR : Hid (Rw w1 w.heap.size _ _) := Rw.of_full ho; have HG : Hid (w.grownBy w1 none) := hg; clear ho hg)
    have H1 : Hid (Rw w1 w.heap.size (.slice (some ⟨w.heap.size, 0, none⟩) (q + n + 1) (q + n + 1)) (ld 0 (q + n + 1))) := by
      have e : ld 0 (q + n + 1) = List.replicate (q + n + 1) 0 := by
        refine (ld_ext 0 _ _ (by simp) fun j hj => ?_).symm
        rw [List.getElem?_replicate, if_pos hj, Nat.zero_div]
        rfl
      show Rw _ _ _ _
      rw [e]
      exact HR.out
    have HB1 : Hid (Below w.heap.size w w1) := (Below.refl _ _).grown HG.out (Nat.le_refl _) (fun k hk => by cases hk)
    clear HR HG
    obtain ⟨s, hs⟩ : ∃ s : Nat, 2 ^ r = s := ⟨_, rfl⟩
    have hs0 : 0 < s := by rw [← hs]; exact Nat.two_pow_pos r
    have hs1 : s < 65536 := by rw [← hs]; exact Nat.lt_of_lt_of_le (Nat.pow_lt_pow_right (by decide) hr) (by decide)
    have HS : Hid (2 ^ r = s) := hs
    have HST : Hid (∃ t, s * t = 65536) := ⟨2 ^ (16 - r), by rw [← hs, ← Nat.pow_add, show r + (16 - r) = 16 from by omega]⟩
    clear hs
    go_loopg [21] (n + 1) (fun gk s21 wx => ∃ i : Nat, s21 = .int .i64 (i : Int) ∧ i ≤ n ∧ n < gk + i ∧ Hid (Rw wx w.heap.size (.slice (some ⟨w.heap.size, 0, none⟩) (q + n + 1) (q + n + 1)) (ld (a % 65536 ^ i * s * 65536 ^ q) (q + n + 1))) ∧ Hid (Below w.heap.size w wx))
    case atStart => exact ⟨0, rfl, Nat.zero_le _, by omega, by rw [Nat.pow_zero, Nat.mod_one, Nat.zero_mul, Nat.zero_mul]; exact H1, HB1⟩
    case round =>
      obtain ⟨i, rfl, hin, hgk, HR, HB⟩ := hrel
      by_cases hlt : i < n
      · obtain ⟨ad, rfl, hx⟩ := (HD.out.below HB.out).cells i hlt
        obtain ⟨o1, ho1, c1, f1⟩ := HR.out.cells (q + i) (by omega)
        obtain ⟨o2, _, c2, f2⟩ := HR.out.cells (q + i + 1) (by omega)
        have hxl := digit_lt a i
        obtain ⟨x, hxx⟩ : ∃ x : Nat, a / 65536 ^ i % 65536 = x := ⟨_, rfl⟩
        have HX : Hid (a / 65536 ^ i % 65536 = x) := hxx
        rw [hxx] at hx hxl
        have HO : Hid (o1 = ((a % 65536 ^ i * s * 65536 ^ q / 65536 ^ (q + i) % 65536 : Nat) : Int)) := by
          show o1 = _
          rw [← ho1, ld_getD _ _ _ (by omega)]
        have ob : 0 ≤ o1 ∧ o1 < 65536 := by
          rw [HO.out]
          have := digit_lt (a % 65536 ^ i * s * 65536 ^ q) (q + i)
          omega
        obtain ⟨ob1, ob2⟩ := ob
        have hxs : x * s < 65536 * 65536 := Nat.mul_lt_mul'' hxl hs1
        obtain ⟨y, hy⟩ : ∃ y : Nat, x * s = y := ⟨_, rfl⟩
        have HY : Hid (x * s = y) := hy
        have hsh : wrap64 ((x : Int) * 2 ^ r) = (y : Int) := by
          have e : (x : Int) * 2 ^ r = ((x * s : Nat) : Int) := by rw [← HS.out]; push_cast; rfl
          rw [e, hy, w64 _ (by omega) (by omega)]
        rw [hy] at hxs
        have p1 : (i : Int) < (n : Int) := by omega
        clear hxx ho1 hy
        obtain ⟨g', rfl⟩ : ∃ g', gk = g' + 1 := ⟨gk - 1, by omega⟩
        go_upto_region 8 with fail
        rw [hsh]
        clear hsh
        go_wp2_with fail
        go_roundg g'
        case measure => omega
        case rel =>
          refine ⟨i + 1, congrArg _ (by omega), by omega, by omega, ?_, (HB.out.setCell (Nat.le_refl _) _).setCell (Nat.le_refl _) _⟩
          obtain ⟨t, ht⟩ := HST.out
          have h1 := (HR.out.set (q + i) (o1 + (y : Int) % 65536)).set (q + i + 1) ((y : Int) / 65536)
          have h2 := shl_step a i s t q (q + n + 1) ht (by omega)
          rw [HX.out, HY.out, ← HO.out, Int.natCast_emod, Int.natCast_ediv] at h2
          show Rw _ _ _ _
          rw [← h2]
          exact h1
      · have hi : i = n := by omega
        subst hi
        go_wp2_with fail
        refine (trim_c HR.out ?_ (by omega)).mono ?_
        · rw [shl_end a s q i HN.out]
          have h1 : a < 65536 ^ i := by rw [← HN.out]; exact dlen_lt a
          rw [show q + i + 1 = i + q + 1 from by omega, Nat.pow_succ, Nat.pow_add]
          have h2 : a * s < 65536 ^ i * 65536 := Nat.mul_lt_mul'' h1 hs1
          calc a * s * 65536 ^ q < 65536 ^ i * 65536 * 65536 ^ q := Nat.mul_lt_mul_of_pos_right h2 (Nat.pow_pos (by decide))
            _ = 65536 ^ i * 65536 ^ q * 65536 := by ac_rfl
        rintro e w2 ⟨v2, rfl, hv2, hb2⟩
        rw [shl_end a s q i HN.out] at hv2
        have HV : Hid (Ds w2 v2 (a * s * 65536 ^ q)) := hv2
        have HB2 : Hid (Below w.heap.size w w2) := HB.out.trans (hb2.mono HB.out.size)
        clear hv2 hb2
        go_wp2_with fail
        go_ret
        refine ⟨_, rfl, ?_, HB2.out⟩
        rw [← HM.out, pow_split, HS.out, ← Nat.mul_assoc]
        exact HV.out
end Sp
end Go.Proofs.YtdpnoaaeplgdjaaGreatDoor
/-
  THE WALK OF package spec's DivMod, of every two numbers.
-/
namespace Go.Proofs.YtdpnoaaeplgdjaaGreatDoor
open Go.RowKit Go.Proofs.YtdpnoaaeplgdjaaGreatDoorW.PrintWords Go.Proofs.YtdpnoaaeplgdjaaGreatDoorW.PrintMore
namespace Sp
open Rg Dg

theorem shl_at {w : World} {v : Value} {a i : Nat} (hi : i ≤ 30000) (ha : dlen a ≤ 900) (h : Ds w v a) : Calls Tryz.prog 111 #[v, .int .i64 (i : Int)] w fun e w' => ∃ u, e = .returned u ∧ Ds w' u (a * 2 ^ i) ∧ Below w.heap.size w w' := by
  have h1 := shl_c (q := i / 16) (r := i % 16) (Nat.mod_lt _ (by decide)) (by omega) ha h
  rwa [Nat.div_add_mod] at h1
theorem bit_at {i : Nat} (hi : i ≤ 30000) (w : World) : Calls Tryz.prog 13 #[.int .i64 (i : Int)] w fun e w' => ∃ v, e = .returned v ∧ Ds w' v (2 ^ i) ∧ Below w.heap.size w w' := by
  have h1 := bit_c (i / 16) (i % 16) (Nat.mod_lt _ (by decide)) (by omega) w
  rwa [Nat.div_add_mod] at h1

theorem Ds.empty (w : World) (ad : Addr) : Ds w (.slice (some ad) 0 0) 0 :=
  ⟨some ad, 0, rfl, Nat.le_refl _, Kd.C_of_reads (d := (0 : Int)) (h1 := fun _ => rfl) ⟨rfl, by simp [dg_zero], fun hn => absurd hn (by simp [dg_zero])⟩⟩

set_option maxRecDepth 100000 in
set_option maxHeartbeats 8000000 in
theorem divMod_c {w : World} {v u : Value} {a b : Nat} (hb : 0 < b) (ha : dlen a ≤ 900) (hb9 : dlen b ≤ 900) (h1 : Ds w v a) (h2 : Ds w u b) :
    Calls Tryz.prog 42 #[v, u] w fun e w' => ∃ r r', e = .returned (.tuple #[r, r']) ∧ Ds w' r (a / b) ∧ Ds w' r' (a % b) ∧ Below w.heap.size w w' := by
  rcases Nat.lt_or_ge b 65536 with hsm | hbig
  · exact divMod_digit hb hsm ha h1 h2
  have hd : ¬ dlen b ≤ 1 := fun h => by
    have := (dlen_le_iff b 1).1 h
    rw [Nat.pow_one] at this
    omega
  have hbl := bl_dlen a
  have hbb := bl_dlen b
  have HST : Hid (a < b * 2 ^ (((bl a : Nat) : Int) - ((bl b : Nat) : Int) + 1).toNat) := div_start a b hb
  have HSM : Hid (∀ i : Nat, (i : Int) ≤ ((bl a : Nat) : Int) - ((bl b : Nat) : Int) → b * 2 ^ i < 65536 ^ dlen a) := fun i hi => div_small a b i hi
  obtain ⟨A, c, rfl⟩ := h1.form
  obtain ⟨B, d, rfl⟩ := h2.form
  have HA : Hid (Ds w (.slice A (dlen a) c) a) := h1
  have HB : Hid (Ds w (.slice B (dlen b) d) b) := h2
  have HAL : Hid (dlen a ≤ 900) := ha
  have HBL : Hid (dlen b ≤ 900) := hb9
  have HLT : Hid (a < 65536 ^ dlen a) := dlen_lt a
  have HDL : Hid (∀ x, x < 65536 ^ dlen a → dlen x ≤ 900) := fun x h => Nat.le_trans ((dlen_le_iff x _).2 h) ha
  obtain ⟨La, hLa⟩ : ∃ L : Nat, bl a = L := ⟨_, rfl⟩
  obtain ⟨Lb, hLb⟩ : ∃ L : Nat, bl b = L := ⟨_, rfl⟩
  have HLEN : Hid (∀ w' v', Ds w' v' a → Calls Tryz.prog 110 #[v'] w' fun e w'' => e = .returned (.int .i64 (La : Int)) ∧ Below w'.heap.size w' w'') := fun w' v' h => by rw [← hLa]; exact len_c ha h
  have HLENB : Hid (∀ w' v', Ds w' v' b → Calls Tryz.prog 110 #[v'] w' fun e w'' => e = .returned (.int .i64 (Lb : Int)) ∧ Below w'.heap.size w' w'') := fun w' v' h => by rw [← hLb]; exact len_c hb9 h
  rw [hLa, hLb] at HST HSM
  rw [hLa] at hbl
  rw [hLb] at hbb
  obtain ⟨na, hna⟩ : ∃ n, dlen a = n := ⟨_, rfl⟩
  obtain ⟨nb, hnb⟩ : ∃ n, dlen b = n := ⟨_, rfl⟩
  rw [hna] at HA hbl ha
  rw [hnb] at HB hd hbb hb9
  rw [hna, hnb]
  have l1 : La ≤ 14400 := by omega
  have l2 : Lb ≤ 14400 := by omega
  have z0 : ((nb : Int) == 1) = false := by simp; omega
  clear h1 h2 hna hnb hLa hLb hbl hbb hd hbig ha hb9
  go_enter Tryz.func42, Tryz.ntmps42
  go_wp2_with fail
  have hb0 : Below w.heap.size w (w.alloc (.cells #[] 3)) := (Below.refl _ _).alloc (Nat.le_refl _) _
  refine (HLEN.out _ _ (HA.out.below hb0)).mono ?_
  rintro e w1 ⟨rfl, hb1⟩
  replace hb1 : Below w.heap.size w w1 := hb0.trans (hb1.mono hb0.size)
  clear hb0
  go_wp2_with fail
  refine (HLENB.out _ _ (HB.out.below hb1)).mono ?_
  rintro e w2 ⟨rfl, hb2⟩
  replace hb2 : Below w.heap.size w w2 := hb1.trans (hb2.mono hb1.size)
  have HB2 : Hid (Below w.heap.size w w2) := hb2
  clear hb1 hb2
  go_wp2_with fail
  go_loopg [0, 8, 9] (((La : Int) - (Lb : Int) + 1).toNat + 1) (fun gk s0 s8 s9 wx => ∃ (I : Int) (x y : Nat), s9 = .int .i64 I ∧ I ≤ (La : Int) - (Lb : Int) ∧ -14401 ≤ I ∧ (I + 1).toNat < gk ∧ Hid (Ds wx s0 x) ∧ Hid (Ds wx s8 y) ∧ Hid (y * b + x = a) ∧ Hid (x < b * 2 ^ (I + 1).toNat) ∧ Hid (Below w.heap.size w wx))
  case atStart => exact ⟨_, a, 0, rfl, Int.le_refl _, by omega, by omega, HA.out.below HB2.out, Ds.empty _ _, (by rw [Nat.zero_mul, Nat.zero_add] : 0 * b + a = a), HST.out, HB2⟩
  case round =>
    obtain ⟨I, x, y, rfl, hI, hI2, hgk, HX, HY, HE, HL, HW⟩ := hrel
    by_cases hlt : 0 ≤ I
    · obtain ⟨i, rfl⟩ := Int.eq_ofNat_of_zero_le hlt
      have HSH : Hid (b * 2 ^ i < 65536 ^ dlen a) := HSM.out i hI
      have HXA : Hid (x < 65536 ^ dlen a) := Nat.lt_of_le_of_lt (by have := HE.out; omega) HLT.out
      obtain ⟨g', rfl⟩ : ∃ g', gk = g' + 1 := ⟨gk - 1, by omega⟩
      go_wp2_with fail
      refine (shl_at (by omega) HBL.out (HB.out.below HW.out)).mono ?_
      rintro e w3 ⟨D, rfl, hD, hb3⟩
      have HD : Hid (Ds w3 D (b * 2 ^ i)) := hD
      have HB3 : Hid (Below wr.heap.size wr w3) := hb3
      clear hD hb3
      go_wp2_with fail
      refine (cmp_c (HDL.out _ HSH.out) HD.out (HX.out.below HB3.out)).mono ?_
      rintro e w4 ⟨rfl, hb4⟩
      have HB4 : Hid (Below wr.heap.size wr w4) := HB3.out.trans (hb4.mono HB3.out.size)
      have HD4 : Hid (Ds w4 D (b * 2 ^ i)) := HD.out.below hb4
      clear hb4
      obtain ⟨K, hK⟩ : ∃ K, cmpN (b * 2 ^ i) x = K := ⟨_, rfl⟩
      rw [hK]
      by_cases hc : b * 2 ^ i ≤ x
      · have hK0 : K ≤ 0 := by rw [← hK]; unfold cmpN; split <;> (try split) <;> omega
        have HC : Hid (b * 2 ^ i ≤ x) := hc
        clear hK hc
        go_wp2_with fail
        refine (sub_c HC.out (HDL.out _ HXA.out) (HX.out.below HB4.out) HD4.out).mono ?_
        rintro e w5 ⟨X', rfl, hx', hb5⟩
        have HB5 : Hid (Below wr.heap.size wr w5) := HB4.out.trans (hb5.mono HB4.out.size)
        have HX5 : Hid (Ds w5 X' (x - b * 2 ^ i)) := hx'
        clear hx' hb5
        go_wp2_with fail
        refine (bit_at (by omega) _).mono ?_
        rintro e w6 ⟨T, rfl, ht, hb6⟩
        have HB6 : Hid (Below wr.heap.size wr w6) := HB5.out.trans (hb6.mono HB5.out.size)
        have HX6 : Hid (Ds w6 X' (x - b * 2 ^ i)) := HX5.out.below hb6
        have HT6 : Hid (Ds w6 T (2 ^ i)) := ht
        have HYL : Hid (dlen y ≤ 900 ∧ dlen (2 ^ i) ≤ 900) := by
          refine ⟨HDL.out _ (Nat.lt_of_le_of_lt ?_ HLT.out), HDL.out _ (Nat.lt_of_le_of_lt ?_ HSH.out)⟩
          · have h9 := HE.out
            have h8 : y * 1 ≤ y * b := Nat.mul_le_mul_left y hb
            omega
          · have h8 : 1 * 2 ^ i ≤ b * 2 ^ i := Nat.mul_le_mul_right _ hb
            omega
        clear ht hb6
        go_wp2_with fail
        refine (add_c HYL.out.1 HYL.out.2 (HY.out.below HB6.out) HT6.out).mono ?_
        rintro e w7 ⟨Y', rfl, hy', hb7⟩
        have HB7 : Hid (Below wr.heap.size wr w7) := HB6.out.trans (hb7.mono HB6.out.size)
        have HX7 : Hid (Ds w7 X' (x - b * 2 ^ i)) := HX6.out.below hb7
        have HY7 : Hid (Ds w7 Y' (y + 2 ^ i)) := hy'
        clear hy' hb7
        go_wp2_with fail
        go_roundg g'
        case measure => omega
        case rel =>
          have hy := div_yes a b x y i HE.out (by have := HL.out; rwa [show ((i : Int) + 1).toNat = i + 1 from by omega] at this) HC.out
          exact ⟨(i : Int) - 1, x - b * 2 ^ i, y + 2 ^ i, rfl, by omega, by omega, by omega, HX7, HY7, hy.1, (by rw [show ((i : Int) - 1 + 1).toNat = i from by omega]; exact hy.2 : x - b * 2 ^ i < b * 2 ^ ((i : Int) - 1 + 1).toNat), HW.out.trans (HB7.out.mono HW.out.size)⟩
      · have hK0 : ¬ K ≤ 0 := by rw [← hK]; unfold cmpN; rw [if_neg (by omega), if_pos (by omega)]; decide
        have HC : Hid (x < b * 2 ^ i) := Nat.lt_of_not_le hc
        clear hK hc
        go_wp2_with fail
        go_roundg g'
        case measure => omega
        case rel =>
          exact ⟨(i : Int) - 1, x, y, rfl, by omega, by omega, by omega, HX.out.below HB4.out, HY.out.below HB4.out, HE.out, (by rw [show ((i : Int) - 1 + 1).toNat = i from by omega]; exact HC.out : x < b * 2 ^ ((i : Int) - 1 + 1).toNat), HW.out.trans (HB4.out.mono HW.out.size)⟩
    · have HF : Hid (y = a / b ∧ x = a % b) := div_end a b x y HE.out (by have := HL.out; rwa [show (I + 1).toNat = 0 from by omega, Nat.pow_zero, Nat.mul_one] at this)
      go_wp2_with fail
      go_ret2
      exact ⟨_, _, rfl, by rw [← HF.out.1]; exact HY.out, by rw [← HF.out.2]; exact HX.out, HW.out⟩
end Sp
end Go.Proofs.YtdpnoaaeplgdjaaGreatDoor
