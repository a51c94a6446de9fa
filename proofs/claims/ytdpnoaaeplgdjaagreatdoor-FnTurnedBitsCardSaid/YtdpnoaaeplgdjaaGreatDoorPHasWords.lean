-- PRINTED BY print.sh 35421559b90ae4d0a3588c463048766b98c2df88dd9212a6774a882060cdf62d: not written by this session
import Derived.Test.YtdpnoaaeplgdjaaGreatDoorProg
import Derived.Below
import Derived.Deep.Draws
import Derived.Deep.AppendLies
import Derived.Maps.AppendAt
import Derived.OwnWalk
import Derived.Laws.BytesArg
import Derived.Laws.MakeOwn
import Derived.Laws.OwnMore
import Derived.Deep.OwnRows
import Derived.Tactics
import Derived.Lib.ConvBytes
import Derived.Laws.Slices
import Derived.WalkKit
import Derived.KernelRfl
import Derived.RowKit3
import Derived.Deep.LoopGhost
import Derived.Deep.QuietTactic
import Derived.BigQuiet
import Derived.WideLaws
import Derived.Deep.DeepCutAuto
import Derived.Deep.CutBlock
import Derived.Deep.RegionHeld3
import Derived.Laws.Rows
import Derived.Lib.AppendStr
import Derived.ArgAppend
import Derived.Laws.IdiomCopy
import Derived.OrdersHeld
import Derived.Laws.BitsLemmas
import Derived.RowKit
import Derived.Test.YtdpnoaaeplgdjaaGreatDoorWWords
import Derived.Test.YtdpnoaaeplgdjaaGreatDoorW2
import Derived.Test.YtdpnoaaeplgdjaaGreatDoorW3
namespace Go.Proofs.YtdpnoaaeplgdjaaGreatDoor.PHasWords
open Go.RowKit Go.Proofs.YtdpnoaaeplgdjaaGreatDoorW.PrintWords Go.Proofs.YtdpnoaaeplgdjaaGreatDoorW.PrintLast Go.Proofs.YtdpnoaaeplgdjaaGreatDoorW.PrintMore
attribute [local go_sem] max2_int min2_int max_two min_two max_three min_three max_four min_four   -- for this text's walks alone
set_option linter.unusedVariables false
set_option linter.unusedSimpArgs false



def errW : Option Int → Value
  | none => .nilIface
  | some c => .iface 0 (.int .i64 c)
theorem errW_none : errW none = .nilIface := rfl
theorem errW_some (c : Int) : errW (some c) = .iface 0 (.int .i64 c) := rfl

theorem info43 : (Tryz.prog.info? 43).map (fun i => (i.zero, i.size, i.bytes)) = some (some (.int .u64 0), 1, 8) := by kernel_rfl
-- the values' own types

end Go.Proofs.YtdpnoaaeplgdjaaGreatDoor.PHasWords
-- PRINTED BY print.sh 35421559b90ae4d0a3588c463048766b98c2df88dd9212a6774a882060cdf62d: not written by this session
namespace Go.Proofs.YtdpnoaaeplgdjaaGreatDoor.PHasWords
open Go.RowKit Go.Proofs.YtdpnoaaeplgdjaaGreatDoorW.PrintWords Go.Proofs.YtdpnoaaeplgdjaaGreatDoorW.PrintLast Go.Proofs.YtdpnoaaeplgdjaaGreatDoorW.PrintMore
attribute [local go_sem] max2_int min2_int max_two min_two max_three min_three max_four min_four   -- for this text's walks alone
set_option linter.unusedVariables false
set_option linter.unusedSimpArgs false

/-! ### spec_Words: function 179 -/
def spec_Words.l0 : Nat → List Int → List Int → Int → Int → Option (List Int)
  | 0, _, _, _, _ => none
  | k + 1, x3, x7, x8, x9 => if x9 < x8 then (if 0 ≤ x9 then (if x9 < (x7.length : Int) then (if (Int.tmod x9 4) = 0 then (if x3.length < 17592186044416 then ((some (x3 ++ [0] : List Int)).bind fun y105 => (if 0 ≤ (wrap64 (Int.tdiv x9 4)) then (if (wrap64 (Int.tdiv x9 4)) < (y105.length : Int) then (if 0 ≤ (wrap64 (16 * (Int.tmod x9 4))) then (spec_Words.l0 k (y105.set ((wrap64 (Int.tdiv x9 4)) : Int).toNat (Go.bits .or .u64 (rd y105 (wrap64 (Int.tdiv x9 4))) (shl .u64 (IntKind.u64.wrap (rd x7 x9)) (wrap64 (16 * (Int.tmod x9 4)))))) x7 x8 (wrap64 (x9 + 1))) else (none)) else (none)) else (none))) else (none)) else (if 0 ≤ (wrap64 (Int.tdiv x9 4)) then (if (wrap64 (Int.tdiv x9 4)) < (x3.length : Int) then (if 0 ≤ (wrap64 (16 * (Int.tmod x9 4))) then (spec_Words.l0 k (x3.set ((wrap64 (Int.tdiv x9 4)) : Int).toNat (Go.bits .or .u64 (rd x3 (wrap64 (Int.tdiv x9 4))) (shl .u64 (IntKind.u64.wrap (rd x7 x9)) (wrap64 (16 * (Int.tmod x9 4)))))) x7 x8 (wrap64 (x9 + 1))) else (none)) else (none)) else (none))) else (none)) else (none)) else (some x3)
def spec_Words.f (k : Nat) (l0 : List Int) : Option (List Int) := spec_Words.l0 k (([] : List Int)) l0 (l0.length : Int) 0
theorem spec_Words.mono_l : ∀ k, (∀ y0 y1 y2 y3, LeO (spec_Words.l0 k y0 y1 y2 y3) (spec_Words.l0 (k + 1) y0 y1 y2 y3))
  | 0 => fun _ _ _ _ r h => by simp [spec_Words.l0] at h
  | k + 1 => by
    have ih0 := spec_Words.mono_l k
    · intro y0 y1 y2 y3
      unfold spec_Words.l0
      repeat' first
      | (with_reducible exact ih0 _ _ _ _)
      | (with_reducible exact LeO.refl _)
      | (with_reducible exact LeO.none _)
      | (with_reducible refine LeO.ite ?_ ?_)
      | (with_reducible refine LeO.bind ?_ (fun _ => ?_))
      | exact ih0 _ _ _ _
      | exact LeO.none _
      | refine LeO.ite ?_ ?_
      | refine LeO.bind ?_ (fun _ => ?_)
theorem spec_Words.mono : ∀ a0 k, LeO (spec_Words.f k a0) (spec_Words.f (k + 1) a0) := by
  intro a0 k
  have ih0 := spec_Words.mono_l k
  unfold spec_Words.f
  repeat' first
      | (with_reducible exact ih0 _ _ _ _)
      | (with_reducible exact LeO.refl _)
      | (with_reducible exact LeO.none _)
      | (with_reducible refine LeO.ite ?_ ?_)
      | (with_reducible refine LeO.bind ?_ (fun _ => ?_))
      | exact ih0 _ _ _ _
      | exact LeO.none _
      | refine LeO.ite ?_ ?_
      | refine LeO.bind ?_ (fun _ => ?_)
def spec_Words.T7 : Bool × List (List Nat × List Nat) := (true, [([], []), ([], []), ([1], [1]), ([0, 2], [0, 2]), ([3], [3]), ([], []), ([5], [5]), ([], []), ([7], [7]), ([8], [8]), ([6, 9], [6, 9]), ([4, 10], [4, 10]), ([0, 2, 0, 1, 2, 3, 4, 5, 6, 7, 8, 9, 10, 11], [0, 2]), ([12, 11, 0, 1, 2, 3, 4, 5, 6, 7, 8, 9, 10, 11], [11, 12])])
def spec_Words.B7 : List Nat := [0, 0, 2, 7, 15, 0, 32, 0, 128, 384, 992, 2047, 4095, 8191]
theorem spec_Words.tab7 : rtab .any (opsOf Tryz.f179 7) = spec_Words.T7 := by kernel_rfl
theorem spec_Words.bits7 : waitsOk spec_Words.T7.2 spec_Words.B7 = true := by kernel_rfl
set_option maxHeartbeats 8000000 in
set_option maxRecDepth 100000 in
theorem spec_Words.calls (k : Nat) (A0 : Option Addr) (c0 : Nat) (l0 : List Int) (r : List Int) (w : World) (hr0 : Kd.C (Kd.int .i64) w A0 l0.length l0) (hc0 : l0.length ≤ c0) (h : spec_Words.f k l0 = some r) :
    Calls Tryz.prog 179 #[.slice A0 l0.length c0] w fun e w' => ∃ v0_ : Value, e = .returned (v0_) ∧ Kd.R (Kd.int .u64) 43 w' w.heap.size (fun _ => True) v0_ r ∧ Below w.heap.size w w' := by
  have HR0 := Aside0.mk hr0
  have HC0 := Aside0.mk hc0
  clear hr0 hc0
  have HB := Aside0.mk (Below.refl w.heap.size w)
  have H : (spec_Words.l0 k (([] : List Int)) l0 (l0.length : Int) 0) = some r := h
  clear h
  obtain ⟨y101, hy101⟩ : ∃ y_ : List Int, y_ = (([] : List Int)) := ⟨_, rfl⟩
  replace H : (spec_Words.l0 k y101 l0 (l0.length : Int) 0) = some r := by first | (rw [hy101]; with_reducible exact H) | (have H2_ := (Option.bind_some _ _).symm.trans H; rw [hy101]; with_reducible exact H2_) | (have H2_ := (Option.bind_some _ _).symm.trans H; with_reducible exact H2_) | with_reducible exact H | (rw [hy101]; exact H) | exact H
  have Ny101 := Aside0.mk hy101
  clear hy101
  have H' := Aside0.mk H
  clear H
  go_enter Tryz.func179, Tryz.ntmps179
  go_wp2_with (first | ((with_reducible refine gate_dst (N := 6) rfl ?_); refine Kd.R_lit (Kd.int .u64) _ 43 ?hg (N := 6) ?hd (xs := ([] : List Int)) (inner := []) (ok := fun _ => True) (okp := fun _ => True) ?hr ?hp (fun _ hk => hk) trivial (Below.refl _ _) (Nat.le_refl _) (by simp) ?_; (case hd => rfl); (case hg => rfl); (case hr => first | (go_simp; done) | (go_simp; rfl)); (case hp => exact (Reps.none _ _)); intro v102 w2 ho3 hb hg_ hnew_; clear hg_ hnew_; (first | rw [← Ny101.out] at ho3 | (simp only [Int.reduceToNat] at ho3; rw [← Ny101.out] at ho3)); have n0_ := Aside0.mk (Kd.R_lower ho3 (below_size (by repeat (first | (with_reducible first | exact HB.out | apply below_alloc | apply pw_below_drewN | apply below_drew1) | exact HB.out)))); have n1_ := Aside0.mk (below_step (by repeat (first | (with_reducible first | exact HB.out | apply below_alloc | apply pw_below_drewN | apply below_drew1) | exact HB.out)) hb); clear HB; have HO103 := n0_; have HB := n1_; clear n0_ n1_; clear hb ho3))
  go_loopg [3, 9] k (fun kq v3 v9 w' => ∃ (x3_1 : List Int) (x9_1 : Int), v9 = .int .i64 x9_1 ∧ Aside0 (spec_Words.l0 kq x3_1 l0 (l0.length : Int) x9_1 = some r) ∧ Aside0 (kq ≤ k) ∧ Aside0 (Kd.R (Kd.int .u64) 43 w' w.heap.size (fun _ => True) v3 x3_1) ∧ Aside0 (Below w.heap.size w w'))
  case atStart => exact ⟨(y101), (0), (by first | rfl | (simp; done) | (simp [*]; done)), H', ⟨Nat.le_refl _⟩, ⟨by (with_reducible repeat (first | apply Kd.R_alloc | apply Kd.R_drewN | apply Kd.R_drew)); exact HO103.out⟩, ⟨by repeat (first | (with_reducible first | exact HB.out | apply below_alloc | apply pw_below_drewN | apply below_drew1) | exact HB.out)⟩⟩
  case round =>
    clear H'
    try clear c1
    try clear p2
    obtain ⟨x3_1, x9_1, rfl, HA, HK1, HO_3, HB⟩ := hrel
    cases gk with
    | zero => exact absurd HA.out (by simp [spec_Words.l0])
    | succ k1 =>
      have H := HA.out
      clear HA
      simp only [spec_Words.l0] at H
      by_cases c4 : x9_1 < (l0.length : Int)
      · rw [if_pos c4] at H
        have c4b0 : decide (x9_1 < (l0.length : Int)) = true := decide_eq_true c4
        clear c4
        by_cases c5 : 0 ≤ x9_1
        · rw [if_pos c5] at H
          have c5b0 : decide (0 ≤ x9_1) = true := decide_eq_true c5
          clear c5
          by_cases c6 : x9_1 < (l0.length : Int)
          · rw [if_pos c6] at H
            have c6b0 : decide (x9_1 < (l0.length : Int)) = true := decide_eq_true c6
            clear c6
            by_cases c7 : (Int.tmod x9_1 4) = 0
            · rw [if_pos c7] at H
              have c7b0 : ((Int.tmod x9_1 4) == 0) = true := beq_iff_eq.mpr c7
              have c7b1 : ((Int.tmod x9_1 4) != 0) = false := bne_eq_false_iff_eq.mpr c7
              clear c7
              by_cases c8 : x3_1.length < 17592186044416
              · rw [if_pos c8] at H
                have LMc8 := Aside0.mk c8
                clear c8
                obtain ⟨y105, hy105⟩ : ∃ y_ : List Int, y_ = (x3_1 ++ [0]) := ⟨_, rfl⟩
                replace H : (if 0 ≤ (wrap64 (Int.tdiv x9_1 4)) then (if (wrap64 (Int.tdiv x9_1 4)) < (y105.length : Int) then (if 0 ≤ (wrap64 (16 * (Int.tmod x9_1 4))) then (spec_Words.l0 k1 (y105.set ((wrap64 (Int.tdiv x9_1 4)) : Int).toNat (Go.bits .or .u64 (rd y105 (wrap64 (Int.tdiv x9_1 4))) (shl .u64 (IntKind.u64.wrap (rd l0 x9_1)) (wrap64 (16 * (Int.tmod x9_1 4)))))) l0 (l0.length : Int) (wrap64 (x9_1 + 1))) else (none)) else (none)) else (none)) = some r := by first | (rw [hy105]; with_reducible exact H) | (have H2_ := (Option.bind_some _ _).symm.trans H; rw [hy105]; with_reducible exact H2_) | (have H2_ := (Option.bind_some _ _).symm.trans H; with_reducible exact H2_) | with_reducible exact H | (rw [hy105]; exact H) | exact H
                have Ny105 := Aside0.mk hy105
                clear hy105
                obtain ⟨ji9, hji9⟩ : ∃ j_ : Int, (wrap64 (Int.tdiv x9_1 4)) = j_ := ⟨_, rfl⟩
                replace H : (if 0 ≤ (ji9) then (if (ji9) < (y105.length : Int) then (if 0 ≤ (wrap64 (16 * (Int.tmod x9_1 4))) then (spec_Words.l0 k1 (y105.set ((ji9) : Int).toNat (Go.bits .or .u64 (rd y105 (ji9)) (shl .u64 (IntKind.u64.wrap (rd l0 x9_1)) (wrap64 (16 * (Int.tmod x9_1 4)))))) l0 (l0.length : Int) (wrap64 (x9_1 + 1))) else (none)) else (none)) else (none)) = some r := by first | (rw [hji9] at H; exact H) | (simp only [hji9] at H ⊢; exact H)
                have hji9w : (IntKind.i64.wrap (Int.tdiv x9_1 4)) = ji9 := (i64_w _).trans hji9
                by_cases c10 : 0 ≤ (ji9)
                · rw [if_pos c10] at H
                  have c10b0 : decide (0 ≤ (ji9)) = true := decide_eq_true c10
                  clear c10
                  by_cases c11 : (ji9) < (y105.length : Int)
                  · rw [if_pos c11] at H
                    have c11b0 : decide ((ji9) < (y105.length : Int)) = true := decide_eq_true c11
                    clear c11
                    obtain ⟨ji12, hji12⟩ : ∃ j_ : Int, (wrap64 (16 * (Int.tmod x9_1 4))) = j_ := ⟨_, rfl⟩
                    replace H : (if 0 ≤ (ji12) then (spec_Words.l0 k1 (y105.set ((ji9) : Int).toNat (Go.bits .or .u64 (rd y105 (ji9)) (shl .u64 (IntKind.u64.wrap (rd l0 x9_1)) (ji12)))) l0 (l0.length : Int) (wrap64 (x9_1 + 1))) else (none)) = some r := by first | (rw [hji12] at H; exact H) | (simp only [hji12] at H ⊢; exact H)
                    have hji12w : (IntKind.i64.wrap (16 * (Int.tmod x9_1 4))) = ji12 := (i64_w _).trans hji12
                    by_cases c13 : 0 ≤ (ji12)
                    · rw [if_pos c13] at H
                      have c13b0 := eq_true c13
                      have c13b1 : decide (0 ≤ (ji12)) = true := decide_eq_true c13
                      clear c13
                      obtain ⟨ji14, hji14⟩ : ∃ j_ : Int, (shl .u64 (IntKind.u64.wrap (rd l0 x9_1)) (ji12)) = j_ := ⟨_, rfl⟩
                      replace H : (spec_Words.l0 k1 (y105.set ((ji9) : Int).toNat (Go.bits .or .u64 (rd y105 (ji9)) (ji14))) l0 (l0.length : Int) (wrap64 (x9_1 + 1))) = some r := by first | (rw [hji14] at H; exact H) | (simp only [hji14] at H ⊢; exact H)
                      have hji14_ : (IntKind.u64.wrap ((IntKind.u64.wrap (rd l0 x9_1)) * 2 ^ min (ji12).toNat 64)) = ji14 := hji14
                      have hji14z : (ji12) ≤ 64 → (IntKind.u64.wrap ((IntKind.u64.wrap (rd l0 x9_1)) * 2 ^ (ji12).toNat)) = ji14 := shl_small hji14
                      obtain ⟨y109, hy109⟩ : ∃ y_ : List Int, y_ = (y105.set ((ji9) : Int).toNat (Go.bits .or .u64 (rd y105 (ji9)) (ji14))) := ⟨_, rfl⟩
                      replace H : (spec_Words.l0 k1 y109 l0 (l0.length : Int) (wrap64 (x9_1 + 1))) = some r := by first | (rw [hy109]; with_reducible exact H) | (have H2_ := (Option.bind_some _ _).symm.trans H; rw [hy109]; with_reducible exact H2_) | (have H2_ := (Option.bind_some _ _).symm.trans H; with_reducible exact H2_) | with_reducible exact H | (rw [hy109]; exact H) | exact H
                      have Ny109 := Aside0.mk hy109
                      clear hy109
                      have H' := Aside0.mk H
                      clear H
                      have p104 : 0 ≤ (x9_1 : Int) := of_decide_eq_true (by first | (with_reducible assumption) | assumption)
                      have q104 : x9_1 < (l0.length : Int) := of_decide_eq_true (by first | (with_reducible assumption) | assumption)
                      obtain ⟨ad104, e104, hx104_0⟩ := Kd.at_int HR0.out x9_1 p104 q104
                      cases e104
                      replace hx104_0 := (HB.out.cell (World.block_lt_of_cell? w _ hx104_0)).trans hx104_0
                      replace p104 := eq_true p104
                      replace q104 := eq_true q104
                      try go_wp2_with (first | ((with_reducible refine gate_builtin (b := .append) (xs := #[.tmp 17, .tmp 18]) rfl ?_); at_builtin; refine Kd.R_append (Kd.int .u64) (w0 := w) w.heap.size rfl (.tmp 17) (.tmp 18) 22 43 (.int .u64 0) 8 rfl Tryz.underlying22 info43 rfl (by decide) (by omega) u3 x3_1 0 [.int .u64 0] (fun _ => True) (fun _ => False) rfl rfl ?aP (fun _ hk => hk.elim) ?aF ?aO ?aB ?aS ?aL ?_; (case aP => exact rfl); (case aB => exact (by repeat (first | (with_reducible first | exact HB.out | apply below_alloc | apply pw_below_drewN | apply below_drew1) | exact HB.out))); (case aF => exact (fun _ _ => trivial)); (case aO => exact (by (with_reducible repeat (first | apply Kd.R_alloc | apply Kd.R_drewN | apply Kd.R_drew)); exact HO_3.out)); (case aS => exact (below_size (by repeat (first | (with_reducible first | exact HB.out | apply below_alloc | apply pw_below_drewN | apply below_drew1) | exact HB.out)))); (case aL => have := LMc8.out; omega); intro v106 w16 ho hb hg hat; rw [← Ny105.out] at ho; have n0_ := Aside0.mk (hb); have n1_ := Aside0.mk (ho); clear HB; clear HO_3; have HB := n0_; have HO107 := n1_; clear n0_ n1_; clear ho hb hg hat))
                      have n0_ := Aside0.mk (Kd.R_drew HO107.out)
                      have n1_ := Aside0.mk (below_drew1 HB.out)
                      clear HO107
                      clear HB
                      have HO107 := n0_
                      have HB := n1_
                      clear n0_ n1_
                      obtain ⟨Ao18, co18, eo18⟩ := Kd.R_slice HO107.out
                      (first | subst eo18 | (injection eo18 with f1_ f2_ f3_; have f4_ := f1_.symm; have f5_ := f3_.symm; clear f1_ f2_ f3_; subst f4_; subst f5_))
                      have p108 : 0 ≤ ((ji9) : Int) := of_decide_eq_true (by first | (with_reducible assumption) | assumption)
                      have q108 : (ji9) < (y105.length : Int) := of_decide_eq_true (by first | (with_reducible assumption) | assumption)
                      obtain ⟨ad108, e108, hx108_0⟩ := Kd.at_int (Kd.R_reads' HO107.out).2.2 (ji9) p108 q108
                      cases e108
                      replace p108 := eq_true p108
                      replace q108 := eq_true q108
                      have p15 : 0 ≤ ((ji9) : Int) := of_decide_eq_true (by first | (with_reducible assumption) | assumption)
                      have q15 : ((ji9) : Int) < ((y105.length : Int) : Int) := of_decide_eq_true (by first | (with_reducible assumption) | assumption)
                      obtain ⟨go15, co15, eo15, gb15, gl15, cl15, HG15⟩ := Kd.R_form HO107.out (by omega)
                      (first | cases eo15 | (injection eo15 with ea_ en_ ec_; (first | subst ea_ | (injection ea_ with ea_; subst ea_)); subst ec_; clear en_))
                      have GB15 := Aside0.mk gb15
                      have GG15 := Aside0.mk HG15
                      clear gb15 gl15 HG15
                      (first | simp only [add_plain] at hx108_0 | skip)
                      obtain ⟨hx15_0, hf15_0⟩ := Kd.R_celln 0 HO107.out ((ji9) : Int) p15 q15
                      replace p15 := eq_true p15
                      replace q15 := eq_true q15
                      have HP19 := Kd.R_putn HO107.out ((ji9) : Int) (Go.bits .or .u64 (rd y105 (ji9)) (ji14))
                      rw [← Ny109.out] at HP19
                      have HQ19 := Aside0.mk HP19
                      clear HP19
                      refine start_ (n := 14) (S := fun w' => w'.cell? ⟨go15, ((ji9)).toNat, none⟩ = some (.int .u64 (rd y105 (ji9)))) (ds := [13]) #[false, false, false, false, false, false, false, false, false, false, false, false, false, false] (by kernel_rfl) rfl rfl (hx108_0) (fun hHeld => ?_); refine with_tabW spec_Words.tab7 spec_Words.bits7 (fun HT_ HW_ => ?_)
                      generalize w16.drew = w17 at HO107 HB GG15 HQ19 hf15_0 hx108_0 hx15_0 hHeld ⊢
                      refine pure_ (i := 0) (N := some 20) (v := ?_) (a' := ?_) #[true, false, false, false, false, false, false, false, false, false, false, false, false, false] rfl rfl (any_of HT_.out (by kernel_rfl)) (fun _ _ _ h => h) (Or.inl ⟨by rfl, ?_⟩) ?_ ?_
                      rotate_left
                      · intro w'
                        go_simp
                        with_reducible rfl
                      rotate_left
                      · simp only [Act.put, List.setIfInBounds_toArray, List.set_cons_zero, List.set_cons_succ, i64_w, i32_w]
                        rfl
                      refine pure_ (i := 1) (N := some 21) (v := ?_) (a' := ?_) #[true, true, false, false, false, false, false, false, false, false, false, false, false, false] rfl rfl (any_of HT_.out (by kernel_rfl)) (fun _ _ _ h => h) (Or.inl ⟨by rfl, ?_⟩) ?_ ?_
                      rotate_left
                      · intro w'
                        go_simp
                        with_reducible rfl
                      rotate_left
                      · simp only [Act.put, List.setIfInBounds_toArray, List.set_cons_zero, List.set_cons_succ, i64_w, i32_w]
                        rfl
                      refine pure_ (i := 2) (N := some 22) (v := ?_) (a' := ?_) #[true, true, true, false, false, false, false, false, false, false, false, false, false, false] rfl rfl (any_of HT_.out (by kernel_rfl)) (fun _ _ _ h => h) (Or.inl ⟨by rfl, ?_⟩) ?_ ?_
                      rotate_left
                      · intro w'
                        go_simp
                        with_reducible rfl
                      rotate_left
                      · simp only [Act.put, List.setIfInBounds_toArray, List.set_cons_zero, List.set_cons_succ, i64_w, i32_w]
                        rfl
                      refine pure_ (i := 3) (N := some 23) (v := ?_) (a' := ?_) #[true, true, true, true, false, false, false, false, false, false, false, false, false, false] rfl rfl (any_of HT_.out (by kernel_rfl)) (fun _ _ _ h => h) (Or.inl ⟨by rfl, ?_⟩) ?_ ?_
                      rotate_left
                      · intro w'
                        go_simp
                        with_reducible rfl
                      rotate_left
                      · simp only [Act.put, List.setIfInBounds_toArray, List.set_cons_zero, List.set_cons_succ, i64_w, i32_w]
                        rfl
                      refine pure_ (i := 5) (N := some 25) (v := ?_) (a' := ?_) #[true, true, true, true, false, true, false, false, false, false, false, false, false, false] rfl rfl (any_of HT_.out (by kernel_rfl)) (fun _ _ _ h => h) (Or.inl ⟨by rfl, ?_⟩) ?_ ?_
                      rotate_left
                      · intro w'
                        go_simp
                        with_reducible rfl
                      rotate_left
                      · simp only [Act.put, List.setIfInBounds_toArray, List.set_cons_zero, List.set_cons_succ, i64_w, i32_w]
                        rfl
                      refine pure_ (i := 6) (N := some 26) (v := ?_) (a' := ?_) #[true, true, true, true, false, true, true, false, false, false, false, false, false, false] rfl rfl (any_of HT_.out (by kernel_rfl)) (fun _ _ _ h => h) (Or.inl ⟨by rfl, ?_⟩) ?_ ?_
                      rotate_left
                      · intro w'
                        go_simp
                        with_reducible rfl
                      rotate_left
                      · simp only [Act.put, List.setIfInBounds_toArray, List.set_cons_zero, List.set_cons_succ, i64_w, i32_w]
                        rfl
                      refine pure_ (i := 7) (N := some 27) (v := ?_) (a' := ?_) #[true, true, true, true, false, true, true, true, false, false, false, false, false, false] rfl rfl (any_of HT_.out (by kernel_rfl)) (fun _ _ _ h => h) (Or.inl ⟨by rfl, ?_⟩) ?_ ?_
                      rotate_left
                      · intro w'
                        go_simp
                        with_reducible rfl
                      rotate_left
                      · simp only [Act.put, List.setIfInBounds_toArray, List.set_cons_zero, List.set_cons_succ, i64_w, i32_w]
                        rfl
                      refine pure_ (i := 8) (N := some 28) (v := ?_) (a' := ?_) #[true, true, true, true, false, true, true, true, true, false, false, false, false, false] rfl rfl (any_of HT_.out (by kernel_rfl)) (fun _ _ _ h => h) (Or.inl ⟨by rfl, ?_⟩) ?_ ?_
                      rotate_left
                      · intro w'
                        go_simp
                        with_reducible rfl
                      rotate_left
                      · simp only [Act.put, List.setIfInBounds_toArray, List.set_cons_zero, List.set_cons_succ, i64_w, i32_w]
                        rfl
                      refine pure_ (i := 9) (N := some 29) (v := ?_) (a' := ?_) #[true, true, true, true, false, true, true, true, true, true, false, false, false, false] rfl rfl (any_of HT_.out (by kernel_rfl)) (fun _ _ _ h => h) (Or.inl ⟨by rfl, ?_⟩) ?_ ?_
                      rotate_left
                      · intro w'
                        go_simp
                        with_reducible rfl
                      rotate_left
                      · simp only [Act.put, List.setIfInBounds_toArray, List.set_cons_zero, List.set_cons_succ, i64_w, i32_w]
                        rfl
                      refine pure_ (i := 10) (N := some 30) (v := ?_) (a' := ?_) #[true, true, true, true, false, true, true, true, true, true, true, false, false, false] rfl rfl (any_of HT_.out (by kernel_rfl)) (fun _ _ _ h => h) (Or.inl ⟨by rfl, ?_⟩) ?_ ?_
                      rotate_left
                      · intro w'
                        go_simp
                        with_reducible rfl
                      rotate_left
                      · simp only [Act.put, List.setIfInBounds_toArray, List.set_cons_zero, List.set_cons_succ, i64_w, i32_w]
                        rfl
                      refine take_ (i := 4) (N := some 24) (v := ?_) (a' := ?_) #[true, true, true, true, true, true, true, true, true, true, true, false, false, false] rfl rfl (take_ofW HT_.out HW_.out (by kernel_rfl)) (fun _ _ _ h => h) (Or.inl ⟨by rfl, ?_⟩) hHeld ?_ ?_
                      rotate_left
                      · intro w' s0
                        go_simp
                        with_reducible rfl
                      rotate_left
                      · simp only [Act.put, List.setIfInBounds_toArray, List.set_cons_zero, List.set_cons_succ, i64_w, i32_w]
                        rfl
                      refine pure_ (i := 11) (N := some 31) (v := ?_) (a' := ?_) #[true, true, true, true, true, true, true, true, true, true, true, true, false, false] rfl rfl (any_of HT_.out (by kernel_rfl)) (fun _ _ _ h => h) (Or.inl ⟨by rfl, ?_⟩) ?_ ?_
                      rotate_left
                      · intro w'
                        go_simp
                        with_reducible rfl
                      rotate_left
                      · simp only [Act.put, List.setIfInBounds_toArray, List.set_cons_zero, List.set_cons_succ, i64_w, i32_w]
                        rfl
                      refine pure_ (i := 12) (N := some 32) (v := ?_) (a' := ?_) #[true, true, true, true, true, true, true, true, true, true, true, true, true, false] rfl rfl (any_of HT_.out (by kernel_rfl)) (fun _ _ _ h => h) (Or.inl ⟨by rfl, ?_⟩) ?_ ?_
                      rotate_left
                      · intro w'
                        go_simp
                        with_reducible rfl
                      rotate_left
                      · simp only [Act.put, List.setIfInBounds_toArray, List.set_cons_zero, List.set_cons_succ, i64_w, i32_w]
                        rfl
                      refine last_ (i := 13) (N := none) #[true, true, true, true, true, true, true, true, true, true, true, true, true, true] rfl rfl (one_of HT_.out (by kernel_rfl)) (by decide) (fun K hK => ?_)
                      refine skip_ (w1 := ?_) (by rfl) rfl ?_ ?_
                      rotate_left
                      · go_simp
                        rfl
                      refine hK.out _ _ ?_
                      clear hK K
                      refine done_ (done_of HT_.out (by kernel_rfl)) ?_
                      try go_wp2
                      go_roundg k1
                      case measure => have := HK1.out; omega
                      case rel => exact ⟨(y109), (wrap64 (x9_1 + 1)), (by first | rfl | (simp; done) | (simp [*]; done)), H', ⟨by have := HK1.out; omega⟩, ⟨by (with_reducible repeat (first | apply Kd.R_alloc | apply Kd.R_drewN | apply Kd.R_drew)); exact HQ19.out⟩, ⟨by repeat (first | (with_reducible first | exact HB.out | apply below_alloc | apply pw_below_drewN | apply below_drew1 | refine below_set ?_ GB15.out) | exact HB.out)⟩⟩
                    · rw [if_neg c13] at H
                      exact absurd H (by simp)
                  · rw [if_neg c11] at H
                    exact absurd H (by simp)
                · rw [if_neg c10] at H
                  exact absurd H (by simp)
              · rw [if_neg c8] at H
                exact absurd H (by simp)
            · rw [if_neg c7] at H
              have c7b0 : ((Int.tmod x9_1 4) == 0) = false := beq_eq_false_iff_ne.mpr c7
              have c7b1 : ((Int.tmod x9_1 4) != 0) = true := bne_iff_ne.mpr c7
              obtain ⟨ji20, hji20⟩ : ∃ j_ : Int, (wrap64 (Int.tdiv x9_1 4)) = j_ := ⟨_, rfl⟩
              replace H : (if 0 ≤ (ji20) then (if (ji20) < (x3_1.length : Int) then (if 0 ≤ (wrap64 (16 * (Int.tmod x9_1 4))) then (spec_Words.l0 k1 (x3_1.set ((ji20) : Int).toNat (Go.bits .or .u64 (rd x3_1 (ji20)) (shl .u64 (IntKind.u64.wrap (rd l0 x9_1)) (wrap64 (16 * (Int.tmod x9_1 4)))))) l0 (l0.length : Int) (wrap64 (x9_1 + 1))) else (none)) else (none)) else (none)) = some r := by first | (rw [hji20] at H; exact H) | (simp only [hji20] at H ⊢; exact H)
              have hji20w : (IntKind.i64.wrap (Int.tdiv x9_1 4)) = ji20 := (i64_w _).trans hji20
              by_cases c21 : 0 ≤ (ji20)
              · rw [if_pos c21] at H
                have c21b0 : decide (0 ≤ (ji20)) = true := decide_eq_true c21
                clear c21
                by_cases c22 : (ji20) < (x3_1.length : Int)
                · rw [if_pos c22] at H
                  have c22b0 : decide ((ji20) < (x3_1.length : Int)) = true := decide_eq_true c22
                  clear c22
                  obtain ⟨ji23, hji23⟩ : ∃ j_ : Int, (wrap64 (16 * (Int.tmod x9_1 4))) = j_ := ⟨_, rfl⟩
                  replace H : (if 0 ≤ (ji23) then (spec_Words.l0 k1 (x3_1.set ((ji20) : Int).toNat (Go.bits .or .u64 (rd x3_1 (ji20)) (shl .u64 (IntKind.u64.wrap (rd l0 x9_1)) (ji23)))) l0 (l0.length : Int) (wrap64 (x9_1 + 1))) else (none)) = some r := by first | (rw [hji23] at H; exact H) | (simp only [hji23] at H ⊢; exact H)
                  have hji23w : (IntKind.i64.wrap (16 * (Int.tmod x9_1 4))) = ji23 := (i64_w _).trans hji23
                  by_cases c24 : 0 ≤ (ji23)
                  · rw [if_pos c24] at H
                    have c24b0 := eq_true c24
                    have c24b1 : decide (0 ≤ (ji23)) = true := decide_eq_true c24
                    clear c24
                    obtain ⟨ji25, hji25⟩ : ∃ j_ : Int, (shl .u64 (IntKind.u64.wrap (rd l0 x9_1)) (ji23)) = j_ := ⟨_, rfl⟩
                    replace H : (spec_Words.l0 k1 (x3_1.set ((ji20) : Int).toNat (Go.bits .or .u64 (rd x3_1 (ji20)) (ji25))) l0 (l0.length : Int) (wrap64 (x9_1 + 1))) = some r := by first | (rw [hji25] at H; exact H) | (simp only [hji25] at H ⊢; exact H)
                    have hji25_ : (IntKind.u64.wrap ((IntKind.u64.wrap (rd l0 x9_1)) * 2 ^ min (ji23).toNat 64)) = ji25 := hji25
                    have hji25z : (ji23) ≤ 64 → (IntKind.u64.wrap ((IntKind.u64.wrap (rd l0 x9_1)) * 2 ^ (ji23).toNat)) = ji25 := shl_small hji25
                    obtain ⟨y111, hy111⟩ : ∃ y_ : List Int, y_ = (x3_1.set ((ji20) : Int).toNat (Go.bits .or .u64 (rd x3_1 (ji20)) (ji25))) := ⟨_, rfl⟩
                    replace H : (spec_Words.l0 k1 y111 l0 (l0.length : Int) (wrap64 (x9_1 + 1))) = some r := by first | (rw [hy111]; with_reducible exact H) | (have H2_ := (Option.bind_some _ _).symm.trans H; rw [hy111]; with_reducible exact H2_) | (have H2_ := (Option.bind_some _ _).symm.trans H; with_reducible exact H2_) | with_reducible exact H | (rw [hy111]; exact H) | exact H
                    have Ny111 := Aside0.mk hy111
                    clear hy111
                    have H' := Aside0.mk H
                    clear H
                    have p104 : 0 ≤ (x9_1 : Int) := of_decide_eq_true (by first | (with_reducible assumption) | assumption)
                    have q104 : x9_1 < (l0.length : Int) := of_decide_eq_true (by first | (with_reducible assumption) | assumption)
                    obtain ⟨ad104, e104, hx104_0⟩ := Kd.at_int HR0.out x9_1 p104 q104
                    cases e104
                    replace hx104_0 := (HB.out.cell (World.block_lt_of_cell? w _ hx104_0)).trans hx104_0
                    replace p104 := eq_true p104
                    replace q104 := eq_true q104
                    try go_wp2
                    have n0_ := Aside0.mk (Kd.R_drew HO_3.out)
                    have n1_ := Aside0.mk (below_drew1 HB.out)
                    clear HO_3
                    clear HB
                    have HO_3 := n0_
                    have HB := n1_
                    clear n0_ n1_
                    obtain ⟨Ao28, co28, eo28⟩ := Kd.R_slice HO_3.out
                    (first | subst eo28 | (injection eo28 with f1_ f2_ f3_; have f4_ := f1_.symm; have f5_ := f3_.symm; clear f1_ f2_ f3_; subst f4_; subst f5_))
                    have p110 : 0 ≤ ((ji20) : Int) := of_decide_eq_true (by first | (with_reducible assumption) | assumption)
                    have q110 : (ji20) < (x3_1.length : Int) := of_decide_eq_true (by first | (with_reducible assumption) | assumption)
                    obtain ⟨ad110, e110, hx110_0⟩ := Kd.at_int (Kd.R_reads' HO_3.out).2.2 (ji20) p110 q110
                    cases e110
                    replace p110 := eq_true p110
                    replace q110 := eq_true q110
                    have p26 : 0 ≤ ((ji20) : Int) := of_decide_eq_true (by first | (with_reducible assumption) | assumption)
                    have q26 : ((ji20) : Int) < ((x3_1.length : Int) : Int) := of_decide_eq_true (by first | (with_reducible assumption) | assumption)
                    obtain ⟨go26, co26, eo26, gb26, gl26, cl26, HG26⟩ := Kd.R_form HO_3.out (by omega)
                    (first | cases eo26 | (injection eo26 with ea_ en_ ec_; (first | subst ea_ | (injection ea_ with ea_; subst ea_)); subst ec_; clear en_))
                    have GB26 := Aside0.mk gb26
                    have GG26 := Aside0.mk HG26
                    clear gb26 gl26 HG26
                    (first | simp only [add_plain] at hx110_0 | skip)
                    obtain ⟨hx26_0, hf26_0⟩ := Kd.R_celln 0 HO_3.out ((ji20) : Int) p26 q26
                    replace p26 := eq_true p26
                    replace q26 := eq_true q26
                    have HP29 := Kd.R_putn HO_3.out ((ji20) : Int) (Go.bits .or .u64 (rd x3_1 (ji20)) (ji25))
                    rw [← Ny111.out] at HP29
                    have HQ29 := Aside0.mk HP29
                    clear HP29
                    refine start_ (n := 14) (S := fun w' => w'.cell? ⟨go26, ((ji20)).toNat, none⟩ = some (.int .u64 (rd x3_1 (ji20)))) (ds := [13]) #[false, false, false, false, false, false, false, false, false, false, false, false, false, false] (by kernel_rfl) rfl rfl (hx110_0) (fun hHeld => ?_); refine with_tabW spec_Words.tab7 spec_Words.bits7 (fun HT_ HW_ => ?_)
                    generalize wr.drew = w27 at HO_3 HB GG26 HQ29 hf26_0 hx110_0 hx26_0 hHeld ⊢
                    refine pure_ (i := 0) (N := some 20) (v := ?_) (a' := ?_) #[true, false, false, false, false, false, false, false, false, false, false, false, false, false] rfl rfl (any_of HT_.out (by kernel_rfl)) (fun _ _ _ h => h) (Or.inl ⟨by rfl, ?_⟩) ?_ ?_
                    rotate_left
                    · intro w'
                      go_simp
                      with_reducible rfl
                    rotate_left
                    · simp only [Act.put, List.setIfInBounds_toArray, List.set_cons_zero, List.set_cons_succ, i64_w, i32_w]
                      rfl
                    refine pure_ (i := 1) (N := some 21) (v := ?_) (a' := ?_) #[true, true, false, false, false, false, false, false, false, false, false, false, false, false] rfl rfl (any_of HT_.out (by kernel_rfl)) (fun _ _ _ h => h) (Or.inl ⟨by rfl, ?_⟩) ?_ ?_
                    rotate_left
                    · intro w'
                      go_simp
                      with_reducible rfl
                    rotate_left
                    · simp only [Act.put, List.setIfInBounds_toArray, List.set_cons_zero, List.set_cons_succ, i64_w, i32_w]
                      rfl
                    refine pure_ (i := 2) (N := some 22) (v := ?_) (a' := ?_) #[true, true, true, false, false, false, false, false, false, false, false, false, false, false] rfl rfl (any_of HT_.out (by kernel_rfl)) (fun _ _ _ h => h) (Or.inl ⟨by rfl, ?_⟩) ?_ ?_
                    rotate_left
                    · intro w'
                      go_simp
                      with_reducible rfl
                    rotate_left
                    · simp only [Act.put, List.setIfInBounds_toArray, List.set_cons_zero, List.set_cons_succ, i64_w, i32_w]
                      rfl
                    refine pure_ (i := 3) (N := some 23) (v := ?_) (a' := ?_) #[true, true, true, true, false, false, false, false, false, false, false, false, false, false] rfl rfl (any_of HT_.out (by kernel_rfl)) (fun _ _ _ h => h) (Or.inl ⟨by rfl, ?_⟩) ?_ ?_
                    rotate_left
                    · intro w'
                      go_simp
                      with_reducible rfl
                    rotate_left
                    · simp only [Act.put, List.setIfInBounds_toArray, List.set_cons_zero, List.set_cons_succ, i64_w, i32_w]
                      rfl
                    refine pure_ (i := 5) (N := some 25) (v := ?_) (a' := ?_) #[true, true, true, true, false, true, false, false, false, false, false, false, false, false] rfl rfl (any_of HT_.out (by kernel_rfl)) (fun _ _ _ h => h) (Or.inl ⟨by rfl, ?_⟩) ?_ ?_
                    rotate_left
                    · intro w'
                      go_simp
                      with_reducible rfl
                    rotate_left
                    · simp only [Act.put, List.setIfInBounds_toArray, List.set_cons_zero, List.set_cons_succ, i64_w, i32_w]
                      rfl
                    refine pure_ (i := 6) (N := some 26) (v := ?_) (a' := ?_) #[true, true, true, true, false, true, true, false, false, false, false, false, false, false] rfl rfl (any_of HT_.out (by kernel_rfl)) (fun _ _ _ h => h) (Or.inl ⟨by rfl, ?_⟩) ?_ ?_
                    rotate_left
                    · intro w'
                      go_simp
                      with_reducible rfl
                    rotate_left
                    · simp only [Act.put, List.setIfInBounds_toArray, List.set_cons_zero, List.set_cons_succ, i64_w, i32_w]
                      rfl
                    refine pure_ (i := 7) (N := some 27) (v := ?_) (a' := ?_) #[true, true, true, true, false, true, true, true, false, false, false, false, false, false] rfl rfl (any_of HT_.out (by kernel_rfl)) (fun _ _ _ h => h) (Or.inl ⟨by rfl, ?_⟩) ?_ ?_
                    rotate_left
                    · intro w'
                      go_simp
                      with_reducible rfl
                    rotate_left
                    · simp only [Act.put, List.setIfInBounds_toArray, List.set_cons_zero, List.set_cons_succ, i64_w, i32_w]
                      rfl
                    refine pure_ (i := 8) (N := some 28) (v := ?_) (a' := ?_) #[true, true, true, true, false, true, true, true, true, false, false, false, false, false] rfl rfl (any_of HT_.out (by kernel_rfl)) (fun _ _ _ h => h) (Or.inl ⟨by rfl, ?_⟩) ?_ ?_
                    rotate_left
                    · intro w'
                      go_simp
                      with_reducible rfl
                    rotate_left
                    · simp only [Act.put, List.setIfInBounds_toArray, List.set_cons_zero, List.set_cons_succ, i64_w, i32_w]
                      rfl
                    refine pure_ (i := 9) (N := some 29) (v := ?_) (a' := ?_) #[true, true, true, true, false, true, true, true, true, true, false, false, false, false] rfl rfl (any_of HT_.out (by kernel_rfl)) (fun _ _ _ h => h) (Or.inl ⟨by rfl, ?_⟩) ?_ ?_
                    rotate_left
                    · intro w'
                      go_simp
                      with_reducible rfl
                    rotate_left
                    · simp only [Act.put, List.setIfInBounds_toArray, List.set_cons_zero, List.set_cons_succ, i64_w, i32_w]
                      rfl
                    refine pure_ (i := 10) (N := some 30) (v := ?_) (a' := ?_) #[true, true, true, true, false, true, true, true, true, true, true, false, false, false] rfl rfl (any_of HT_.out (by kernel_rfl)) (fun _ _ _ h => h) (Or.inl ⟨by rfl, ?_⟩) ?_ ?_
                    rotate_left
                    · intro w'
                      go_simp
                      with_reducible rfl
                    rotate_left
                    · simp only [Act.put, List.setIfInBounds_toArray, List.set_cons_zero, List.set_cons_succ, i64_w, i32_w]
                      rfl
                    refine take_ (i := 4) (N := some 24) (v := ?_) (a' := ?_) #[true, true, true, true, true, true, true, true, true, true, true, false, false, false] rfl rfl (take_ofW HT_.out HW_.out (by kernel_rfl)) (fun _ _ _ h => h) (Or.inl ⟨by rfl, ?_⟩) hHeld ?_ ?_
                    rotate_left
                    · intro w' s0
                      go_simp
                      with_reducible rfl
                    rotate_left
                    · simp only [Act.put, List.setIfInBounds_toArray, List.set_cons_zero, List.set_cons_succ, i64_w, i32_w]
                      rfl
                    refine pure_ (i := 11) (N := some 31) (v := ?_) (a' := ?_) #[true, true, true, true, true, true, true, true, true, true, true, true, false, false] rfl rfl (any_of HT_.out (by kernel_rfl)) (fun _ _ _ h => h) (Or.inl ⟨by rfl, ?_⟩) ?_ ?_
                    rotate_left
                    · intro w'
                      go_simp
                      with_reducible rfl
                    rotate_left
                    · simp only [Act.put, List.setIfInBounds_toArray, List.set_cons_zero, List.set_cons_succ, i64_w, i32_w]
                      rfl
                    refine pure_ (i := 12) (N := some 32) (v := ?_) (a' := ?_) #[true, true, true, true, true, true, true, true, true, true, true, true, true, false] rfl rfl (any_of HT_.out (by kernel_rfl)) (fun _ _ _ h => h) (Or.inl ⟨by rfl, ?_⟩) ?_ ?_
                    rotate_left
                    · intro w'
                      go_simp
                      with_reducible rfl
                    rotate_left
                    · simp only [Act.put, List.setIfInBounds_toArray, List.set_cons_zero, List.set_cons_succ, i64_w, i32_w]
                      rfl
                    refine last_ (i := 13) (N := none) #[true, true, true, true, true, true, true, true, true, true, true, true, true, true] rfl rfl (one_of HT_.out (by kernel_rfl)) (by decide) (fun K hK => ?_)
                    refine skip_ (w1 := ?_) (by rfl) rfl ?_ ?_
                    rotate_left
                    · go_simp
                      rfl
                    refine hK.out _ _ ?_
                    clear hK K
                    refine done_ (done_of HT_.out (by kernel_rfl)) ?_
                    try go_wp2
                    go_roundg k1
                    case measure => have := HK1.out; omega
                    case rel => exact ⟨(y111), (wrap64 (x9_1 + 1)), (by first | rfl | (simp; done) | (simp [*]; done)), H', ⟨by have := HK1.out; omega⟩, ⟨by (with_reducible repeat (first | apply Kd.R_alloc | apply Kd.R_drewN | apply Kd.R_drew)); exact HQ29.out⟩, ⟨by repeat (first | (with_reducible first | exact HB.out | apply below_alloc | apply pw_below_drewN | apply below_drew1 | refine below_set ?_ GB26.out) | exact HB.out)⟩⟩
                  · rw [if_neg c24] at H
                    exact absurd H (by simp)
                · rw [if_neg c22] at H
                  exact absurd H (by simp)
              · rw [if_neg c21] at H
                exact absurd H (by simp)
          · rw [if_neg c6] at H
            exact absurd H (by simp)
        · rw [if_neg c5] at H
          exact absurd H (by simp)
      · rw [if_neg c4] at H
        have c4b0 : decide (x9_1 < (l0.length : Int)) = false := decide_eq_false c4
        clear c4
        obtain rfl := Option.some.inj H
        go_wp2
        go_ret
        exact ⟨_, by first | rfl | (simp [errW_none, errW_some] <;> rfl) | (simp [*, errW_none, errW_some] <;> rfl), by (with_reducible repeat (first | apply Kd.R_alloc | apply Kd.R_drewN | apply Kd.R_drew)); exact HO_3.out, by repeat (first | (with_reducible first | exact HB.out | apply below_alloc | apply pw_below_drewN | apply below_drew1) | exact HB.out)⟩

/-! ### spec_HasWords: function 112 -/
def spec_HasWords.l0 : Nat → List Int → List Int → Int → Int → Option (Bool)
  | 0, _, _, _, _ => none
  | k + 1, x0, x5, x15, x16 => if x16 < x15 then (if 0 ≤ x16 then (if x16 < (x0.length : Int) then (if x16 < (x5.length : Int) then (if (rd x0 x16) = (rd x5 x16) then (spec_HasWords.l0 k x0 x5 x15 (wrap64 (x16 + 1))) else (some false)) else (none)) else (none)) else (none)) else (some true)
def spec_HasWords.f (k : Nat) (l0 : List Int) (l1 : List Int) : Option (Bool) := (spec_Words.f k l1).bind fun t112 => (if (l0.length : Int) = (t112.length : Int) then (spec_HasWords.l0 k l0 t112 (t112.length : Int) 0) else (some false))
theorem spec_HasWords.mono_l : ∀ k, (∀ y0 y1 y2 y3, LeO (spec_HasWords.l0 k y0 y1 y2 y3) (spec_HasWords.l0 (k + 1) y0 y1 y2 y3))
  | 0 => fun _ _ _ _ r h => by simp [spec_HasWords.l0] at h
  | k + 1 => by
    have ih0 := spec_HasWords.mono_l k
    · intro y0 y1 y2 y3
      unfold spec_HasWords.l0
      repeat' first
      | (with_reducible exact ih0 _ _ _ _)
      | (with_reducible exact spec_Words.mono _ _)
      | (with_reducible exact LeO.refl _)
      | (with_reducible exact LeO.none _)
      | (with_reducible refine LeO.ite ?_ ?_)
      | (with_reducible refine LeO.bind ?_ (fun _ => ?_))
      | exact ih0 _ _ _ _
      | exact spec_Words.mono _ _
      | exact LeO.none _
      | refine LeO.ite ?_ ?_
      | refine LeO.bind ?_ (fun _ => ?_)
theorem spec_HasWords.mono : ∀ a0 a1 k, LeO (spec_HasWords.f k a0 a1) (spec_HasWords.f (k + 1) a0 a1) := by
  intro a0 a1 k
  have ih0 := spec_HasWords.mono_l k
  unfold spec_HasWords.f
  repeat' first
      | (with_reducible exact ih0 _ _ _ _)
      | (with_reducible exact spec_Words.mono _ _)
      | (with_reducible exact LeO.refl _)
      | (with_reducible exact LeO.none _)
      | (with_reducible refine LeO.ite ?_ ?_)
      | (with_reducible refine LeO.bind ?_ (fun _ => ?_))
      | exact ih0 _ _ _ _
      | exact spec_Words.mono _ _
      | exact LeO.none _
      | refine LeO.ite ?_ ?_
      | refine LeO.bind ?_ (fun _ => ?_)
set_option maxHeartbeats 8000000 in
set_option maxRecDepth 100000 in
theorem spec_HasWords.calls (k : Nat) (A0 : Option Addr) (c0 : Nat) (l0 : List Int) (A1 : Option Addr) (c1 : Nat) (l1 : List Int) (r : Bool) (w : World) (hr0 : Kd.C (Kd.int .u64) w A0 l0.length l0) (hc0 : l0.length ≤ c0) (hr1 : Kd.C (Kd.int .i64) w A1 l1.length l1) (hc1 : l1.length ≤ c1) (h : spec_HasWords.f k l0 l1 = some r) :
    Calls Tryz.prog 112 #[.slice A0 l0.length c0, .slice A1 l1.length c1] w fun e w' => e = .returned (.bool r) ∧ Below w.heap.size w w' := by
  have HR0 := Aside0.mk hr0
  have HC0 := Aside0.mk hc0
  clear hr0 hc0
  have HR1 := Aside0.mk hr1
  have HC1 := Aside0.mk hc1
  clear hr1 hc1
  have HB := Aside0.mk (Below.refl w.heap.size w)
  have H : ((spec_Words.f k l1).bind fun t112 => (if (l0.length : Int) = (t112.length : Int) then (spec_HasWords.l0 k l0 t112 (t112.length : Int) 0) else (some false))) = some r := h
  clear h
  replace H := Option.bind_eq_some_iff.mp H
  obtain ⟨t112, A30, H⟩ := H
  replace H : (if (l0.length : Int) = (t112.length : Int) then (spec_HasWords.l0 k l0 t112 (t112.length : Int) 0) else (some false)) = some r := H
  have A3 := Aside0.mk A30
  clear A30
  by_cases c4 : (l0.length : Int) = (t112.length : Int)
  · rw [if_pos c4] at H
    have c4b0 : ((l0.length : Int) == (t112.length : Int)) = true := beq_iff_eq.mpr c4
    have c4b1 : ((l0.length : Int) != (t112.length : Int)) = false := bne_eq_false_iff_eq.mpr c4
    have c4b2 : (l0.length == t112.length) = true := by first | simpa using c4 | (simp at c4 ⊢; omega)
    clear c4
    have H' := Aside0.mk H
    clear H
    go_enter Tryz.func112, Tryz.ntmps112
    go_wp2_with (first | (go_at_call 179; (with_reducible refine (spec_Words.calls k _ _ l1 t112 _ ?side1 ?side2 A3.out).mono ?_); (case side1 => repeat (first | exact HR1.out | (with_reducible refine Kd.C_alloc ?_ _) | (with_reducible refine Kd.C_drewN ?_ _) | (with_reducible refine Kd.C_drew ?_))); (case side2 => exact HC1.out); rintro e w5 ⟨v113, rfl, ho0, hb⟩; have n0_ := Aside0.mk (Kd.R_lower ho0 (below_size (by repeat (first | (with_reducible first | exact HB.out | apply below_alloc | apply pw_below_drewN | apply below_drew1) | exact HB.out)))); have n1_ := Aside0.mk (below_step (by repeat (first | (with_reducible first | exact HB.out | apply below_alloc | apply pw_below_drewN | apply below_drew1) | exact HB.out)) hb); clear HB; have HO114 := n0_; have HB := n1_; clear n0_ n1_; (try clear hb); (try clear hb2); (try clear hk); (try clear hi); (try clear ho0); obtain ⟨Ao6, co6, eo6⟩ := Kd.R_slice HO114.out; subst eo6))
    repeat (go_quiet (first | (go_at_call 179; (with_reducible refine (spec_Words.calls k _ _ l1 t112 _ ?side1 ?side2 A3.out).mono ?_); (case side1 => repeat (first | exact HR1.out | (with_reducible refine Kd.C_alloc ?_ _) | (with_reducible refine Kd.C_drewN ?_ _) | (with_reducible refine Kd.C_drew ?_))); (case side2 => exact HC1.out); rintro e w5 ⟨v113, rfl, ho0, hb⟩; have n0_ := Aside0.mk (Kd.R_lower ho0 (below_size (by repeat (first | (with_reducible first | exact HB.out | apply below_alloc | apply pw_below_drewN | apply below_drew1) | exact HB.out)))); have n1_ := Aside0.mk (below_step (by repeat (first | (with_reducible first | exact HB.out | apply below_alloc | apply pw_below_drewN | apply below_drew1) | exact HB.out)) hb); clear HB; have HO114 := n0_; have HB := n1_; clear n0_ n1_; (try clear hb); (try clear hb2); (try clear hk); (try clear hi); (try clear ho0); obtain ⟨Ao6, co6, eo6⟩ := Kd.R_slice HO114.out; subst eo6)); try go_wp2_with (first | (go_at_call 179; (with_reducible refine (spec_Words.calls k _ _ l1 t112 _ ?side1 ?side2 A3.out).mono ?_); (case side1 => repeat (first | exact HR1.out | (with_reducible refine Kd.C_alloc ?_ _) | (with_reducible refine Kd.C_drewN ?_ _) | (with_reducible refine Kd.C_drew ?_))); (case side2 => exact HC1.out); rintro e w5 ⟨v113, rfl, ho0, hb⟩; have n0_ := Aside0.mk (Kd.R_lower ho0 (below_size (by repeat (first | (with_reducible first | exact HB.out | apply below_alloc | apply pw_below_drewN | apply below_drew1) | exact HB.out)))); have n1_ := Aside0.mk (below_step (by repeat (first | (with_reducible first | exact HB.out | apply below_alloc | apply pw_below_drewN | apply below_drew1) | exact HB.out)) hb); clear HB; have HO114 := n0_; have HB := n1_; clear n0_ n1_; (try clear hb); (try clear hb2); (try clear hk); (try clear hi); (try clear ho0); obtain ⟨Ao6, co6, eo6⟩ := Kd.R_slice HO114.out; subst eo6)))
    go_loopg [16] k (fun kq v16 w' => ∃ (x16_1 : Int), v16 = .int .i64 x16_1 ∧ Aside0 (spec_HasWords.l0 kq l0 t112 (t112.length : Int) x16_1 = some r) ∧ Aside0 (kq ≤ k) ∧ Aside0 (Kd.R (Kd.int .u64) 43 w' w.heap.size (fun _ => True) (.slice Ao6 t112.length co6) t112) ∧ Aside0 (Below w.heap.size w w'))
    case atStart => exact ⟨(0), (by first | rfl | (simp; done) | (simp [*]; done)), H', ⟨Nat.le_refl _⟩, ⟨by (with_reducible repeat (first | apply Kd.R_alloc | apply Kd.R_drewN | apply Kd.R_drew)); exact HO114.out⟩, ⟨by repeat (first | (with_reducible first | exact HB.out | apply below_alloc | apply pw_below_drewN | apply below_drew1) | exact HB.out)⟩⟩
    case round =>
      clear H'
      try clear c1
      try clear p2
      try clear c4
      try clear c4b0
      try clear c4b1
      try clear c4b2
      obtain ⟨x16_1, rfl, HA, HK1, HO_5, HB⟩ := hrel
      cases gk with
      | zero => exact absurd HA.out (by simp [spec_HasWords.l0])
      | succ k1 =>
        have H := HA.out
        clear HA
        simp only [spec_HasWords.l0] at H
        by_cases c7 : x16_1 < (t112.length : Int)
        · rw [if_pos c7] at H
          have c7b0 : decide (x16_1 < (t112.length : Int)) = true := decide_eq_true c7
          clear c7
          by_cases c8 : 0 ≤ x16_1
          · rw [if_pos c8] at H
            have c8b0 : decide (0 ≤ x16_1) = true := decide_eq_true c8
            clear c8
            by_cases c9 : x16_1 < (l0.length : Int)
            · rw [if_pos c9] at H
              have c9b0 : decide (x16_1 < (l0.length : Int)) = true := decide_eq_true c9
              clear c9
              by_cases c10 : x16_1 < (t112.length : Int)
              · rw [if_pos c10] at H
                have c10b0 : decide (x16_1 < (t112.length : Int)) = true := decide_eq_true c10
                clear c10
                by_cases c11 : (rd l0 x16_1) = (rd t112 x16_1)
                · rw [if_pos c11] at H
                  have c11b0 : ((rd l0 x16_1) == (rd t112 x16_1)) = true := beq_iff_eq.mpr c11
                  have c11b1 : ((rd l0 x16_1) != (rd t112 x16_1)) = false := bne_eq_false_iff_eq.mpr c11
                  clear c11
                  have H' := Aside0.mk H
                  clear H
                  have p115 : 0 ≤ (x16_1 : Int) := of_decide_eq_true (by first | (with_reducible assumption) | assumption)
                  have q115 : x16_1 < (l0.length : Int) := of_decide_eq_true (by first | (with_reducible assumption) | assumption)
                  obtain ⟨ad115, e115, hx115_0⟩ := Kd.at_int HR0.out x16_1 p115 q115
                  cases e115
                  replace hx115_0 := (HB.out.cell (World.block_lt_of_cell? w _ hx115_0)).trans hx115_0
                  replace p115 := eq_true p115
                  replace q115 := eq_true q115
                  have p116 : 0 ≤ (x16_1 : Int) := of_decide_eq_true (by first | (with_reducible assumption) | assumption)
                  have q116 : x16_1 < (t112.length : Int) := of_decide_eq_true (by first | (with_reducible assumption) | assumption)
                  obtain ⟨ad116, e116, hx116_0⟩ := Kd.at_int (Kd.R_reads' HO_5.out).2.2 x16_1 p116 q116
                  cases e116
                  replace p116 := eq_true p116
                  replace q116 := eq_true q116
                  go_wp2
                  repeat (go_quiet (fail); try go_wp2)
                  go_roundg k1
                  case measure => have := HK1.out; omega
                  case rel => exact ⟨(wrap64 (x16_1 + 1)), (by first | rfl | (simp; done) | (simp [*]; done)), H', ⟨by have := HK1.out; omega⟩, ⟨by (with_reducible repeat (first | apply Kd.R_alloc | apply Kd.R_drewN | apply Kd.R_drew)); exact HO_5.out⟩, ⟨by repeat (first | (with_reducible first | exact HB.out | apply below_alloc | apply pw_below_drewN | apply below_drew1) | exact HB.out)⟩⟩
                · rw [if_neg c11] at H
                  have c11b0 : ((rd l0 x16_1) == (rd t112 x16_1)) = false := beq_eq_false_iff_ne.mpr c11
                  have c11b1 : ((rd l0 x16_1) != (rd t112 x16_1)) = true := bne_iff_ne.mpr c11
                  obtain rfl := Option.some.inj H
                  have p115 : 0 ≤ (x16_1 : Int) := of_decide_eq_true (by first | (with_reducible assumption) | assumption)
                  have q115 : x16_1 < (l0.length : Int) := of_decide_eq_true (by first | (with_reducible assumption) | assumption)
                  obtain ⟨ad115, e115, hx115_0⟩ := Kd.at_int HR0.out x16_1 p115 q115
                  cases e115
                  replace hx115_0 := (HB.out.cell (World.block_lt_of_cell? w _ hx115_0)).trans hx115_0
                  replace p115 := eq_true p115
                  replace q115 := eq_true q115
                  have p116 : 0 ≤ (x16_1 : Int) := of_decide_eq_true (by first | (with_reducible assumption) | assumption)
                  have q116 : x16_1 < (t112.length : Int) := of_decide_eq_true (by first | (with_reducible assumption) | assumption)
                  obtain ⟨ad116, e116, hx116_0⟩ := Kd.at_int (Kd.R_reads' HO_5.out).2.2 x16_1 p116 q116
                  cases e116
                  replace p116 := eq_true p116
                  replace q116 := eq_true q116
                  go_wp2
                  repeat (go_quiet (fail); try go_wp2)
                  go_ret
                  exact ⟨by first | rfl | (simp [errW_none, errW_some] <;> rfl) | (simp [*, errW_none, errW_some] <;> rfl), by repeat (first | (with_reducible first | exact HB.out | apply below_alloc | apply pw_below_drewN | apply below_drew1) | exact HB.out)⟩
              · rw [if_neg c10] at H
                exact absurd H (by simp)
            · rw [if_neg c9] at H
              exact absurd H (by simp)
          · rw [if_neg c8] at H
            exact absurd H (by simp)
        · rw [if_neg c7] at H
          have c7b0 : decide (x16_1 < (t112.length : Int)) = false := decide_eq_false c7
          clear c7
          obtain rfl := Option.some.inj H
          go_wp2
          repeat (go_quiet (fail); try go_wp2)
          go_ret
          exact ⟨by first | rfl | (simp [errW_none, errW_some] <;> rfl) | (simp [*, errW_none, errW_some] <;> rfl), by repeat (first | (with_reducible first | exact HB.out | apply below_alloc | apply pw_below_drewN | apply below_drew1) | exact HB.out)⟩
  · rw [if_neg c4] at H
    have c4b0 : ((l0.length : Int) == (t112.length : Int)) = false := beq_eq_false_iff_ne.mpr c4
    have c4b1 : ((l0.length : Int) != (t112.length : Int)) = true := bne_iff_ne.mpr c4
    have c4b2 : (l0.length == t112.length) = false := by first | simpa using c4 | (simp at c4 ⊢; omega)
    obtain rfl := Option.some.inj H
    go_enter Tryz.func112, Tryz.ntmps112
    go_wp2_with (first | (go_at_call 179; (with_reducible refine (spec_Words.calls k _ _ l1 t112 _ ?side1 ?side2 A3.out).mono ?_); (case side1 => repeat (first | exact HR1.out | (with_reducible refine Kd.C_alloc ?_ _) | (with_reducible refine Kd.C_drewN ?_ _) | (with_reducible refine Kd.C_drew ?_))); (case side2 => exact HC1.out); rintro e w12 ⟨v113, rfl, ho0, hb⟩; have n0_ := Aside0.mk (Kd.R_lower ho0 (below_size (by repeat (first | (with_reducible first | exact HB.out | apply below_alloc | apply pw_below_drewN | apply below_drew1) | exact HB.out)))); have n1_ := Aside0.mk (below_step (by repeat (first | (with_reducible first | exact HB.out | apply below_alloc | apply pw_below_drewN | apply below_drew1) | exact HB.out)) hb); clear HB; have HO114 := n0_; have HB := n1_; clear n0_ n1_; (try clear hb); (try clear hb2); (try clear hk); (try clear hi); (try clear ho0); obtain ⟨Ao13, co13, eo13⟩ := Kd.R_slice HO114.out; subst eo13))
    repeat (go_quiet (first | (go_at_call 179; (with_reducible refine (spec_Words.calls k _ _ l1 t112 _ ?side1 ?side2 A3.out).mono ?_); (case side1 => repeat (first | exact HR1.out | (with_reducible refine Kd.C_alloc ?_ _) | (with_reducible refine Kd.C_drewN ?_ _) | (with_reducible refine Kd.C_drew ?_))); (case side2 => exact HC1.out); rintro e w12 ⟨v113, rfl, ho0, hb⟩; have n0_ := Aside0.mk (Kd.R_lower ho0 (below_size (by repeat (first | (with_reducible first | exact HB.out | apply below_alloc | apply pw_below_drewN | apply below_drew1) | exact HB.out)))); have n1_ := Aside0.mk (below_step (by repeat (first | (with_reducible first | exact HB.out | apply below_alloc | apply pw_below_drewN | apply below_drew1) | exact HB.out)) hb); clear HB; have HO114 := n0_; have HB := n1_; clear n0_ n1_; (try clear hb); (try clear hb2); (try clear hk); (try clear hi); (try clear ho0); obtain ⟨Ao13, co13, eo13⟩ := Kd.R_slice HO114.out; subst eo13)); try go_wp2_with (first | (go_at_call 179; (with_reducible refine (spec_Words.calls k _ _ l1 t112 _ ?side1 ?side2 A3.out).mono ?_); (case side1 => repeat (first | exact HR1.out | (with_reducible refine Kd.C_alloc ?_ _) | (with_reducible refine Kd.C_drewN ?_ _) | (with_reducible refine Kd.C_drew ?_))); (case side2 => exact HC1.out); rintro e w12 ⟨v113, rfl, ho0, hb⟩; have n0_ := Aside0.mk (Kd.R_lower ho0 (below_size (by repeat (first | (with_reducible first | exact HB.out | apply below_alloc | apply pw_below_drewN | apply below_drew1) | exact HB.out)))); have n1_ := Aside0.mk (below_step (by repeat (first | (with_reducible first | exact HB.out | apply below_alloc | apply pw_below_drewN | apply below_drew1) | exact HB.out)) hb); clear HB; have HO114 := n0_; have HB := n1_; clear n0_ n1_; (try clear hb); (try clear hb2); (try clear hk); (try clear hi); (try clear ho0); obtain ⟨Ao13, co13, eo13⟩ := Kd.R_slice HO114.out; subst eo13)))
    go_ret
    exact ⟨by first | rfl | (simp [errW_none, errW_some] <;> rfl) | (simp [*, errW_none, errW_some] <;> rfl), by repeat (first | (with_reducible first | exact HB.out | apply below_alloc | apply pw_below_drewN | apply below_drew1) | exact HB.out)⟩

/-- THE ONE PURE STATEMENT of spec_HasWords: yours. -/
def spec_HasWords.Pure : Prop := ∀ (l0 : List Int) (l1 : List Int), l0.length ≤ maxLen → l0.length * 8 ≤ 140737488351232 → (∀ x ∈ l0, (Lit.int .u64 x).wf = true) → l1.length ≤ maxLen → l1.length * 8 ≤ 140737488351232 → (∀ x ∈ l1, (Lit.int .i64 x).wf = true) → ∃ k, spec_HasWords.f k l0 l1 = some true
theorem spec_HasWords.walk (P : spec_HasWords.Pure) (a0 : Option Addr) (len0 cap0 : Nat) (z0 : List Int) (a1 : Option Addr) (len1 cap1 : Nat) (z1 : List Int) (w : World) (w0 : (a0 = none ∧ len0 = 0 ∧ cap0 = 0 ∧ z0 = []) ∨ ∃ x, a0 = some x ∧ len0 ≤ cap0 ∧ cap0 ≤ maxLen ∧ z0.length = cap0 ∧ (∀ i, i < z0.length → w.cell? (x.add i) = some (.int .u64 (z0.getD i 0))) ∧ ∀ n ∈ z0, (Lit.int .u64 n).wf = true) (y0 : len0 * 8 ≤ 140737488351232) (w1 : (a1 = none ∧ len1 = 0 ∧ cap1 = 0 ∧ z1 = []) ∨ ∃ x, a1 = some x ∧ len1 ≤ cap1 ∧ cap1 ≤ maxLen ∧ z1.length = cap1 ∧ (∀ i, i < z1.length → w.cell? (x.add i) = some (.int .i64 (z1.getD i 0))) ∧ ∀ n ∈ z1, (Lit.int .i64 n).wf = true) (y1 : len1 * 8 ≤ 140737488351232) :
    Calls Tryz.prog 112 #[.slice a0 len0 cap0, .slice a1 len1 cap1] w fun e w' => e = .returned (.bool true) ∧ Below w.heap.size w w' := by
  obtain ⟨l0, rfl, hr0, hm0, hw0, hc0⟩ := ReadsInt.ofRowC w0
  obtain ⟨l1, rfl, hr1, hm1, hw1, hc1⟩ := ReadsInt.ofRowC w1
  obtain ⟨k, h⟩ := P l0 l1 hm0 y0 hw0 hm1 y1 hw1
  refine (spec_HasWords.calls k _ _ l0 _ _ l1 true w (Kd.C_of_reads (d := (0 : Int)) (h1 := fun _ => rfl) hr0) hc0 (Kd.C_of_reads (d := (0 : Int)) (h1 := fun _ => rfl) hr1) hc1 h).mono ?_
  rintro e w' ⟨rfl, hd⟩
  exact ⟨rfl, hd⟩

end Go.Proofs.YtdpnoaaeplgdjaaGreatDoor.PHasWords
