/-
  THE WALK OF big.Int's AndNot, in place, by a number below 0.
-/
import Derived.Test.YtdpnoaaeplgdjaaGreatDoorIp
import Derived.Deep.DeepCutAuto
namespace Go.Proofs.YtdpnoaaeplgdjaaGreatDoor
open Go.RowKit
namespace Wa
open Rg

theorem andNot_c {w : World} {vz vy vx : Value} {X p k : Nat} {zz : List Value} (hZ : Sl w vz k zz) (hY : Nt w vy (2 ^ p - 1)) (hX : Nt w vx X) (hneY : ∀ g, vz.ownBlock = some g → vy.ownBlock ≠ some g) (hneX : ∀ g, vz.ownBlock = some g → vx.ownBlock ≠ some g)
    (hp : 0 < p) (hl : nw X ≤ 900) (hl2 : nw (2 ^ p - 1) ≤ 900) :
    Calls Tryz.prog 134 #[vz, vy, vx] w fun e w' => ∃ v, e = .returned v ∧ Nt w' v (2 ^ p - 1 - X % 2 ^ p) ∧ w.grownBy w' vz.ownBlock := by
  by_cases c : nw (2 ^ p - 1) < nw X
  · exact andNot_at hZ hY hX hneY hneX hp hl hl2 (.inl ⟨c, rfl⟩)
  · exact andNot_at hZ hY hX hneY hneX hp hl hl2 (.inr ⟨c, rfl⟩)
/-- An elder row is none of the new ones. -/
theorem new_ne {w : World} {v u : Value} {x : Nat} (hv : Nt w v x) (hu : ∀ b, u.ownBlock = some b → w.heap.size ≤ b) : ∀ g, v.ownBlock = some g → u.ownBlock ≠ some g := fun g hg e => by
  have h1 := (World.ownsRow.lt hv g hg).2
  have h2 := hu g e
  omega
theorem below_like {B : Nat} {w w1 w2 : World} (h : Below B w1 w2) (e1 : w1.heap = w.heap) (e2 : w1.tape = w.tape) (e3 : w1.os = w.os) (e4 : w1.output = w.output) : Below B w w2 :=
  ⟨h.os.trans e3, h.tape.trans e2, h.output.trans e4, by rw [← e1]; exact h.size, fun k hk => by rw [← e1]; exact h.block k hk⟩
theorem Bi.lt {w : World} {g : Nat} {s : Bool} {v : Value} (h : Bi w g s v) : g < w.heap.size := Blk.lt h

set_option maxRecDepth 100000 in
set_option maxHeartbeats 8000000 in
theorem andNot_neg {w : World} {gz gy B M p : Nat} {vz vy : Value} (hz : Bi w gz true vz) (hZ : Nt w vz M) (hy : Bi w gy true vy) (hY : Nt w vy (2 ^ p)) (hp : 0 < p) (hM : 0 < M) (hl : nw M ≤ 900) (hlp : nw (2 ^ p) ≤ 900)
    (hB : B ≤ gz) (hBr : ∀ b, vz.ownBlock = some b → B ≤ b) (hBs : B ≤ w.heap.size) :
    Calls Tryz.prog 62 #[.pointer (some ⟨gz, 0, none⟩), .pointer (some ⟨gz, 0, none⟩), .pointer (some ⟨gy, 0, none⟩)] w fun e w' => e = .returned (.pointer (some ⟨gz, 0, none⟩)) ∧ ∃ v, Bi w' gz false v ∧ Nt w' v (2 ^ p - 1 - (M - 1) % 2 ^ p) ∧ Below B w w' := by
  have cz0 := hz.cell 0
  have cz1 := hz.cell 1
  have cy0 := hy.cell 0
  have cy1 := hy.cell 1
  have fz0 := hz.frozen 0
  have fz1 := hz.frozen 1
  simp only [List.getElem?_toArray, List.getElem?_cons_zero, List.getElem?_cons_succ] at cz0 cz1 cy0 cy1
  have HZB : Hid (Bi w gz true vz) := hz
  have HYB : Hid (Bi w gy true vy) := hy
  have HZN : Hid (Nt w vz M) := hZ
  have HYN : Hid (Nt w vy (2 ^ p)) := hY
  have hpp : 0 < 2 ^ p := Nat.two_pow_pos p
  have HBr : Hid (∀ b, vz.ownBlock = some b → B ≤ b) := hBr
  have HPP : Hid (0 < 2 ^ p) := hpp
  have HLP : Hid (nw (2 ^ p) ≤ 900) := hlp
  clear hz hy hZ hY hBr hpp hlp
  go_enter Tryz.func62, Tryz.ntmps62
  go_wp2_with fail
  go_quiet (fail)
  go_upto_region 3 with fail
  have HZN1 : Hid (Nt (w.drewN nq).drew vz M) := HZN.out
  have HZB1 : Hid (Bi (w.drewN nq).drew gz true vz) := HZB.out
  go_cut [7] (fun s7 wx => Hid (Nt wx s7 (M - 1)) ∧ Hid (Below w.heap.size w wx) ∧ Hid (∀ b, s7.ownBlock = some b → w.heap.size ≤ b))
  case first =>
    go_region_with (first
      | (go_at_call 132; refine (one_c (w.drewN nq).drew).mono ?_; rintro e w1 ⟨v1, rfl, h1, hb1⟩
         have H1 : Hid (Nt w1 v1 1) := h1
         have HB1 : Hid (Below (w.drewN nq).drew.heap.size (w.drewN nq).drew w1) := hb1
         have HX1 : Hid (Nt w1 vz M) := HZN1.out.below hb1
         have d1 := (Blk.below' HZB1.out hb1).cell 1
         simp only [List.getElem?_toArray, List.getElem?_cons_zero, List.getElem?_cons_succ] at d1
         clear h1 hb1)
      | (go_at_call 131; refine (sub_some HX1.out H1.out hM hl).mono ?_; rintro e w2 ⟨v2, rfl, h2, hb2, hn2⟩
         have H2 : Hid (Nt w2 v2 (M - 1)) := h2
         have HB2 : Hid (Below w1.heap.size w1 w2) := hb2
         have HN2 : Hid (∀ b, v2.ownBlock = some b → w1.heap.size ≤ b) := hn2
         clear h2 hb2 hn2))
    all_goals
      go_wp2_with fail
      go_meet
      exact ⟨H2.out, below_like (below_chain (w := w.drewN nq) HB1.out HB2.out) rfl rfl rfl rfl, fun b hb => Nat.le_trans HB1.out.size (HN2.out b hb)⟩
  case rest =>
  obtain ⟨H7, HB7, HN7⟩ := hcut
  revert wc
  intro wa H7 HB7
  have HYN1 : Hid (Nt wa.drew vy (2 ^ p)) := (show Nt wa vy (2 ^ p) from HYN.out.below HB7.out)
  have HYB1 : Hid (Bi wa.drew gy true vy) := (show Bi wa gy true vy from Blk.below' HYB.out HB7.out)
  have cya := (Blk.below' HYB.out HB7.out).cell 1
  simp only [List.getElem?_toArray, List.getElem?_cons_zero, List.getElem?_cons_succ] at cya
  go_upto_region 4 with fail
  go_cut [8] (fun s8 wx => Hid (Nt wx s8 (2 ^ p - 1)) ∧ Hid (Below wa.heap.size wa wx) ∧ Hid (∀ b, s8.ownBlock = some b → wa.heap.size ≤ b))
  case first =>
    go_region_with (first
      | (go_at_call 132; refine (one_c wa.drew).mono ?_; rintro e w1 ⟨v1, rfl, h1, hb1⟩
         have H1 : Hid (Nt w1 v1 1) := h1
         have HB1 : Hid (Below wa.drew.heap.size wa.drew w1) := hb1
         have HX1 : Hid (Nt w1 vy (2 ^ p)) := HYN1.out.below hb1
         have d1 := (Blk.below' HYB1.out hb1).cell 1
         simp only [List.getElem?_toArray, List.getElem?_cons_zero, List.getElem?_cons_succ] at d1
         clear h1 hb1)
      | (go_at_call 131; refine (sub_some HX1.out H1.out HPP.out HLP.out).mono ?_; rintro e w2 ⟨v2, rfl, h2, hb2, hn2⟩
         have H2 : Hid (Nt w2 v2 (2 ^ p - 1)) := h2
         have HB2 : Hid (Below w1.heap.size w1 w2) := hb2
         have HN2 : Hid (∀ b, v2.ownBlock = some b → w1.heap.size ≤ b) := hn2
         clear h2 hb2 hn2))
    all_goals
      go_wp2_with fail
      go_meet
      exact ⟨H2.out, below_chain HB1.out HB2.out, fun b hb => Nat.le_trans HB1.out.size (HN2.out b hb)⟩
  case rest =>
  obtain ⟨H8, HB8, HN8⟩ := hcut
  revert wc
  intro wb H8 HB8
  have HBW : Hid (Below w.heap.size w wb) := HB7.out.trans (HB8.out.mono HB7.out.size)
  have HZb : Hid (Bi wb gz true vz) := Blk.below' HZB.out HBW.out
  have HZn : Hid (Nt wb vz M) := HZN.out.below HBW.out
  have H7b : Hid (Nt wb u7 (M - 1)) := H7.out.below HB8.out
  have czb := HZb.out.cell 1
  simp only [List.getElem?_toArray, List.getElem?_cons_zero, List.getElem?_cons_succ] at czb
  have hcall := andNot_c (p := p) (X := M - 1) HZn.out H8.out H7b.out (new_ne HZN.out (fun b hb => Nat.le_trans HB7.out.size (HN8.out b hb))) (new_ne HZN.out HN7.out) hp (Nat.le_trans (nw_mono (Nat.sub_le _ _)) hl) (Nat.le_trans (nw_mono (Nat.sub_le _ _)) HLP.out)
  go_wp2_with fail
  refine hcall.mono ?_
  rintro e w3 ⟨v, rfl, h3, hg3⟩
  obtain ⟨a3, c3, rfl, _⟩ := Sl.nil_or h3
  have H3 : Hid (Nt w3 (.slice a3 (nw (2 ^ p - 1 - (M - 1) % 2 ^ p)) c3) (2 ^ p - 1 - (M - 1) % 2 ^ p)) := h3
  have HG3 : Hid (wb.grownBy w3 vz.ownBlock) := hg3
  have HZ3 : Hid (Bi w3 gz true vz) := Blk.grown HZb.out hg3 (fun e => HZb.out.ne_row HZn.out e.symm)
  have e0 := HZ3.out.cell 0
  have e1 := HZ3.out.cell 1
  have f0 := HZ3.out.frozen 0
  have f1 := HZ3.out.frozen 1
  simp only [List.getElem?_toArray, List.getElem?_cons_zero, List.getElem?_cons_succ] at e0 e1
  obtain ⟨n3, hn3⟩ : ∃ n3, nw (2 ^ p - 1 - (M - 1) % 2 ^ p) = n3 := ⟨_, rfl⟩
  rw [hn3] at H3 ⊢
  clear hcall h3 hg3 hn3
  go_wp2_with fail
  go_ret
  refine ⟨rfl, _, HZ3.out.set1.set0, (H3.out.set (HZ3.out.ne_row H3.out)).set (HZ3.out.ne_row H3.out), ?_⟩
  have hbb := (HBW.out.mono hBs).grown HG3.out (Nat.le_trans hBs HBW.out.size) (fun k hk => HBr.out k hk)
  exact (hbb.setCell (p := ⟨gz, 1, none⟩) hB _).setCell (p := ⟨gz, 0, none⟩) hB _
end Wa
end Go.Proofs.YtdpnoaaeplgdjaaGreatDoor
