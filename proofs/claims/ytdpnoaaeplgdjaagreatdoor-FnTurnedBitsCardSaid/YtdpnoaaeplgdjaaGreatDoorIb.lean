/-
  THE WALK OF big.Int's AndNot, in place, of a number that is not below 0 by a number below 0.
-/
import Derived.Test.YtdpnoaaeplgdjaaGreatDoorIa
namespace Go.Proofs.YtdpnoaaeplgdjaaGreatDoor
open Go.RowKit
namespace Wa
open Rg

set_option maxRecDepth 100000 in
set_option maxHeartbeats 8000000 in
theorem andNot_pos {w : World} {gz gy B M p : Nat} {vz vy : Value} (hz : Bi w gz false vz) (hZ : Nt w vz M) (hy : Bi w gy true vy) (hY : Nt w vy (2 ^ p)) (hp : 0 < p) (hl : nw M ≤ 900) (hlp : nw (2 ^ p) ≤ 900)
    (hB : B ≤ gz) (hBr : ∀ b, vz.ownBlock = some b → B ≤ b) (hBs : B ≤ w.heap.size) :
    Calls Tryz.prog 62 #[.pointer (some ⟨gz, 0, none⟩), .pointer (some ⟨gz, 0, none⟩), .pointer (some ⟨gy, 0, none⟩)] w fun e w' => e = .returned (.pointer (some ⟨gz, 0, none⟩)) ∧ ∃ v, Bi w' gz false v ∧ Nt w' v (M % 2 ^ p) ∧ Below B w w' := by
  have cz0 := hz.cell 0
  have cz1 := hz.cell 1
  have cy0 := hy.cell 0
  have cy1 := hy.cell 1
  have fz0 := hz.frozen 0
  have fz1 := hz.frozen 1
  simp only [List.getElem?_toArray, List.getElem?_cons_zero, List.getElem?_cons_succ] at cz0 cz1 cy0 cy1
  have HZB : Hid (Bi w gz false vz) := hz
  have HYB : Hid (Bi w gy true vy) := hy
  have HZN : Hid (Nt w vz M) := hZ
  have HYN : Hid (Nt w vy (2 ^ p)) := hY
  have hpp : 0 < 2 ^ p := Nat.two_pow_pos p
  have HBr : Hid (∀ b, vz.ownBlock = some b → B ≤ b) := hBr
  have HPP : Hid (0 < 2 ^ p) := hpp
  have HLP : Hid (nw (2 ^ p) ≤ 900) := hlp
  clear hz hy hZ hY hBr hpp hlp
  go_enter Tryz.func62, Tryz.ntmps62
  go_wp2_with fail
  go_quiet (fail)
  have HYN1 : Hid (Nt (w.drewN nq).drew vy (2 ^ p)) := HYN.out
  have HYB1 : Hid (Bi (w.drewN nq).drew gy true vy) := HYB.out
  go_upto_region 16 with fail
  go_cut [10] (fun s10 wx => Hid (Nt wx s10 (2 ^ p - 1)) ∧ Hid (Below w.heap.size w wx) ∧ Hid (∀ b, s10.ownBlock = some b → w.heap.size ≤ b))
  case first =>
    go_region_with (first
      | (go_at_call 132; refine (one_c (w.drewN nq).drew).mono ?_; rintro e w1 ⟨v1, rfl, h1, hb1⟩
         have H1 : Hid (Nt w1 v1 1) := h1
         have HB1 : Hid (Below (w.drewN nq).drew.heap.size (w.drewN nq).drew w1) := hb1
         have HX1 : Hid (Nt w1 vy (2 ^ p)) := HYN1.out.below hb1
         have d1 := (Blk.below' HYB1.out hb1).cell 1
         simp only [List.getElem?_toArray, List.getElem?_cons_zero, List.getElem?_cons_succ] at d1
         clear h1 hb1)
      | (go_at_call 131; refine (sub_some HX1.out H1.out HPP.out HLP.out).mono ?_; rintro e w2 ⟨v2, rfl, h2, hb2, hn2⟩
         have H2 : Hid (Nt w2 v2 (2 ^ p - 1)) := h2
         have HB2 : Hid (Below w1.heap.size w1 w2) := hb2
         have HN2 : Hid (∀ b, v2.ownBlock = some b → w1.heap.size ≤ b) := hn2
         clear h2 hb2 hn2))
    all_goals
      go_wp2_with fail
      go_meet
      exact ⟨H2.out, below_like (below_chain (w := w.drewN nq) HB1.out HB2.out) rfl rfl rfl rfl, fun b hb => Nat.le_trans HB1.out.size (HN2.out b hb)⟩
  case rest =>
  obtain ⟨H8, HB8, HN8⟩ := hcut
  revert wc
  intro wb H8 HB8
  have HZb : Hid (Bi wb.drew gz false vz) := (show Bi wb gz false vz from Blk.below' HZB.out HB8.out)
  have HZn : Hid (Nt wb.drew vz M) := (show Nt wb vz M from HZN.out.below HB8.out)
  have H8b : Hid (Nt wb.drew u10 (2 ^ p - 1)) := H8.out
  have czb := HZb.out.cell 1
  have fzb := HZb.out.frozen 1
  simp only [List.getElem?_toArray, List.getElem?_cons_zero, List.getElem?_cons_succ] at czb
  replace czb : wb.cell? ⟨gz, 1, none⟩ = some vz := czb
  replace fzb : wb.frozen? ⟨gz, 1, none⟩ = false := fzb
  have hcall := and_c (p := p) (X := M) HZn.out H8b.out (new_ne HZN.out HN8.out) hp hl (Nat.le_trans (nw_mono (Nat.sub_le _ _)) HLP.out)
  go_upto_region 17 with fail
  go_region_with (go_at_call 136; refine hcall.mono ?_; rintro e w3 ⟨v, rfl, h3, hg3⟩
                  obtain ⟨a3, c3, rfl, _⟩ := Sl.nil_or h3
                  have H3 : Hid (Nt w3 (.slice a3 (nw (M % 2 ^ p)) c3) (M % 2 ^ p)) := h3
                  have HG3 : Hid (wb.drew.grownBy w3 vz.ownBlock) := hg3
                  have HZ3 : Hid (Bi w3 gz false vz) := Blk.grown HZb.out hg3 (fun e => HZb.out.ne_row HZn.out e.symm)
                  have e0 := HZ3.out.cell 0
                  have e1 := HZ3.out.cell 1
                  have f0 := HZ3.out.frozen 0
                  have f1 := HZ3.out.frozen 1
                  simp only [List.getElem?_toArray, List.getElem?_cons_zero, List.getElem?_cons_succ] at e0 e1
                  clear h3 hg3)
  all_goals
    go_wp2_with fail
    go_ret
    refine ⟨rfl, _, HZ3.out.set1.set0, (H3.out.set (HZ3.out.ne_row H3.out)).set (HZ3.out.ne_row H3.out), ?_⟩
    have hbb := (HB8.out.mono hBs).grown (grown_like (w2 := w3) (w1 := w3) (w := wb) ⟨HG3.out.os, HG3.out.tape, HG3.out.output, HG3.out.size, HG3.out.block⟩ rfl rfl rfl rfl) (Nat.le_trans hBs HB8.out.size) (fun k hk => HBr.out k hk)
    exact (hbb.setCell (p := ⟨gz, 1, none⟩) hB _).setCell (p := ⟨gz, 0, none⟩) hB _
end Wa
end Go.Proofs.YtdpnoaaeplgdjaaGreatDoor
