/-
  PROVED: the card of FnTruths: for every two truths and, or, not and the comparisons of truths answer as the language says; the call returns true and its arguments read as before.
  Conditions: the four package variables that the row lists are laid as the program's text lays them (the card ties them); the repository beside the seat is pruned.
-/
import Derived.Test.YtdpnoaaeplgdjaaGreatDoorRows
import Derived.Test.YtdpnoaaeplgdjaaGreatDoorCards
import Derived.Test.YtdpnoaaeplgdjaaGreatDoorTie
import Derived.Test.YtdpnoaaeplgdjaaGreatDoorTr4
import Derived.Test.YtdpnoaaeplgdjaaGreatDoorTrFacts
import Derived.ProofKit
import Derived.OpenVars
import Derived.LaidMore
import Derived.OpenShut
import Derived.Stop.Joined
import Derived.SevenTiedAt
namespace Go.Proofs.YtdpnoaaeplgdjaaGreatDoor
open Go.ChangeShapes Go.WideShapes Go.ChangeAt Go.RowKit
namespace Tr

theorem own : ownKnob Tryz.prog.godebug = none := by kernel_rfl
theorem laidOut : laidOutB Tryz.prog = true := by kernel_rfl

theorem door_met (os : Os) (args : Array Value) : laidMetH Tryz.prog Rows.fnTruthsRow.laid ((World.doorLaid Tryz.prog 150 os).forCall (fun _ _ => 0) ⟨#[], args, []⟩).memory :=
  laidMetH_of_parts3 (fuel := 8) (laidMet_of_run' 8 (by kernel_rfl) (by kernel_rfl)) (by kernel_rfl) (by kernel_rfl)

set_option maxRecDepth 100000 in
theorem lifted (os : Os) (started : os.Started) (H : Type) (enc : TypeId × Value → H) :
    ReturnsInHanded {} Tryz.checked os 4 .any (fun w args => (Rows.fnTruthsSpec.pre enc Tryz.prog Tryz.f4 [] false w args ∧ laidMetH Tryz.prog Rows.fnTruthsRow.laid w) ∧ sizedMet enc Tryz.prog Tryz.f4 (OpenSpec.ofChange Rows.fnTruthsSpec) false w args)
      (Rows.fnTruthsSpec.post enc Tryz.prog Tryz.f4 false true false false) := by
  refine returnsInHanded_of_change_and (C := Tryz.checked) (X := fun w _ => laidMetH Tryz.prog Rows.fnTruthsRow.laid w) (fun _ _ _ hh h => h.of_heap hh) own started (by kernel_rfl) Tryz.func4
    (ChangeSpec.witness_shaped (enc := enc) (C := Tryz.checked) (os := os) (X := fun w _ => laidMetH Tryz.prog Rows.fnTruthsRow.laid w) false (World.doorLaid Tryz.prog 150 os) #[.bool false, .bool false] 8 rfl (World.shaped_of_RefB (by kernel_rfl) (by kernel_rfl)) (by kernel_rfl) (by kernel_rfl) (by kernel_rfl) (door_met os _)) ?_
  intro W base args ds gs before hval0 hW _ _ _ _
  have hval : ∀ (j : Nat) t v, Tryz.f4.params[j]? = some t → args[j]? = some v → Value.okWide Tryz.prog W .any base t v := hval0
  have hW' := hW
  obtain ⟨p, q, hA0, hV, rfl, _, _⟩ := hW
  have hA : DataW.TrodAll enc Tryz.prog W 0 (fun _ => true) true Tryz.f4.params.toList args.toList ds p := hA0
  rw [Tryz.params4] at hA hval
  obtain ⟨v0, v1, d0, d1, p0, p1, rfl, rfl, rfl, h0, h1⟩ := trodAll_two hA
  obtain ⟨a, rfl, rfl, rfl⟩ := open_bool Tryz.underlying4 (hval 0 4 v0 rfl rfl) h0
  obtain ⟨b, rfl, rfl, rfl⟩ := open_bool Tryz.underlying4 (hval 1 4 v1 rfl rfl) h1
  match gs, hV with
  | [g1, g2, g3, g4], hV =>
    refine (truths_any a b W).mono fun e W' ⟨he, hb⟩ => ?_
    subst he
    exact ⟨_, rfl, _, _, _, [], [], q, hW', trodAll_mk1 (shut_bool Tryz.underlying4 _), trodAll_mk2 (shut_bool Tryz.underlying4 a) (shut_bool Tryz.underlying4 b), hb.trodVars laidOut (by kernel_rfl) hV, hb.frame _, fun h => by cases h⟩

theorem named4 : Tryz.prog.funcNamed "loop.example/pub-g03250/laws.FnTruths" = some 4 := by kernel_rfl
theorem inst4 : Tryz.f4.isInstance Tryz.prog Rows.fnTruthsRow.origin Rows.fnTruthsRow.targs := of_decide_eq_true (by kernel_rfl)
theorem wrap4 : Tryz.f4.isWrapper Tryz.prog Rows.fnTruthsRow.wrapper Rows.fnTruthsRow.mainSum := by
  unfold Func.isWrapper
  first | (rw [if_pos (by decide +kernel)]; kernel_rfl) | (rw [if_neg (by decide +kernel)]; exact ⟨rfl, rfl⟩)

theorem row_holds : Rows.FnTruthsSaid :=
  OpenClaim.holds_of_wide 4 Tryz.f4 rfl rfl rfl rfl rfl rfl rfl ⟨rfl, rfl, rfl, rfl, rfl⟩ rfl rfl rfl rfl rfl named4 Tryz.func4 closed inst4 wrap4
    (fun os started H enc _ => lifted os started H enc)

theorem text4 : Rows.fnTruthsRow.wfByText (OpenSpec.ofChange Rows.fnTruthsSpec) = true := by kernel_rfl
theorem main4 : Tryz.prog.mainIs = some (true, "8f3292d332c59fd6c3cd4a8c27747bb5afd2372c56d282b19e720b45784fe8fc".toList) := by kernel_rfl
theorem looks4 : true = Tryz.prog.looks [] := by kernel_rfl
theorem stand4 : ([4, 4].all fun u => !Tryz.prog.wantsStandIn u) = true := by kernel_rfl
theorem goes4 : false = Rows.fnTruthsRow.goesBy Tryz.prog := by kernel_rfl

theorem card_holds : Rows.FnTruthsCardSaid :=
  Claim7.holds_tied_plain_at .later [] [.data, .data, .data, .data] true (true, "8f3292d332c59fd6c3cd4a8c27747bb5afd2372c56d282b19e720b45784fe8fc") true
    row_holds (fun _ h => by cases h) text4 (fun _ h => by cases h) fnTruths_row_tie rfl ⟨rfl, rfl⟩ main4 rfl
    (fun f fn hf hfn => by
      obtain rfl : f = 4 := Option.some.inj (named4.symm.trans hf) |>.symm
      obtain rfl : fn = Tryz.f4 := (Option.some.inj (Tryz.func4.symm.trans hfn)).symm
      exact ⟨looks4, fun j t ht => by
        rw [Tryz.params4] at ht
        have hm : t ∈ [4, 4] := by simpa using Array.mem_of_getElem? ht
        exact (show Tryz.prog.wantsStandIn t = false by simpa using List.all_eq_true.1 stand4 t hm)⟩)
    goes4
#print axioms card_holds
end Tr
end Go.Proofs.YtdpnoaaeplgdjaaGreatDoor
