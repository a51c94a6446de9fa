/-
  THE CLOSED FACTS of the row Rows.fnTruthsRow: each by the kernel, each a theorem of its own (so that the kernel gives its memory back).
-/
import Derived.Test.YtdpnoaaeplgdjaaGreatDoorRows
import Derived.JoinedOf
import Derived.KernelRfl
namespace Go.Proofs.YtdpnoaaeplgdjaaGreatDoor
open Go
namespace Tr
theorem and2 {a b : Bool} (h : a = true) (k : b = true) : (a && b) = true := by rw [h, k]; rfl
theorem fact1 : (Rows.fnTruthsRow.wf (OpenSpec.ofChange Rows.fnTruthsSpec)) = true := by kernel_rfl
theorem fact2 : (laidOutB Tryz.prog) = true := by kernel_rfl
theorem fact3 : (mapsRowed Tryz.prog) = true := by kernel_rfl
theorem fact4 : (Tryz.f4.params.all (Tryz.prog.readableRec ·)) = true := by kernel_rfl
theorem fact5 : (namedTie Tryz.prog Rows.fnTruthsRow.named Rows.fnTruthsSpec.vars) = true := by kernel_rfl
theorem fact6 : ((Rows.fnTruthsRow.stops == [])) = true := by kernel_rfl
theorem fact7 : ((Tryz.prog.stops == [])) = true := by kernel_rfl
theorem fact8 : ((Rows.fnTruthsRow.knobs == [])) = true := by kernel_rfl
theorem fact9 : ((Tryz.prog.stopKnobs == [])) = true := by kernel_rfl
theorem fact10 : ((Rows.fnTruthsRow.inPlace == Tryz.prog.inPlace 4)) = true := by kernel_rfl
theorem fact11 : ((Rows.fnTruthsRow.unfollowed == Tryz.prog.unfollowed 4)) = true := by kernel_rfl
theorem fact12 : ((Rows.fnTruthsRow.recurses == Tryz.prog.recurses 4)) = true := by kernel_rfl
theorem fact13 : ((Rows.fnTruthsRow.named == Tryz.prog.varsNamed 4)) = true := by kernel_rfl
theorem fact14 : ((Rows.fnTruthsRow.maps == (Tryz.f4.params.toList ++ Rows.fnTruthsSpec.plain.varTypes Tryz.prog).any (Tryz.prog.mapsRec ·))) = true := by kernel_rfl
theorem fact15 : ((Rows.fnTruthsRow.ifaces == (Tryz.f4.params.toList ++ Rows.fnTruthsSpec.plain.varTypes Tryz.prog).any (Tryz.prog.ifacesRec ·))) = true := by kernel_rfl
theorem fact16 : ((Rows.fnTruthsRow.mapsOut == Tryz.prog.mapsAmong Tryz.f4.resultTypes.toList)) = true := by kernel_rfl
theorem fact17 : ((Rows.fnTruthsRow.loops == (Tryz.f4.params.toList ++ Rows.fnTruthsSpec.plain.varTypes Tryz.prog).any (Tryz.prog.loopsFrom ·))) = true := by kernel_rfl
theorem fact18 : ((Rows.fnTruthsRow.wideKeys == (Tryz.f4.params.toList ++ Rows.fnTruthsSpec.plain.varTypes Tryz.prog ++ Tryz.f4.resultTypes.toList).any (Tryz.prog.wideKeysFrom ·))) = true := by kernel_rfl
theorem fact19 : (Rows.fnTruthsSpec.vars.all (Tryz.prog.varReadable ·)) = true := by kernel_rfl
theorem fact20 : (Tryz.f4.resultTypes.all (fun t => Tryz.prog.readableRec t && decide (t < Tryz.prog.types.size))) = true := by kernel_rfl
theorem fact21 : ((Rows.fnTruthsRow.ifacesOut == Tryz.f4.resultTypes.toList.any (Tryz.prog.ifacesRec ·))) = true := by kernel_rfl
theorem fact22 : ((Rows.fnTruthsRow.loopsOut == Tryz.f4.resultTypes.toList.any (Tryz.prog.loopsFrom ·))) = true := by kernel_rfl
theorem fact23 : ((Rows.fnTruthsRow.plainKeys == Tryz.prog.plainKeys)) = true := by kernel_rfl
theorem fact24 : (Rows.fnTruthsRow.shortTexts.isNone) = true := by kernel_rfl
theorem fact25 : (Tryz.prog.stopsHeard) = true := by kernel_rfl
theorem fact26 : (Tryz.prog.mayEnter) = true := by kernel_rfl
theorem fact27 : ((Rows.fnTruthsRow.lifted == Tryz.prog.liftsFinal)) = true := by kernel_rfl
theorem fact28 : ((Tryz.prog.make == some Rows.fnTruthsRow.make)) = true := by kernel_rfl
theorem fact29 : ((Rows.fnTruthsRow.kinds == (if Rows.fnTruthsRow.domain.isEmpty then [] else Tryz.f4.params.toList.map fun t => match Tryz.prog.underlying t with | some (.int k) => some k | _ => none))) = true := by kernel_rfl
theorem fact30 : ((Rows.fnTruthsRow.pinned == Rows.fnTruthsRow.pinnedBy)) = true := by kernel_rfl
theorem fact31 : ((Rows.fnTruthsRow.veiled == (Tryz.f4.params.toList ++ Rows.fnTruthsSpec.plain.varTypes Tryz.prog ++ Tryz.f4.resultTypes.toList).any (Tryz.prog.veiledRec ·))) = true := by kernel_rfl
theorem fact32 : (Rows.fnTruthsRow.veiledFits Tryz.prog Tryz.f4.params.toList (Tryz.f4.params.toList ++ Rows.fnTruthsSpec.plain.varTypes Tryz.prog ++ Tryz.f4.resultTypes.toList)) = true := by kernel_rfl
set_option maxRecDepth 100000 in
theorem closed : joinedFacts Tryz.prog 4 Tryz.f4 Rows.fnTruthsSpec Rows.fnTruthsRow = true := by
  unfold joinedFacts
  exact (and2 (and2 (and2 (and2 (and2 (and2 (and2 (and2 (and2 (and2 (and2 (and2 (and2 (and2 (and2 (and2 (and2 (and2 (and2 (and2 (and2 (and2 (and2 (and2 (and2 (and2 (and2 (and2 (and2 (and2 (and2 fact1 fact2) fact3) fact4) fact5) fact6) fact7) fact8) fact9) fact10) fact11) fact12) fact13) fact14) fact15) fact16) fact17) fact18) fact19) fact20) fact21) fact22) fact23) fact24) fact25) fact26) fact27) fact28) fact29) fact30) fact31) fact32)
end Tr
end Go.Proofs.YtdpnoaaeplgdjaaGreatDoor
