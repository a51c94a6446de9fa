/-
  THE CLOSED FACTS of the row Rows.fnTextWrittenRow: each by the kernel, each a theorem of its own (so that the kernel gives its memory back).
-/
import Derived.Test.YtdpnoaaeplgdjaaGreatDoorRows
import Derived.JoinedOf
import Derived.KernelRfl
namespace Go.Proofs.YtdpnoaaeplgdjaaGreatDoor
open Go
namespace Tx
theorem and2 {a b : Bool} (h : a = true) (k : b = true) : (a && b) = true := by rw [h, k]; rfl
theorem fact1 : (Rows.fnTextWrittenRow.wf (OpenSpec.ofChange Rows.fnTextWrittenSpec)) = true := by kernel_rfl
theorem fact2 : (laidOutB Tryz.prog) = true := by kernel_rfl
theorem fact3 : (mapsRowed Tryz.prog) = true := by kernel_rfl
theorem fact4 : (Tryz.f5.params.all (Tryz.prog.readableRec ·)) = true := by kernel_rfl
theorem fact5 : (namedTie Tryz.prog Rows.fnTextWrittenRow.named Rows.fnTextWrittenSpec.vars) = true := by kernel_rfl
theorem fact6 : ((Rows.fnTextWrittenRow.stops == [])) = true := by kernel_rfl
theorem fact7 : ((Tryz.prog.stops == [])) = true := by kernel_rfl
theorem fact8 : ((Rows.fnTextWrittenRow.knobs == [])) = true := by kernel_rfl
theorem fact9 : ((Tryz.prog.stopKnobs == [])) = true := by kernel_rfl
theorem fact10 : ((Rows.fnTextWrittenRow.inPlace == Tryz.prog.inPlace 5)) = true := by kernel_rfl
theorem fact11 : ((Rows.fnTextWrittenRow.unfollowed == Tryz.prog.unfollowed 5)) = true := by kernel_rfl
theorem fact12 : ((Rows.fnTextWrittenRow.recurses == Tryz.prog.recurses 5)) = true := by kernel_rfl
theorem fact13 : ((Rows.fnTextWrittenRow.named == Tryz.prog.varsNamed 5)) = true := by kernel_rfl
theorem fact14 : ((Rows.fnTextWrittenRow.maps == (Tryz.f5.params.toList ++ Rows.fnTextWrittenSpec.plain.varTypes Tryz.prog).any (Tryz.prog.mapsRec ·))) = true := by kernel_rfl
theorem fact15 : ((Rows.fnTextWrittenRow.ifaces == (Tryz.f5.params.toList ++ Rows.fnTextWrittenSpec.plain.varTypes Tryz.prog).any (Tryz.prog.ifacesRec ·))) = true := by kernel_rfl
theorem fact16 : ((Rows.fnTextWrittenRow.mapsOut == Tryz.prog.mapsAmong Tryz.f5.resultTypes.toList)) = true := by kernel_rfl
theorem fact17 : ((Rows.fnTextWrittenRow.loops == (Tryz.f5.params.toList ++ Rows.fnTextWrittenSpec.plain.varTypes Tryz.prog).any (Tryz.prog.loopsFrom ·))) = true := by kernel_rfl
theorem fact18 : ((Rows.fnTextWrittenRow.wideKeys == (Tryz.f5.params.toList ++ Rows.fnTextWrittenSpec.plain.varTypes Tryz.prog ++ Tryz.f5.resultTypes.toList).any (Tryz.prog.wideKeysFrom ·))) = true := by kernel_rfl
theorem fact19 : (Rows.fnTextWrittenSpec.vars.all (Tryz.prog.varReadable ·)) = true := by kernel_rfl
theorem fact20 : (Tryz.f5.resultTypes.all (fun t => Tryz.prog.readableRec t && decide (t < Tryz.prog.types.size))) = true := by kernel_rfl
theorem fact21 : ((Rows.fnTextWrittenRow.ifacesOut == Tryz.f5.resultTypes.toList.any (Tryz.prog.ifacesRec ·))) = true := by kernel_rfl
theorem fact22 : ((Rows.fnTextWrittenRow.loopsOut == Tryz.f5.resultTypes.toList.any (Tryz.prog.loopsFrom ·))) = true := by kernel_rfl
theorem fact23 : ((Rows.fnTextWrittenRow.plainKeys == Tryz.prog.plainKeys)) = true := by kernel_rfl
theorem fact24 : (Rows.fnTextWrittenRow.shortTexts.isNone) = true := by kernel_rfl
theorem fact25 : (Tryz.prog.stopsHeard) = true := by kernel_rfl
theorem fact26 : (Tryz.prog.mayEnter) = true := by kernel_rfl
theorem fact27 : ((Rows.fnTextWrittenRow.lifted == Tryz.prog.liftsFinal)) = true := by kernel_rfl
theorem fact28 : ((Tryz.prog.make == some Rows.fnTextWrittenRow.make)) = true := by kernel_rfl
theorem fact29 : ((Rows.fnTextWrittenRow.kinds == (if Rows.fnTextWrittenRow.domain.isEmpty then [] else Tryz.f5.params.toList.map fun t => match Tryz.prog.underlying t with | some (.int k) => some k | _ => none))) = true := by kernel_rfl
theorem fact30 : ((Rows.fnTextWrittenRow.pinned == Rows.fnTextWrittenRow.pinnedBy)) = true := by kernel_rfl
theorem fact31 : ((Rows.fnTextWrittenRow.veiled == (Tryz.f5.params.toList ++ Rows.fnTextWrittenSpec.plain.varTypes Tryz.prog ++ Tryz.f5.resultTypes.toList).any (Tryz.prog.veiledRec ·))) = true := by kernel_rfl
theorem fact32 : (Rows.fnTextWrittenRow.veiledFits Tryz.prog Tryz.f5.params.toList (Tryz.f5.params.toList ++ Rows.fnTextWrittenSpec.plain.varTypes Tryz.prog ++ Tryz.f5.resultTypes.toList)) = true := by kernel_rfl
set_option maxRecDepth 100000 in
theorem closed : joinedFacts Tryz.prog 5 Tryz.f5 Rows.fnTextWrittenSpec Rows.fnTextWrittenRow = true := by
  unfold joinedFacts
  exact (and2 (and2 (and2 (and2 (and2 (and2 (and2 (and2 (and2 (and2 (and2 (and2 (and2 (and2 (and2 (and2 (and2 (and2 (and2 (and2 (and2 (and2 (and2 (and2 (and2 (and2 (and2 (and2 (and2 (and2 (and2 fact1 fact2) fact3) fact4) fact5) fact6) fact7) fact8) fact9) fact10) fact11) fact12) fact13) fact14) fact15) fact16) fact17) fact18) fact19) fact20) fact21) fact22) fact23) fact24) fact25) fact26) fact27) fact28) fact29) fact30) fact31) fact32)
end Tx
end Go.Proofs.YtdpnoaaeplgdjaaGreatDoor
