/-
  THE CLOSED FACTS of the row Rows.fnTurnedBitsRow: each by the kernel, each a theorem of its own (so that the kernel gives its memory back).
-/
import Derived.Test.YtdpnoaaeplgdjaaGreatDoorRows
import Derived.JoinedOf
import Derived.KernelRfl
namespace Go.Proofs.YtdpnoaaeplgdjaaGreatDoor
open Go
namespace Tb
theorem and2 {a b : Bool} (h : a = true) (k : b = true) : (a && b) = true := by rw [h, k]; rfl
theorem fact1 : (Rows.fnTurnedBitsRow.wf (OpenSpec.ofChange Rows.fnTurnedBitsSpec)) = true := by kernel_rfl
theorem fact2 : (laidOutB Tryz.prog) = true := by kernel_rfl
theorem fact3 : (mapsRowed Tryz.prog) = true := by kernel_rfl
theorem fact4 : (Tryz.f3.params.all (Tryz.prog.readableRec ·)) = true := by kernel_rfl
theorem fact5 : (namedTie Tryz.prog Rows.fnTurnedBitsRow.named Rows.fnTurnedBitsSpec.vars) = true := by kernel_rfl
theorem fact6 : ((Rows.fnTurnedBitsRow.stops == [])) = true := by kernel_rfl
theorem fact7 : ((Tryz.prog.stops == [])) = true := by kernel_rfl
theorem fact8 : ((Rows.fnTurnedBitsRow.knobs == [])) = true := by kernel_rfl
theorem fact9 : ((Tryz.prog.stopKnobs == [])) = true := by kernel_rfl
theorem fact10 : ((Rows.fnTurnedBitsRow.inPlace == Tryz.prog.inPlace 3)) = true := by kernel_rfl
theorem fact11 : ((Rows.fnTurnedBitsRow.unfollowed == Tryz.prog.unfollowed 3)) = true := by kernel_rfl
theorem fact12 : ((Rows.fnTurnedBitsRow.recurses == Tryz.prog.recurses 3)) = true := by kernel_rfl
theorem fact13 : ((Rows.fnTurnedBitsRow.named == Tryz.prog.varsNamed 3)) = true := by kernel_rfl
theorem fact14 : ((Rows.fnTurnedBitsRow.maps == (Tryz.f3.params.toList ++ Rows.fnTurnedBitsSpec.plain.varTypes Tryz.prog).any (Tryz.prog.mapsRec ·))) = true := by kernel_rfl
theorem fact15 : ((Rows.fnTurnedBitsRow.ifaces == (Tryz.f3.params.toList ++ Rows.fnTurnedBitsSpec.plain.varTypes Tryz.prog).any (Tryz.prog.ifacesRec ·))) = true := by kernel_rfl
theorem fact16 : ((Rows.fnTurnedBitsRow.mapsOut == Tryz.prog.mapsAmong Tryz.f3.resultTypes.toList)) = true := by kernel_rfl
theorem fact17 : ((Rows.fnTurnedBitsRow.loops == (Tryz.f3.params.toList ++ Rows.fnTurnedBitsSpec.plain.varTypes Tryz.prog).any (Tryz.prog.loopsFrom ·))) = true := by kernel_rfl
theorem fact18 : ((Rows.fnTurnedBitsRow.wideKeys == (Tryz.f3.params.toList ++ Rows.fnTurnedBitsSpec.plain.varTypes Tryz.prog ++ Tryz.f3.resultTypes.toList).any (Tryz.prog.wideKeysFrom ·))) = true := by kernel_rfl
theorem fact19 : (Rows.fnTurnedBitsSpec.vars.all (Tryz.prog.varReadable ·)) = true := by kernel_rfl
theorem fact20 : (Tryz.f3.resultTypes.all (fun t => Tryz.prog.readableRec t && decide (t < Tryz.prog.types.size))) = true := by kernel_rfl
theorem fact21 : ((Rows.fnTurnedBitsRow.ifacesOut == Tryz.f3.resultTypes.toList.any (Tryz.prog.ifacesRec ·))) = true := by kernel_rfl
theorem fact22 : ((Rows.fnTurnedBitsRow.loopsOut == Tryz.f3.resultTypes.toList.any (Tryz.prog.loopsFrom ·))) = true := by kernel_rfl
theorem fact23 : ((Rows.fnTurnedBitsRow.plainKeys == Tryz.prog.plainKeys)) = true := by kernel_rfl
theorem fact24 : (Rows.fnTurnedBitsRow.shortTexts.isNone) = true := by kernel_rfl
theorem fact25 : (Tryz.prog.stopsHeard) = true := by kernel_rfl
theorem fact26 : (Tryz.prog.mayEnter) = true := by kernel_rfl
theorem fact27 : ((Rows.fnTurnedBitsRow.lifted == Tryz.prog.liftsFinal)) = true := by kernel_rfl
theorem fact28 : ((Tryz.prog.make == some Rows.fnTurnedBitsRow.make)) = true := by kernel_rfl
theorem fact29 : ((Rows.fnTurnedBitsRow.kinds == (if Rows.fnTurnedBitsRow.domain.isEmpty then [] else Tryz.f3.params.toList.map fun t => match Tryz.prog.underlying t with | some (.int k) => some k | _ => none))) = true := by kernel_rfl
theorem fact30 : ((Rows.fnTurnedBitsRow.pinned == Rows.fnTurnedBitsRow.pinnedBy)) = true := by kernel_rfl
theorem fact31 : ((Rows.fnTurnedBitsRow.veiled == (Tryz.f3.params.toList ++ Rows.fnTurnedBitsSpec.plain.varTypes Tryz.prog ++ Tryz.f3.resultTypes.toList).any (Tryz.prog.veiledRec ·))) = true := by kernel_rfl
theorem fact32 : (Rows.fnTurnedBitsRow.veiledFits Tryz.prog Tryz.f3.params.toList (Tryz.f3.params.toList ++ Rows.fnTurnedBitsSpec.plain.varTypes Tryz.prog ++ Tryz.f3.resultTypes.toList)) = true := by kernel_rfl
set_option maxRecDepth 100000 in
theorem closed : joinedFacts Tryz.prog 3 Tryz.f3 Rows.fnTurnedBitsSpec Rows.fnTurnedBitsRow = true := by
  unfold joinedFacts
  exact (and2 (and2 (and2 (and2 (and2 (and2 (and2 (and2 (and2 (and2 (and2 (and2 (and2 (and2 (and2 (and2 (and2 (and2 (and2 (and2 (and2 (and2 (and2 (and2 (and2 (and2 (and2 (and2 (and2 (and2 (and2 fact1 fact2) fact3) fact4) fact5) fact6) fact7) fact8) fact9) fact10) fact11) fact12) fact13) fact14) fact15) fact16) fact17) fact18) fact19) fact20) fact21) fact22) fact23) fact24) fact25) fact26) fact27) fact28) fact29) fact30) fact31) fact32)
end Tb
end Go.Proofs.YtdpnoaaeplgdjaaGreatDoor
