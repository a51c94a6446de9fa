/-
  DERIVED. GIVEN WITH THE SEED: THE CARDS: each row of YtdpnoaaeplgdjaaGreatDoorRows.lean that lists a variable, with what it lists TIED to the program's text (the seventh form; the later family's looks); each row that meets fmt, with fmt's text TOLD by the authors' own Lean function (tested against real Go, not proved from fmt's source: count such statements apart). THE CARD IS WHAT COUNTS. Prove the row's statement (the work); the ties are given (YtdpnoaaeplgdjaaGreatDoorTie.lean); close each card by the builder's one call (the guide's Derived/Test/ToyasCard.lean, 'card_holds'). Laid BY PROGRAM, IN A SANDBOX (cutbox-door.mjs). By AI agents, Wed Nov 11 2026. No macro, syntax, notation, axiom, sorry.
-/
import Derived.Test.YtdpnoaaeplgdjaaGreatDoorRows
import GoSem.ClaimSeven
namespace Go.Proofs.YtdpnoaaeplgdjaaGreatDoor
namespace Rows

/-- THE TIED CARD OF 'laws.FnTurnedBits'. -/
def fnTurnedBitsCard : Claim7 := { stood := { row := fnTurnedBitsRow, standIns := [], harness := (true, "8f3292d332c59fd6c3cd4a8c27747bb5afd2372c56d282b19e720b45784fe8fc"), looks := true }, kinds := [], alts := [], laidByText := true, laidKinds := [.data, .data, .data, .data], laidTests := true, laidLooks := .later }
def FnTurnedBitsCardSaid : Prop := Claim7.holds Tryz.pinned (.plain (OpenSpec.ofChange fnTurnedBitsSpec)) fnTurnedBitsCard

/-- THE TIED CARD OF 'laws.FnTruths'. -/
def fnTruthsCard : Claim7 := { stood := { row := fnTruthsRow, standIns := [], harness := (true, "8f3292d332c59fd6c3cd4a8c27747bb5afd2372c56d282b19e720b45784fe8fc"), looks := true }, kinds := [], alts := [], laidByText := true, laidKinds := [.data, .data, .data, .data], laidTests := true, laidLooks := .later }
def FnTruthsCardSaid : Prop := Claim7.holds Tryz.pinned (.plain (OpenSpec.ofChange fnTruthsSpec)) fnTruthsCard

/-- THE TIED CARD OF 'laws.FnTextWritten'. -/
def fnTextWrittenCard : Claim7 := { stood := { row := fnTextWrittenRow, standIns := [], harness := (true, "8f3292d332c59fd6c3cd4a8c27747bb5afd2372c56d282b19e720b45784fe8fc"), looks := true }, kinds := [], alts := [], laidByText := true, laidKinds := [.data, .data, .data, .data, .sentinel, .sentinel, .sentinel, .data, .sentinel, .sentinel, .data, .data, .data, .data, .pinned], laidTests := true, laidLooks := .later }
def FnTextWrittenCardSaid : Prop := Claim7.holds Tryz.pinned (.plain (OpenSpec.ofChange fnTextWrittenSpec)) fnTextWrittenCard

/-- THE SECOND FORM's CARD OF 'laws.FnTurnedBits'. -/
def fnTurnedBitsUptoCard : Claim7 := { stood := { row := fnTurnedBitsUptoRow, standIns := [], harness := (true, "8f3292d332c59fd6c3cd4a8c27747bb5afd2372c56d282b19e720b45784fe8fc"), looks := true }, kinds := [], alts := [], laidByText := true, laidKinds := [.data, .data, .data, .data], laidTests := true, laidLooks := .later }
def FnTurnedBitsUptoCardSaid : Prop := Claim7.holds Tryz.pinned (.plain (OpenSpec.upto fnTurnedBitsSpec)) fnTurnedBitsUptoCard

/-- THE SECOND FORM's CARD OF 'laws.FnTruths'. -/
def fnTruthsUptoCard : Claim7 := { stood := { row := fnTruthsUptoRow, standIns := [], harness := (true, "8f3292d332c59fd6c3cd4a8c27747bb5afd2372c56d282b19e720b45784fe8fc"), looks := true }, kinds := [], alts := [], laidByText := true, laidKinds := [.data, .data, .data, .data], laidTests := true, laidLooks := .later }
def FnTruthsUptoCardSaid : Prop := Claim7.holds Tryz.pinned (.plain (OpenSpec.upto fnTruthsSpec)) fnTruthsUptoCard

/-- THE SECOND FORM's CARD OF 'laws.FnTextWritten'. -/
def fnTextWrittenUptoCard : Claim7 := { stood := { row := fnTextWrittenUptoRow, standIns := [], harness := (true, "8f3292d332c59fd6c3cd4a8c27747bb5afd2372c56d282b19e720b45784fe8fc"), looks := true }, kinds := [], alts := [], laidByText := true, laidKinds := [.data, .data, .data, .data, .sentinel, .sentinel, .sentinel, .data, .sentinel, .sentinel, .data, .data, .data, .data, .pinned], laidTests := true, laidLooks := .later }
def FnTextWrittenUptoCardSaid : Prop := Claim7.holds Tryz.pinned (.plain (OpenSpec.upto fnTextWrittenSpec)) fnTextWrittenUptoCard
end Rows
end Go.Proofs.YtdpnoaaeplgdjaaGreatDoor
