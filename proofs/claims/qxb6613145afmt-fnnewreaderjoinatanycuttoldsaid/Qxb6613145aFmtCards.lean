/-
  DERIVED. GIVEN WITH THE SEED: THE CARDS: each row of Qxb6613145aFmtRows.lean that lists a variable, with what it lists TIED to the program's text (the seventh form; the later family's looks); each row that meets fmt, with fmt's text TOLD by the authors' own Lean function (tested against real Go, not proved from fmt's source: count such statements apart). THE CARD IS WHAT COUNTS. Prove the row's statement (the work); the ties are given (Qxb6613145aFmtTie.lean); close each card by the builder's one call (the guide's Derived/Test/ToyasCard.lean, 'card_holds'). Laid BY PROGRAM, IN A SANDBOX (cutbox-door.mjs). By AI agents, Wed Nov 11 2026. No macro, syntax, notation, axiom, sorry.
-/
import Derived.Test.Qxb6613145aFmtRows
import GoSem.ClaimSeven
namespace Go.Proofs.Qxb6613145aFmt
namespace Rows

/-- THE TOLD AND TIED CARD OF 'zzlaws_internal_lines_b1.FnNewReaderLinesMatchModel'. -/
def fnNewReaderLinesMatchModelCard : Claim7 := { stood := { row := fnNewReaderLinesMatchModelRow, standIns := [], harness := (true, "2582731dd205759d2dc838d88cda78589b0dfb600e83f9745a1ea98e5e2ee1de"), looks := true }, told := true, laidByText := true, laidKinds := [.sentinel, .sentinel, .sentinel, .sentinel, .sentinel, .sentinel, .sentinel], laidTests := true, laidLooks := .later, goes := false }
def FnNewReaderLinesMatchModelToldSaid : Prop := Claim7.holds Tryf.pinned (.plain (OpenSpec.ofChange fnNewReaderLinesMatchModelSpec)) fnNewReaderLinesMatchModelCard
/-- ITS FALSE NEIGHBOUR. Refute it at one input. -/
def FnNewReaderLinesMatchModelToldWrongFalsely : Prop := Claim7.holds Tryf.pinned (.plain (OpenSpec.ofChange fnNewReaderLinesMatchModelWrong)) fnNewReaderLinesMatchModelCard

/-- THE TOLD AND TIED CARD OF 'zzlaws_internal_lines_b1.FnNewReaderJoinAtAnyCut'. -/
def fnNewReaderJoinAtAnyCutCard : Claim7 := { stood := { row := fnNewReaderJoinAtAnyCutRow, standIns := [], harness := (true, "2582731dd205759d2dc838d88cda78589b0dfb600e83f9745a1ea98e5e2ee1de"), looks := true }, told := true, laidByText := true, laidKinds := [.sentinel, .sentinel, .sentinel, .sentinel, .sentinel, .sentinel, .sentinel], laidTests := true, laidLooks := .later, goes := false }
def FnNewReaderJoinAtAnyCutToldSaid : Prop := Claim7.holds Tryf.pinned (.plain (OpenSpec.ofChange fnNewReaderJoinAtAnyCutSpec)) fnNewReaderJoinAtAnyCutCard
/-- ITS FALSE NEIGHBOUR. Refute it at one input. -/
def FnNewReaderJoinAtAnyCutToldWrongFalsely : Prop := Claim7.holds Tryf.pinned (.plain (OpenSpec.ofChange fnNewReaderJoinAtAnyCutWrong)) fnNewReaderJoinAtAnyCutCard

/-- THE TOLD AND TIED CARD OF 'zzlaws_internal_lines_b1.FnEachStopsAtK'. -/
def fnEachStopsAtKCard : Claim7 := { stood := { row := fnEachStopsAtKRow, standIns := [], harness := (true, "2582731dd205759d2dc838d88cda78589b0dfb600e83f9745a1ea98e5e2ee1de"), looks := true }, told := true, laidByText := true, laidKinds := [.sentinel, .sentinel, .sentinel, .sentinel, .sentinel, .sentinel, .sentinel], laidTests := true, laidLooks := .later, goes := false }
def FnEachStopsAtKToldSaid : Prop := Claim7.holds Tryf.pinned (.plain (OpenSpec.ofChange fnEachStopsAtKSpec)) fnEachStopsAtKCard
/-- ITS FALSE NEIGHBOUR. Refute it at one input. -/
def FnEachStopsAtKToldWrongFalsely : Prop := Claim7.holds Tryf.pinned (.plain (OpenSpec.ofChange fnEachStopsAtKWrong)) fnEachStopsAtKCard

/-- THE TOLD AND TIED CARD OF 'zzlaws_internal_lines_b1.FnEachAgreesWithReaderNext'. -/
def fnEachAgreesWithReaderNextCard : Claim7 := { stood := { row := fnEachAgreesWithReaderNextRow, standIns := [], harness := (true, "2582731dd205759d2dc838d88cda78589b0dfb600e83f9745a1ea98e5e2ee1de"), looks := true }, told := true, laidByText := true, laidKinds := [.sentinel, .sentinel, .sentinel, .sentinel, .sentinel, .sentinel, .sentinel], laidTests := true, laidLooks := .later, goes := false }
def FnEachAgreesWithReaderNextToldSaid : Prop := Claim7.holds Tryf.pinned (.plain (OpenSpec.ofChange fnEachAgreesWithReaderNextSpec)) fnEachAgreesWithReaderNextCard
/-- ITS FALSE NEIGHBOUR. Refute it at one input. -/
def FnEachAgreesWithReaderNextToldWrongFalsely : Prop := Claim7.holds Tryf.pinned (.plain (OpenSpec.ofChange fnEachAgreesWithReaderNextWrong)) fnEachAgreesWithReaderNextCard
end Rows
end Go.Proofs.Qxb6613145aFmt
