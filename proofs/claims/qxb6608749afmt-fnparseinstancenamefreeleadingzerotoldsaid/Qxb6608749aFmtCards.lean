/-
  DERIVED. GIVEN WITH THE SEED: THE CARDS: each row of Qxb6608749aFmtRows.lean that lists a variable, with what it lists TIED to the program's text (the seventh form; the later family's looks); each row that meets fmt, with fmt's text TOLD by the authors' own Lean function (tested against real Go, not proved from fmt's source: count such statements apart). THE CARD IS WHAT COUNTS. Prove the row's statement (the work); the ties are given (Qxb6608749aFmtTie.lean); close each card by the builder's one call (the guide's Derived/Test/ToyasCard.lean, 'card_holds'). Laid BY PROGRAM, IN A SANDBOX (cutbox-door.mjs). By AI agents, Wed Nov 11 2026. No macro, syntax, notation, axiom, sorry.
-/
import Derived.Test.Qxb6608749aFmtRows
import GoSem.ClaimSeven
namespace Go.Proofs.Qxb6608749aFmt
namespace Rows

/-- THE TOLD AND TIED CARD OF 'zzlaws_trace_b1.FnParseInstanceNameFreeLeadingZero'. -/
def fnParseInstanceNameFreeLeadingZeroCard : Claim7 := { stood := { row := fnParseInstanceNameFreeLeadingZeroRow, standIns := [], harness := (true, "1aef026d06beb3d7c52ae1cfce85bdedaf4c56318d6f9d454c1d04f95a6c67d8"), looks := true }, told := true, laidByText := true, laidKinds := [.data, .data, .data, .sentinel, .sentinel], laidTests := true, laidLooks := .later, goes := false }
def FnParseInstanceNameFreeLeadingZeroToldSaid : Prop := Claim7.holds Tryf.pinned (.plain (OpenSpec.ofChange fnParseInstanceNameFreeLeadingZeroSpec)) fnParseInstanceNameFreeLeadingZeroCard
/-- ITS FALSE NEIGHBOUR. Refute it at one input. -/
def FnParseInstanceNameFreeLeadingZeroToldWrongFalsely : Prop := Claim7.holds Tryf.pinned (.plain (OpenSpec.ofChange fnParseInstanceNameFreeLeadingZeroWrong)) fnParseInstanceNameFreeLeadingZeroCard

/-- THE TOLD AND TIED CARD OF 'zzlaws_trace_b1.FnParseInstanceAppendDigit'. -/
def fnParseInstanceAppendDigitCard : Claim7 := { stood := { row := fnParseInstanceAppendDigitRow, standIns := [], harness := (true, "1aef026d06beb3d7c52ae1cfce85bdedaf4c56318d6f9d454c1d04f95a6c67d8"), looks := true }, told := true, laidByText := true, laidKinds := [.data, .data, .data, .sentinel, .sentinel], laidTests := true, laidLooks := .later, goes := false }
def FnParseInstanceAppendDigitToldSaid : Prop := Claim7.holds Tryf.pinned (.plain (OpenSpec.ofChange fnParseInstanceAppendDigitSpec)) fnParseInstanceAppendDigitCard
/-- ITS FALSE NEIGHBOUR. Refute it at one input. -/
def FnParseInstanceAppendDigitToldWrongFalsely : Prop := Claim7.holds Tryf.pinned (.plain (OpenSpec.ofChange fnParseInstanceAppendDigitWrong)) fnParseInstanceAppendDigitCard
end Rows
end Go.Proofs.Qxb6608749aFmt
