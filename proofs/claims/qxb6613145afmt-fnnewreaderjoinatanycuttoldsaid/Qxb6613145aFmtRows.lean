/-
  NARROWER THAN 'FOR EVERY INPUT', by the rows' own cells (each row's printed sentence says how): FnNewReaderLinesMatchModel: laid · FnNewReaderJoinAtAnyCut: laid · FnEachStopsAtK: laid · FnEachAgreesWithReaderNext: laid.
  DERIVED. THE GIVEN ROWS OF THIS SEAT. 4 by the template 'for every input the law returns true; each argument reads behind the call as it read before'; 0 by the template 'total and deterministic' (their statements: Qxb6613145aFmtTotals.lean).
  GIVEN WITH THE SEED: the statements are not yours to turn. If you find one false, say at which input.
  Laid BY PROGRAM, IN A SANDBOX (cutbox-rows.mjs): the forced cells as the released guide's own fill.sh prints them over the translation f0e6140e0c5b7bf2… (all of the seat's roots in one cut). By AI agents, Wed Nov 11 2026. No macro, syntax, notation, axiom, sorry.
-/
import Derived.Test.Qxb6613145aFmtChecked
import GoSem.Claim
import GoSem.ClaimJoined
import GoSem.ClaimMapViews
import Derived.JoinedTies
import Derived.KernelRfl
namespace Go.Proofs.Qxb6613145aFmt
/- THE CELL 'sum', in the pinned program and in every row, IS THE sha256 OF THE DUMP (.gsa) THAT Qxb6613145aFmtProg.lean LOADS. Nothing in Lean hashes anything: it is a label: what it is worth is what the hold of that sum in a sandbox is worth. -/
noncomputable def Tryf.pinned : Pinned := { name := "qxb6613145afmt", sum := "f0e6140e0c5b7bf2930e4398edbc5b47916a7b1a2e01083786f6baaf9e5ee844", checked := Tryf.checked }
namespace Rows
def none {H : Type} : Left H := { results := [], args := [] }

/- WHAT THE LISTED PACKAGE-LEVEL VARIABLES READ AS WHEN THE CALL BEGINS. Each datum BY PROGRAM (the guide's laid-datum.mjs) off the statement by which the dump's own 'gosem.cut.vars' lays the variable. In a bare row this is a premise. The card (Qxb6613145aFmtCards.lean) ties it to the program's text. -/
def laid_io_EOF {H : Type} : DataW H := .iface "*errors.errorString" (.ptr (.agg [.lit (.string [69, 79, 70])]))
def laid_io_ErrNoProgress {H : Type} : DataW H := .iface "*errors.errorString" (.ptr (.agg [.lit (.string [109, 117, 108, 116, 105, 112, 108, 101, 32, 82, 101, 97, 100, 32, 99, 97, 108, 108, 115, 32, 114, 101, 116, 117, 114, 110, 32, 110, 111, 32, 100, 97, 116, 97, 32, 111, 114, 32, 101, 114, 114, 111, 114])]))
def laid_bufio_ErrTooLong {H : Type} : DataW H := .iface "*errors.errorString" (.ptr (.agg [.lit (.string [98, 117, 102, 105, 111, 46, 83, 99, 97, 110, 110, 101, 114, 58, 32, 116, 111, 107, 101, 110, 32, 116, 111, 111, 32, 108, 111, 110, 103])]))
def laid_bufio_ErrNegativeAdvance {H : Type} : DataW H := .iface "*errors.errorString" (.ptr (.agg [.lit (.string [98, 117, 102, 105, 111, 46, 83, 99, 97, 110, 110, 101, 114, 58, 32, 83, 112, 108, 105, 116, 70, 117, 110, 99, 32, 114, 101, 116, 117, 114, 110, 115, 32, 110, 101, 103, 97, 116, 105, 118, 101, 32, 97, 100, 118, 97, 110, 99, 101, 32, 99, 111, 117, 110, 116])]))
def laid_bufio_ErrAdvanceTooFar {H : Type} : DataW H := .iface "*errors.errorString" (.ptr (.agg [.lit (.string [98, 117, 102, 105, 111, 46, 83, 99, 97, 110, 110, 101, 114, 58, 32, 83, 112, 108, 105, 116, 70, 117, 110, 99, 32, 114, 101, 116, 117, 114, 110, 115, 32, 97, 100, 118, 97, 110, 99, 101, 32, 99, 111, 117, 110, 116, 32, 98, 101, 121, 111, 110, 100, 32, 105, 110, 112, 117, 116])]))
def laid_bufio_ErrBadReadCount {H : Type} : DataW H := .iface "*errors.errorString" (.ptr (.agg [.lit (.string [98, 117, 102, 105, 111, 46, 83, 99, 97, 110, 110, 101, 114, 58, 32, 82, 101, 97, 100, 32, 114, 101, 116, 117, 114, 110, 101, 100, 32, 105, 109, 112, 111, 115, 115, 105, 98, 108, 101, 32, 99, 111, 117, 110, 116])]))
def laid_bufio_ErrFinalToken {H : Type} : DataW H := .iface "*errors.errorString" (.ptr (.agg [.lit (.string [102, 105, 110, 97, 108, 32, 116, 111, 107, 101, 110])]))

/-- 'zzlaws_internal_lines_b1.FnNewReaderLinesMatchModel': WHATEVER THE INPUT: true; the input reads as it did. -/
def fnNewReaderLinesMatchModelSpec : ChangeSpec := { name := "fnNewReaderLinesMatchModel", fn := fun _ => fun
  | [d] => { results := [.lit (.bool true)], args := [d] }
  | _ => none }
def fnNewReaderLinesMatchModelRow : OpenClaim := { program := "qxb6613145afmt", sum := "f0e6140e0c5b7bf2930e4398edbc5b47916a7b1a2e01083786f6baaf9e5ee844", func := "example.com/interleave/interleave/zzlaws_internal_lines_b1.FnNewReaderLinesMatchModel", spec := "fnNewReaderLinesMatchModel", stops := ["fmt.errorf"], inPlace := ["internal/bytealg.IndexByte", "internal/reflectlite.TypeOf", "fmt.errorf"], unfollowed := true, recurses := true, named := ["bufio.ErrTooLong", "bufio.ErrFinalToken", "bufio.ErrBadReadCount", "io.ErrNoProgress", "io.EOF", "bufio.ErrNegativeAdvance", "bufio.ErrAdvanceTooFar"], apart := false, laid := [("io.EOF", laid_io_EOF), ("io.ErrNoProgress", laid_io_ErrNoProgress), ("bufio.ErrTooLong", laid_bufio_ErrTooLong), ("bufio.ErrNegativeAdvance", laid_bufio_ErrNegativeAdvance), ("bufio.ErrAdvanceTooFar", laid_bufio_ErrAdvanceTooFar), ("bufio.ErrBadReadCount", laid_bufio_ErrBadReadCount), ("bufio.ErrFinalToken", laid_bufio_ErrFinalToken)] }
/-- NO THEOREM (fmt's text is open here; it may be false): for the released tool's asking of the row's closed facts alone. THE STATEMENT IS 'FnNewReaderLinesMatchModelToldSaid' (Qxb6613145aFmtCards.lean). -/
def FnNewReaderLinesMatchModelFormAsk : Prop := fnNewReaderLinesMatchModelRow.holds Tryf.pinned (OpenSpec.ofChange fnNewReaderLinesMatchModelSpec)

/-- ITS FALSE NEIGHBOUR: 'it returns false'. Refute it at one input. -/
def fnNewReaderLinesMatchModelWrong : ChangeSpec := { name := "fnNewReaderLinesMatchModel", fn := fun _ => fun
  | [d] => { results := [.lit (.bool false)], args := [d] }
  | _ => none }
def FnNewReaderLinesMatchModelWrongFormAsk : Prop := fnNewReaderLinesMatchModelRow.holds Tryf.pinned (OpenSpec.ofChange fnNewReaderLinesMatchModelWrong)

/-- 'zzlaws_internal_lines_b1.FnNewReaderJoinAtAnyCut': WHATEVER THE INPUT: true; the input reads as it did. -/
def fnNewReaderJoinAtAnyCutSpec : ChangeSpec := { name := "fnNewReaderJoinAtAnyCut", fn := fun _ => fun
  | [d1, d2] => { results := [.lit (.bool true)], args := [d1, d2] }
  | _ => none }
def fnNewReaderJoinAtAnyCutRow : OpenClaim := { program := "qxb6613145afmt", sum := "f0e6140e0c5b7bf2930e4398edbc5b47916a7b1a2e01083786f6baaf9e5ee844", func := "example.com/interleave/interleave/zzlaws_internal_lines_b1.FnNewReaderJoinAtAnyCut", spec := "fnNewReaderJoinAtAnyCut", stops := ["fmt.errorf"], inPlace := ["internal/bytealg.IndexByte", "internal/reflectlite.TypeOf", "fmt.errorf"], unfollowed := true, recurses := true, named := ["bufio.ErrTooLong", "bufio.ErrFinalToken", "bufio.ErrBadReadCount", "io.ErrNoProgress", "io.EOF", "bufio.ErrNegativeAdvance", "bufio.ErrAdvanceTooFar"], apart := false, laid := [("io.EOF", laid_io_EOF), ("io.ErrNoProgress", laid_io_ErrNoProgress), ("bufio.ErrTooLong", laid_bufio_ErrTooLong), ("bufio.ErrNegativeAdvance", laid_bufio_ErrNegativeAdvance), ("bufio.ErrAdvanceTooFar", laid_bufio_ErrAdvanceTooFar), ("bufio.ErrBadReadCount", laid_bufio_ErrBadReadCount), ("bufio.ErrFinalToken", laid_bufio_ErrFinalToken)] }
/-- NO THEOREM (fmt's text is open here; it may be false): for the released tool's asking of the row's closed facts alone. THE STATEMENT IS 'FnNewReaderJoinAtAnyCutToldSaid' (Qxb6613145aFmtCards.lean). -/
def FnNewReaderJoinAtAnyCutFormAsk : Prop := fnNewReaderJoinAtAnyCutRow.holds Tryf.pinned (OpenSpec.ofChange fnNewReaderJoinAtAnyCutSpec)

/-- ITS FALSE NEIGHBOUR: 'it returns false'. Refute it at one input. -/
def fnNewReaderJoinAtAnyCutWrong : ChangeSpec := { name := "fnNewReaderJoinAtAnyCut", fn := fun _ => fun
  | [d1, d2] => { results := [.lit (.bool false)], args := [d1, d2] }
  | _ => none }
def FnNewReaderJoinAtAnyCutWrongFormAsk : Prop := fnNewReaderJoinAtAnyCutRow.holds Tryf.pinned (OpenSpec.ofChange fnNewReaderJoinAtAnyCutWrong)

/-- 'zzlaws_internal_lines_b1.FnEachStopsAtK': WHATEVER THE INPUT: true; the input reads as it did. -/
def fnEachStopsAtKSpec : ChangeSpec := { name := "fnEachStopsAtK", fn := fun _ => fun
  | [d1, d2] => { results := [.lit (.bool true)], args := [d1, d2] }
  | _ => none }
def fnEachStopsAtKRow : OpenClaim := { program := "qxb6613145afmt", sum := "f0e6140e0c5b7bf2930e4398edbc5b47916a7b1a2e01083786f6baaf9e5ee844", func := "example.com/interleave/interleave/zzlaws_internal_lines_b1.FnEachStopsAtK", spec := "fnEachStopsAtK", stops := ["fmt.errorf"], inPlace := ["internal/bytealg.IndexByte", "internal/reflectlite.TypeOf", "fmt.errorf"], unfollowed := true, recurses := true, named := ["bufio.ErrTooLong", "bufio.ErrFinalToken", "bufio.ErrBadReadCount", "io.ErrNoProgress", "io.EOF", "bufio.ErrNegativeAdvance", "bufio.ErrAdvanceTooFar"], apart := false, laid := [("io.EOF", laid_io_EOF), ("io.ErrNoProgress", laid_io_ErrNoProgress), ("bufio.ErrTooLong", laid_bufio_ErrTooLong), ("bufio.ErrNegativeAdvance", laid_bufio_ErrNegativeAdvance), ("bufio.ErrAdvanceTooFar", laid_bufio_ErrAdvanceTooFar), ("bufio.ErrBadReadCount", laid_bufio_ErrBadReadCount), ("bufio.ErrFinalToken", laid_bufio_ErrFinalToken)] }
/-- NO THEOREM (fmt's text is open here; it may be false): for the released tool's asking of the row's closed facts alone. THE STATEMENT IS 'FnEachStopsAtKToldSaid' (Qxb6613145aFmtCards.lean). -/
def FnEachStopsAtKFormAsk : Prop := fnEachStopsAtKRow.holds Tryf.pinned (OpenSpec.ofChange fnEachStopsAtKSpec)

/-- ITS FALSE NEIGHBOUR: 'it returns false'. Refute it at one input. -/
def fnEachStopsAtKWrong : ChangeSpec := { name := "fnEachStopsAtK", fn := fun _ => fun
  | [d1, d2] => { results := [.lit (.bool false)], args := [d1, d2] }
  | _ => none }
def FnEachStopsAtKWrongFormAsk : Prop := fnEachStopsAtKRow.holds Tryf.pinned (OpenSpec.ofChange fnEachStopsAtKWrong)

/-- 'zzlaws_internal_lines_b1.FnEachAgreesWithReaderNext': WHATEVER THE INPUT: true; the input reads as it did. -/
def fnEachAgreesWithReaderNextSpec : ChangeSpec := { name := "fnEachAgreesWithReaderNext", fn := fun _ => fun
  | [d1, d2] => { results := [.lit (.bool true)], args := [d1, d2] }
  | _ => none }
def fnEachAgreesWithReaderNextRow : OpenClaim := { program := "qxb6613145afmt", sum := "f0e6140e0c5b7bf2930e4398edbc5b47916a7b1a2e01083786f6baaf9e5ee844", func := "example.com/interleave/interleave/zzlaws_internal_lines_b1.FnEachAgreesWithReaderNext", spec := "fnEachAgreesWithReaderNext", stops := ["fmt.errorf"], inPlace := ["internal/bytealg.IndexByte", "internal/reflectlite.TypeOf", "fmt.errorf"], unfollowed := true, recurses := true, named := ["bufio.ErrTooLong", "bufio.ErrFinalToken", "bufio.ErrBadReadCount", "io.ErrNoProgress", "io.EOF", "bufio.ErrNegativeAdvance", "bufio.ErrAdvanceTooFar"], apart := false, laid := [("io.EOF", laid_io_EOF), ("io.ErrNoProgress", laid_io_ErrNoProgress), ("bufio.ErrTooLong", laid_bufio_ErrTooLong), ("bufio.ErrNegativeAdvance", laid_bufio_ErrNegativeAdvance), ("bufio.ErrAdvanceTooFar", laid_bufio_ErrAdvanceTooFar), ("bufio.ErrBadReadCount", laid_bufio_ErrBadReadCount), ("bufio.ErrFinalToken", laid_bufio_ErrFinalToken)] }
/-- NO THEOREM (fmt's text is open here; it may be false): for the released tool's asking of the row's closed facts alone. THE STATEMENT IS 'FnEachAgreesWithReaderNextToldSaid' (Qxb6613145aFmtCards.lean). -/
def FnEachAgreesWithReaderNextFormAsk : Prop := fnEachAgreesWithReaderNextRow.holds Tryf.pinned (OpenSpec.ofChange fnEachAgreesWithReaderNextSpec)

/-- ITS FALSE NEIGHBOUR: 'it returns false'. Refute it at one input. -/
def fnEachAgreesWithReaderNextWrong : ChangeSpec := { name := "fnEachAgreesWithReaderNext", fn := fun _ => fun
  | [d1, d2] => { results := [.lit (.bool false)], args := [d1, d2] }
  | _ => none }
def FnEachAgreesWithReaderNextWrongFormAsk : Prop := fnEachAgreesWithReaderNextRow.holds Tryf.pinned (OpenSpec.ofChange fnEachAgreesWithReaderNextWrong)

end Rows
end Go.Proofs.Qxb6613145aFmt
