/- Seat b6608749aF, fourth part: fmt.Errorf at the two formats of ParseInstance (fmt's text is F's), ParseInstance itself. -/
import Derived.Test.Qxb6608749aFmtErrs
import Derived.Stop.CallBack
import Derived.Stop.IfaceNil
import GoSem.ClaimData
namespace Go.Proofs.Qxb6608749aFmt
open Go.RowKit Go.Extern.Stop Go.Stop Go.Extern

theorem call16 (args : Array Value) (w : World) : (callFunc 16 args).run Tryf.prog w = ((FmtStop.errorf #[9, 38] #[25] args).run Tryf.prog w).andThen fun v w' => .ok (.value v) w' :=
  run_callFunc_extern Tryf.func16 (by kernel_rfl) (by kernel_rfl) (by kernel_rfl) (by kernel_rfl) args w
theorem guard_c (name : String) (w : World) : (FmtStop.guard name).run Tryf.prog w = .ok () w := by kernel_rfl
theorem fmtA (w : World) : (FmtDoors.printed ⟨#[105, 110, 115, 116, 97, 110, 99, 101, 32, 110, 97, 109, 101, 32, 37, 113, 32, 105, 115, 32, 110, 111, 116, 32, 88, 35, 78]⟩ 1).run Tryf.prog w = .ok [(0, 113, false)] w := by kernel_rfl
theorem fmtB (w : World) : (FmtDoors.printed ⟨#[105, 110, 115, 116, 97, 110, 99, 101, 32, 110, 97, 109, 101, 32, 37, 113, 58, 32, 105, 110, 115, 116, 97, 110, 99, 101, 115, 32, 99, 111, 117, 110, 116, 32, 102, 114, 111, 109, 32, 49]⟩ 1).run Tryf.prog w = .ok [(0, 113, false)] w := by kernel_rfl
theorem fmtA' : FmtStop.printed? ⟨#[105, 110, 115, 116, 97, 110, 99, 101, 32, 110, 97, 109, 101, 32, 37, 113, 32, 105, 115, 32, 110, 111, 116, 32, 88, 35, 78]⟩ 1 = some [(0, 113, false)] := by kernel_rfl
theorem fmtB' : FmtStop.printed? ⟨#[105, 110, 115, 116, 97, 110, 99, 101, 32, 110, 97, 109, 101, 32, 37, 113, 58, 32, 105, 110, 115, 116, 97, 110, 99, 101, 115, 32, 99, 111, 117, 110, 116, 32, 102, 114, 111, 109, 32, 49]⟩ 1 = some [(0, 113, false)] := by kernel_rfl
def shape9 : List UInt8 := [12, 6, 0, 0, 0, 0, 0, 0, 0, 115, 116, 114, 105, 110, 103]
theorem op9 (name : String) (x : ByteArray) (w : World) : (FmtStop.operand name true 113 false (.iface 9 (.string x))).run Tryf.prog w = .ok (shape9, FmtStop.pack x.data.toList) w := by kernel_rfl
theorem ptr48 (w : World) : (FmtStop.ptrTo "errors.errorString").run Tryf.prog w = .ok 48 w := by kernel_rfl
theorem elem48 (w : World) : (elemOf 48).run Tryf.prog w = .ok 50 w := by kernel_rfl

set_option maxHeartbeats 1000000 in
theorem errorf_A (F : Interp) (p : ByteArray) (blk : Nat) (w : World) (hF : F.answers w.tape) (hc0 : w.cell? ⟨blk, 0, none⟩ = some (.iface 9 (.string p))) :
    Calls Tryf.prog 12 #[.string ⟨#[105, 110, 115, 116, 97, 110, 99, 101, 32, 110, 97, 109, 101, 32, 37, 113, 32, 105, 115, 32, 110, 111, 116, 32, 88, 35, 78]⟩, .slice (some ⟨blk, 0, none⟩) 1 1] w fun e w' => (∃ a, e = .returned (.iface 48 (.pointer (some a)))) ∧ Below w.heap.size w w' := by
  have hF' := hF
  unfold Interp.answers at hF'
  have f1 := call16; have f2 := guard_c; have f3 := fmtA; have f4 := fmtA'; have f5 := op9; have f6 := ptr48; have f7 := elem48
  go_enter Tryf.func12, Tryf.ntmps12
  go_wp2
  go_ret
  exact ⟨⟨_, rfl⟩, ((Below.refl _ w).alloc (Nat.le_refl _) _).drew⟩

set_option maxHeartbeats 1000000 in
theorem errorf_B (F : Interp) (p : ByteArray) (blk : Nat) (w : World) (hF : F.answers w.tape) (hc0 : w.cell? ⟨blk, 0, none⟩ = some (.iface 9 (.string p))) :
    Calls Tryf.prog 12 #[.string ⟨#[105, 110, 115, 116, 97, 110, 99, 101, 32, 110, 97, 109, 101, 32, 37, 113, 58, 32, 105, 110, 115, 116, 97, 110, 99, 101, 115, 32, 99, 111, 117, 110, 116, 32, 102, 114, 111, 109, 32, 49]⟩, .slice (some ⟨blk, 0, none⟩) 1 1] w fun e w' => (∃ a, e = .returned (.iface 48 (.pointer (some a)))) ∧ Below w.heap.size w w' := by
  have hF' := hF
  unfold Interp.answers at hF'
  have f1 := call16; have f2 := guard_c; have f3 := fmtB; have f4 := fmtB'; have f5 := op9; have f6 := ptr48; have f7 := elem48
  go_enter Tryf.func12, Tryf.ntmps12
  go_wp2
  go_ret
  exact ⟨⟨_, rfl⟩, ((Below.refl _ w).alloc (Nat.le_refl _) _).drew⟩

end Go.Proofs.Qxb6608749aFmt
