/- Seat b6613145aF: the reader's Read, by its interface. -/
import Derived.Test.Qxb6613145aFmtFill
namespace Go.Proofs.Qxb6613145aFmt
open Go.RowKit
theorem meth_read (R : Nat) (w : World) : (method 229 43 (.pointer (some ⟨R, 0, none⟩)) "Read").run Tryf.prog w = .ok (59, .pointer (some ⟨R, 0, none⟩)) w := by kernel_rfl
end Go.Proofs.Qxb6613145aFmt
