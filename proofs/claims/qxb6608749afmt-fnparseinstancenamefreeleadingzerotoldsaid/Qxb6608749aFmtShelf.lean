/- Seat b6608749aF: internal/stringslite.Clone's contract off the guide's shelf, laid at this program in plain words (the guide's lay-plain tool). -/
import Derived.Shelf.LaysM
import Derived.Shelf.Strconv.Clone
import Derived.Test.Qxb6608749aFmtProg
namespace Go.Proofs.Qxb6608749aFmt
open Go.Shelf
def lays316_ren : Go.Shelf.Ren := ⟨fun | 316 => 29 | n => n, fun | 9 => 9 | 3 => 3 | 4 => 4 | 37 => 36 | 0 => 0 | 127 => 59 | 5 => 5 | n => n, fun | n => n⟩
theorem lays316 : Go.Proofs.LaysM.n316 Tryf.prog lays316_ren := {
  mixed := by kernel_rfl
  f316 := Tryf.func29.trans (congrArg some (by kernel_rfl))
  t0 := Tryf.underlying0
  a0 := Tryf.isAgg0
  z0 := Tryf.sizeOf0
  v0 := Tryf.zeroValue0
  t3 := Tryf.underlying3
  a3 := Tryf.isAgg3
  z3 := Tryf.sizeOf3
  v3 := Tryf.zeroValue3
  t4 := Tryf.underlying4
  a4 := Tryf.isAgg4
  z4 := Tryf.sizeOf4
  v4 := Tryf.zeroValue4
  t9 := Tryf.underlying9
  a9 := Tryf.isAgg9
  z9 := Tryf.sizeOf9
  v9 := Tryf.zeroValue9
  t37 := Tryf.underlying36
  a37 := Tryf.isAgg36
  z37 := Tryf.sizeOf36
  v37 := Tryf.zeroValue36
  t127 := Tryf.underlying59
  a127 := Tryf.isAgg59
  z127 := Tryf.sizeOf59
  v127 := Tryf.zeroValue59
  t5 := Tryf.underlying5
  a5 := Tryf.isAgg5
  z5 := Tryf.sizeOf5
  v5 := Tryf.zeroValue5
  i0 := by kernel_rfl
  i3 := by kernel_rfl
  i4 := by kernel_rfl
  i5 := by kernel_rfl
  i9 := by kernel_rfl
  i37 := by kernel_rfl
  i127 := by kernel_rfl }
theorem clone_c (s : ByteArray) (w : World) (hlim : s.size ≤ 281474976710656) :
    Calls Tryf.prog 29 #[.string s] w fun e w' => e = .returned (.string s) ∧ Go.RowKit.Below w.heap.size w w' := Any.stringslite_Clone lays316 s w hlim
end Go.Proofs.Qxb6608749aFmt
