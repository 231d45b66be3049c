/- Seat b6612846aF: two contracts off the guide's shelf, laid at this program in plain words (the guide's lay-plain tool): littleEndian.Uint32 and bytes.Index. -/
import Derived.Shelf.Lays
import Derived.Shelf.Bin.LEUint32
import Derived.Shelf.Bytes.SlIndexWhole
import Derived.Test.Qxb6612846aFmtProg
namespace Go.Proofs.Qxb6612846aFmt
open Go.Shelf
def lays30_ren : Go.Shelf.Ren := ⟨fun | 30 => 19 | n => n, fun | 25 => 60 | 22 => 22 | 29 => 40 | 0 => 0 | 5 => 5 | 45 => 37 | n => n, fun | n => n⟩
theorem lays30 : Go.Proofs.LaysBin.n30 Tryf.prog lays30_ren := {
  mixed := by kernel_rfl
  f30 := Tryf.func19.trans (congrArg some (by kernel_rfl))
  t0 := Tryf.underlying0
  a0 := Tryf.isAgg0
  z0 := Tryf.sizeOf0
  v0 := Tryf.zeroValue0
  i0 := by kernel_rfl
  t5 := Tryf.underlying5
  a5 := Tryf.isAgg5
  z5 := Tryf.sizeOf5
  v5 := Tryf.zeroValue5
  i5 := by kernel_rfl
  t22 := Tryf.underlying22
  a22 := Tryf.isAgg22
  z22 := Tryf.sizeOf22
  v22 := Tryf.zeroValue22
  i22 := by kernel_rfl
  t25 := Tryf.underlying60
  a25 := Tryf.isAgg60
  z25 := Tryf.sizeOf60
  v25 := Tryf.zeroValue60
  i25 := by kernel_rfl
  t29 := Tryf.underlying40
  a29 := Tryf.isAgg40
  z29 := Tryf.sizeOf40
  v29 := Tryf.zeroValue40
  i29 := by kernel_rfl
  t45 := Tryf.underlying37
  a45 := Tryf.isAgg37
  z45 := Tryf.sizeOf37
  v45 := Tryf.zeroValue37
  i45 := by kernel_rfl }
def lays185_ren : Go.Shelf.Ren := ⟨fun | 185 => 25 | 187 => 26 | 115 => 27 | 253 => 28 | 224 => 29 | 254 => 30 | 255 => 31 | 291 => 32 | n => n, fun | 37 => 22 | 3 => 3 | 4 => 4 | 0 => 0 | 5 => 5 | 46 => 37 | 9 => 9 | 146 => 78 | 51 => 40 | n => n, fun | 1 => 2 | n => n⟩
theorem lays185 : Go.Proofs.Lays.n185 Tryf.prog lays185_ren := {
  mixed := by kernel_rfl
  f115 := Tryf.func27.trans (congrArg some (by kernel_rfl))
  f185 := Tryf.func25.trans (congrArg some (by kernel_rfl))
  f187 := Tryf.func26.trans (congrArg some (by kernel_rfl))
  f224 := Tryf.func29.trans (congrArg some (by kernel_rfl))
  f253 := Tryf.func28.trans (congrArg some (by kernel_rfl))
  f254 := Tryf.func30.trans (congrArg some (by kernel_rfl))
  f255 := Tryf.func31.trans (congrArg some (by kernel_rfl))
  f291 := Tryf.func32.trans (congrArg some (by kernel_rfl))
  t0 := Tryf.underlying0
  a0 := Tryf.isAgg0
  z0 := Tryf.sizeOf0
  v0 := Tryf.zeroValue0
  t3 := Tryf.underlying3
  a3 := Tryf.isAgg3
  z3 := Tryf.sizeOf3
  v3 := Tryf.zeroValue3
  t4 := Tryf.underlying4
  a4 := Tryf.isAgg4
  z4 := Tryf.sizeOf4
  v4 := Tryf.zeroValue4
  t5 := Tryf.underlying5
  a5 := Tryf.isAgg5
  z5 := Tryf.sizeOf5
  v5 := Tryf.zeroValue5
  t9 := Tryf.underlying9
  a9 := Tryf.isAgg9
  z9 := Tryf.sizeOf9
  v9 := Tryf.zeroValue9
  t37 := Tryf.underlying22
  a37 := Tryf.isAgg22
  z37 := Tryf.sizeOf22
  v37 := Tryf.zeroValue22
  t46 := Tryf.underlying37
  a46 := Tryf.isAgg37
  z46 := Tryf.sizeOf37
  v46 := Tryf.zeroValue37
  t51 := Tryf.underlying40
  a51 := Tryf.isAgg40
  z51 := Tryf.sizeOf40
  v51 := Tryf.zeroValue40
  t146 := Tryf.underlying78
  a146 := Tryf.isAgg78
  z146 := Tryf.sizeOf78
  v146 := Tryf.zeroValue78
  g1 := by kernel_rfl }

/-- binary.LittleEndian.Uint32. -/
theorem le32_c (g o n c : Nat) (b0 b1 b2 b3 : UInt8) (w : World) (hn : 4 ≤ n)
    (c0 : w.cell? ⟨g, o, none⟩ = some (.int .u8 b0.toNat)) (c1 : w.cell? ⟨g, o + 1, none⟩ = some (.int .u8 b1.toNat)) (c2 : w.cell? ⟨g, o + 2, none⟩ = some (.int .u8 b2.toNat)) (c3 : w.cell? ⟨g, o + 3, none⟩ = some (.int .u8 b3.toNat)) :
    Calls Tryf.prog 19 #[.agg #[], .slice (some ⟨g, o, none⟩) n c] w fun e w' => e = .returned (.int .u32 (Lib.leNat [b0, b1, b2, b3])) ∧ Go.RowKit.Below w.heap.size w w' :=
  Any.binary_LE_Uint32 lays30 g o n c b0 b1 b2 b3 w hn c0 c1 c2 c3

/-- bytes.Index. -/
theorem index_c (a1 a2 : Addr) (n c1 k c2 : Nat) (xs ys : List Int) (m : Int) (w : World) (hx : xs.length = n) (hy : ys.length = k) (hr1 : ∀ x ∈ xs, 0 ≤ x ∧ x < 256) (hr2 : ∀ y ∈ ys, 0 ≤ y ∧ y < 256)
    (hc1 : ∀ i, i < n → w.cell? (a1.add i) = some (.int .u8 (xs.getD i 0))) (hc2 : ∀ i, i < k → w.cell? (a2.add i) = some (.int .u8 (ys.getD i 0))) (hcap : n ≤ c1) (hs : n < 4294967281) (hk : k ≤ 9223372036854775807) (hm : w.cell? ⟨2, 0, none⟩ = some (.int .i64 m)) :
    Calls Tryf.prog 25 #[.slice (some a1) n c1, .slice (some a2) k c2] w fun e w' => e = .returned (.int .i64 (Lib.index (Lib.bytesOf xs) (Lib.bytesOf ys))) ∧ ∃ q, w' = w.drewN q :=
  Any.bytes_Index_at lays185 a1 a2 n c1 k c2 xs ys m w hx hy hr1 hr2 hc1 hc2 hcap hs hk hm
end Go.Proofs.Qxb6612846aFmt
