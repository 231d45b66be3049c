/- Seat b6608749aF, third part: strconv.syntaxError, rangeError, toError, strconv.ParseUint(s, 10, 63). -/
import Derived.Test.Qxb6608749aFmtParse
import Derived.Test.Qxb6608749aFmtShelf
namespace Go.Proofs.Qxb6608749aFmt
open Go.RowKit

set_option maxHeartbeats 6400000 in
set_option maxRecDepth 100000 in
/-- strconv.syntaxError: a pointer to a new block. -/
theorem synErr_c (fn s : ByteArray) (te : TypeId) (pe : Value) (w : World) (hlim : s.size ≤ 281474976710656) (hv : w.cell? ⟨1, 0, none⟩ = some (.iface te pe)) :
    Calls Tryf.prog 21 #[.string fn, .string s] w fun e w' => (∃ N, e = .returned (.pointer (some ⟨N, 0, none⟩))) ∧ Below w.heap.size w w' := by
  have hG : 1 < w.heap.size := Lib.lt_of_cell hv
  have hvd : w.drew.cell? ⟨1, 0, none⟩ = some _ := hv
  go_enter Tryf.func21, Tryf.ntmps21
  go_wp2
  go_region_with (
      go_at_call 29
      refine (clone_c s _ hlim).mono ?_
      rintro e w2 ⟨rfl, hbel⟩
      have hv2 : w2.cell? ⟨1, 0, none⟩ = some _ := (hbel.cell (show (⟨1, 0, none⟩ : Addr).block < w.drew.heap.size from hG)).trans hvd)
  all_goals (
    go_wp2
    go_ret
    have hs2 : w.heap.size ≤ w2.heap.size := hbel.size
    exact ⟨⟨_, rfl⟩, ((Below.drew (Below.refl _ w)).trans hbel).alloc hs2 _⟩)

set_option maxHeartbeats 6400000 in
set_option maxRecDepth 100000 in
/-- strconv.rangeError: a pointer to a new block. -/
theorem rngErr_c (fn s : ByteArray) (te : TypeId) (pe : Value) (w : World) (hlim : s.size ≤ 281474976710656) (hv : w.cell? ⟨2, 0, none⟩ = some (.iface te pe)) :
    Calls Tryf.prog 22 #[.string fn, .string s] w fun e w' => (∃ N, e = .returned (.pointer (some ⟨N, 0, none⟩))) ∧ Below w.heap.size w w' := by
  have hG : 2 < w.heap.size := Lib.lt_of_cell hv
  have hvd : w.drew.cell? ⟨2, 0, none⟩ = some _ := hv
  go_enter Tryf.func22, Tryf.ntmps22
  go_wp2
  go_region_with (
      go_at_call 29
      refine (clone_c s _ hlim).mono ?_
      rintro e w2 ⟨rfl, hbel⟩
      have hv2 : w2.cell? ⟨2, 0, none⟩ = some _ := (hbel.cell (show (⟨2, 0, none⟩ : Addr).block < w.drew.heap.size from hG)).trans hvd)
  all_goals (
    go_wp2
    go_ret
    have hs2 : w.heap.size ≤ w2.heap.size := hbel.size
    exact ⟨⟨_, rfl⟩, ((Below.drew (Below.refl _ w)).trans hbel).alloc hs2 _⟩)

theorem comp42 : (Tryf.prog.info? 42).map (·.comparable) = some true := by kernel_rfl

set_option maxHeartbeats 4000000 in
set_option maxRecDepth 100000 in
theorem toErr_syn (fn s : ByteArray) (base bits : Int) (te : TypeId) (pe : Value) (w : World) (hlim : s.size ≤ 281474976710656) (hv : w.cell? ⟨1, 0, none⟩ = some (.iface te pe)) :
    Calls Tryf.prog 15 #[.string fn, .string s, .int .i64 base, .int .i64 bits, .iface 42 (.int .i64 2)] w fun e w' => (∃ N, e = .returned (.iface 45 (.pointer (some ⟨N, 0, none⟩)))) ∧ Below w.heap.size w w' := by
  have heq : ∀ W, (binOp .eql 25 (.iface 42 (.int .i64 2)) (.iface 42 (.int .i64 2))).run Tryf.prog W = .ok (.bool true) W := fun W => Lib.run_eql_iface_int W 2 2 Tryf.underlying25 comp42 Tryf.underlying42
  go_enter Tryf.func15, Tryf.ntmps15
  go_wp2_with (go_at_call 21; refine (synErr_c fn s te pe _ hlim ?_).mono ?_)
  · exact hv
  rintro e w2 ⟨⟨N, rfl⟩, h3⟩
  go_wp2
  go_ret
  exact ⟨⟨N, rfl⟩, h3⟩

set_option maxHeartbeats 4000000 in
set_option maxRecDepth 100000 in
theorem toErr_rng (fn s : ByteArray) (base bits : Int) (te : TypeId) (pe : Value) (w : World) (hlim : s.size ≤ 281474976710656) (hv : w.cell? ⟨2, 0, none⟩ = some (.iface te pe)) :
    Calls Tryf.prog 15 #[.string fn, .string s, .int .i64 base, .int .i64 bits, .iface 42 (.int .i64 1)] w fun e w' => (∃ N, e = .returned (.iface 45 (.pointer (some ⟨N, 0, none⟩)))) ∧ Below w.heap.size w w' := by
  have heq2 : ∀ W, (binOp .eql 25 (.iface 42 (.int .i64 1)) (.iface 42 (.int .i64 2))).run Tryf.prog W = .ok (.bool false) W := fun W => Lib.run_eql_iface_int W 1 2 Tryf.underlying25 comp42 Tryf.underlying42
  have heq : ∀ W, (binOp .eql 25 (.iface 42 (.int .i64 1)) (.iface 42 (.int .i64 1))).run Tryf.prog W = .ok (.bool true) W := fun W => Lib.run_eql_iface_int W 1 1 Tryf.underlying25 comp42 Tryf.underlying42
  go_enter Tryf.func15, Tryf.ntmps15
  go_wp2_with (go_at_call 22; refine (rngErr_c fn s te pe _ hlim ?_).mono ?_)
  · exact hv
  rintro e w2 ⟨⟨N, rfl⟩, h3⟩
  go_wp2
  go_ret
  exact ⟨⟨N, rfl⟩, h3⟩

/-- What strconv.ParseUint(s, 10, 63) comes to: the number, or none. -/
def num (l : List UInt8) : Option Nat :=
  if l = [] then none else
    match pu 0 l with
    | some (some n) => some n
    | _ => none

set_option maxHeartbeats 4000000 in
set_option maxRecDepth 100000 in
/-- strconv.ParseUint(s, 10, 63). -/
theorem parse_c (s : ByteArray) (t1 t2 : TypeId) (p1 p2 : Value) (w : World) (hlim : s.size ≤ 281474976710656) (hv1 : w.cell? ⟨1, 0, none⟩ = some (.iface t1 p1)) (hv2 : w.cell? ⟨2, 0, none⟩ = some (.iface t2 p2)) :
    Calls Tryf.prog 11 #[.string s, .int .i64 10, .int .i64 63] w fun e w' =>
      ((∃ u, num s.data.toList = some u ∧ e = .returned (.tuple #[.int .u64 u, .nilIface])) ∨ (num s.data.toList = none ∧ ∃ v N, e = .returned (.tuple #[.int .u64 v, .iface 45 (.pointer (some ⟨N, 0, none⟩))]))) ∧ Below w.heap.size w w' := by
  have hG1 : 1 < w.heap.size := Lib.lt_of_cell hv1
  have hG2 : 2 < w.heap.size := Lib.lt_of_cell hv2
  have hI : Calls Tryf.prog 14 #[.string s, .int .i64 10, .int .i64 63] w fun e w' =>
      ((∃ u, num s.data.toList = some u ∧ e = .returned (.tuple #[.int .u64 u, .nilIface])) ∨ (num s.data.toList = none ∧ (e = .returned (.tuple #[.int .u64 0, .iface 42 (.int .i64 2)]) ∨ e = .returned (.tuple #[.int .u64 9223372036854775807, .iface 42 (.int .i64 1)])))) ∧ Below w.heap.size w w' := by
    by_cases h0 : s.size = 0
    · have hs : s = ⟨#[]⟩ := by
        apply ByteArray.ext
        exact Array.eq_empty_of_size_eq_zero h0
      subst hs
      refine (inner_empty w).mono ?_
      rintro e w' ⟨rfl, rfl⟩
      exact ⟨Or.inr ⟨rfl, Or.inl rfl⟩, Below.refl _ _⟩
    · have hne : s.data.toList ≠ [] := fun e => h0 (by rw [Lib.size_eq, e]; rfl)
      refine (inner_c s h0 (by omega) w).mono ?_
      rintro e w' ⟨rfl, rfl⟩
      refine ⟨?_, Lib.bytesWorld_below _ _ _⟩
      unfold num
      rw [if_neg hne]
      cases hp : pu 0 s.data.toList with
      | none => exact Or.inr ⟨rfl, Or.inl rfl⟩
      | some o =>
        cases o with
        | none => exact Or.inr ⟨rfl, Or.inr rfl⟩
        | some n => exact Or.inl ⟨n, rfl, rfl⟩
  go_enter Tryf.func11, Tryf.ntmps11
  go_wp2_with (go_at_call 14; refine hI.mono ?_)
  rintro e W1 ⟨he, hb1⟩
  have hw1 : W1.cell? ⟨1, 0, none⟩ = some (.iface t1 p1) := (hb1.cell (show (⟨1, 0, none⟩ : Addr).block < w.heap.size from hG1)).trans hv1
  have hw2 : W1.cell? ⟨2, 0, none⟩ = some (.iface t2 p2) := (hb1.cell (show (⟨2, 0, none⟩ : Addr).block < w.heap.size from hG2)).trans hv2
  clear hI
  rcases he with ⟨u, hu, rfl⟩ | ⟨hn, rfl | rfl⟩
  · have Hu : Hid (num s.data.toList = some u) := hu
    clear hu
    go_wp2
    go_ret2
    exact ⟨Or.inl ⟨u, Hu.out, rfl⟩, hb1⟩
  · have Hn : Hid (num s.data.toList = none) := hn
    clear hn
    go_wp2_with (go_at_call 15; refine (toErr_syn _ s 10 63 t1 p1 _ hlim ?_).mono ?_)
    · exact hw1
    rintro e W2 ⟨⟨N, rfl⟩, h3⟩
    go_wp2
    go_ret2
    exact ⟨Or.inr ⟨Hn.out, _, N, rfl⟩, hb1.trans (h3.mono hb1.size)⟩
  · have Hn : Hid (num s.data.toList = none) := hn
    clear hn
    go_wp2_with (go_at_call 15; refine (toErr_rng _ s 10 63 t2 p2 _ hlim ?_).mono ?_)
    · exact hw2
    rintro e W2 ⟨⟨N, rfl⟩, h3⟩
    go_wp2
    go_ret2
    exact ⟨Or.inr ⟨Hn.out, _, N, rfl⟩, hb1.trans (h3.mono hb1.size)⟩
end Go.Proofs.Qxb6608749aFmt
