/- Seat b6608749aF, third part: stringslite.Clone, strconv.syntaxError, rangeError, toError, strconv.ParseUint(s, 10, 63). -/
import Derived.Test.Qxb6608749aFmtParse
namespace Go.Proofs.Qxb6608749aFmt
open Go.RowKit

set_option maxHeartbeats 4000000 in
set_option maxRecDepth 100000 in
/-- internal/stringslite.Clone: the same bytes; of what was there nothing has turned. -/
theorem clone_c (s : ByteArray) (w : World) (hlim : s.size ≤ 281474976710656) :
    Calls Tryf.prog 29 #[.string s] w fun e w' => e = .returned (.string s) ∧ Below w.heap.size w w' := by
  by_cases h0 : s.size = 0
  · have hs : s = ⟨#[]⟩ := by
      apply ByteArray.ext
      exact Array.eq_empty_of_size_eq_zero h0
    subst hs
    go_enter Tryf.func29, Tryf.ntmps29
    go_wp2
    go_ret
    exact ⟨rfl, Below.refl _ _⟩
  · have hi5 : (Tryf.prog.info? 5).map (fun i => (i.zero, i.size, i.bytes)) = some (some (Value.int IntKind.u8 0), 1, 1) := by kernel_rfl
    obtain ⟨i0, hi, hz0, hz1, hz2⟩ := info_parts hi5
    clear hi5
    have hinfo : (Tryf.prog.info? 5).map (·.size) = some 1 := by rw [hi]; simp [hz1]
    have hco : Tryf.prog.cellsOf 5 = 1 := by simp [Program.cellsOf, hi, hz1]
    obtain ⟨M, hM⟩ : ∃ M, M = madeCells (Value.int .u8 0).cells (((s.size : Nat) : Int).toNat * i0.size) := ⟨_, rfl⟩
    have hMs : M.size = s.size := by rw [hM, size_madeCells, hz1]; simp
    have hmk : ∀ W : World, (Instr.makeSlice 36 (.int .i64 (s.size : Int)) (.int .i64 (s.size : Int))).run Tryf.prog W = .ok (.slice (some ⟨W.heap.size, 0, none⟩) s.size s.size) (W.alloc (.cells M 5)) := fun W => by
      have h := run_make (P := Tryf.prog) W 36 5 i0 (.int .u8 0) Tryf.underlying36 hi hz0 .i64 .i64 (s.size : Int) (s.size : Int) (by omega) (by omega) (by rw [hz2]; omega) (by omega)
      rw [← hM] at h
      simpa using h
    clear hM
    have hcp := Lib.run_copy_row_string (P := Tryf.prog) (w.alloc (.cells M 5)) 36 9 3 5 w.heap.size 0 s.size s.size s M 5 Tryf.underlying36 hinfo (heap_alloc_new w _) (Nat.le_refl _) (by omega)
    obtain ⟨Y, hY⟩ : ∃ Y, Y = (M.toList.take 0 ++ Lib.byteCells s.data.toList ++ M.toList.drop (0 + s.size)).toArray := ⟨_, rfl⟩
    rw [← hY] at hcp
    have hYl : Y.toList = Lib.byteCells s.data.toList := by
      rw [hY, List.toList_toArray, List.take_zero, List.nil_append, List.drop_of_length_le (by rw [Array.length_toList]; omega), List.append_nil]
    have hYs : Y.size = s.size := by rw [← Array.length_toList, hYl, Lib.byteCells_length, ← Lib.size_eq]
    have hgY : ((w.alloc (.cells M 5)).setRow w.heap.size Y).heap[w.heap.size]? = some (.cells Y 5 (0, 0)) := setRow_heap _ _ M _ 5 (0, 0) (heap_alloc_new w _)
    have hne : s.data.toList ≠ [] := fun e => h0 (by rw [Lib.size_eq, e]; rfl)
    have hUS := Lib.run_unsafeString_row (P := Tryf.prog) ((w.alloc (.cells M 5)).setRow w.heap.size Y) 59 3 9 5 Tryf.underlying59 hco w.heap.size Y.size (by unfold World.shape?; rw [hgY]) s.data.toList hne (by rw [← Lib.size_eq]; omega) (by rw [← Lib.size_eq]; omega)
      (fun j x hx => Lib.cells_of_row hgY Y.size j _ (by rw [List.take_of_length_le (by rw [Array.length_toList]; exact Nat.le_refl _), hYl]; simp [Lib.byteCells, hx]))
    rw [← Lib.size_eq] at hUS
    clear hY
    go_enter Tryf.func29, Tryf.ntmps29
    go_wp2
    go_ret
    have hb1 : Below w.heap.size w (w.alloc (.cells M 5)) := (Below.refl _ w).alloc (Nat.le_refl _) _
    have hb2 : Below w.heap.size (w.alloc (.cells M 5)) ((w.alloc (.cells M 5)).setRow w.heap.size Y) := ⟨rfl, rfl, rfl, by simp, fun k hk => setRow_other _ _ _ _ (by omega)⟩
    exact ⟨rfl, Lib.below_freeze (hb1.trans hb2) (p := ⟨w.heap.size, 0, none⟩) (Nat.le_refl _) _⟩

set_option maxHeartbeats 6400000 in
set_option maxRecDepth 100000 in
/-- strconv.syntaxError: a pointer to a new block. -/
theorem synErr_c (fn s : ByteArray) (te : TypeId) (pe : Value) (w : World) (hlim : s.size ≤ 281474976710656) (hv : w.cell? ⟨1, 0, none⟩ = some (.iface te pe)) :
    Calls Tryf.prog 21 #[.string fn, .string s] w fun e w' => (∃ N, e = .returned (.pointer (some ⟨N, 0, none⟩))) ∧ Below w.heap.size w w' := by
  have hG : 1 < w.heap.size := Lib.lt_of_cell hv
  have hvd : w.drew.cell? ⟨1, 0, none⟩ = some _ := hv
  go_enter Tryf.func21, Tryf.ntmps21
  go_wp2
  go_region_with (
      go_at_call 29
      refine (clone_c s _ hlim).mono ?_
      rintro e w2 ⟨rfl, hbel⟩
      have hv2 : w2.cell? ⟨1, 0, none⟩ = some _ := (hbel.cell (show (⟨1, 0, none⟩ : Addr).block < w.drew.heap.size from hG)).trans hvd)
  all_goals (
    go_wp2
    go_ret
    have hs2 : w.heap.size ≤ w2.heap.size := hbel.size
    exact ⟨⟨_, rfl⟩, ((Below.drew (Below.refl _ w)).trans hbel).alloc hs2 _⟩)

set_option maxHeartbeats 6400000 in
set_option maxRecDepth 100000 in
/-- strconv.rangeError: a pointer to a new block. -/
theorem rngErr_c (fn s : ByteArray) (te : TypeId) (pe : Value) (w : World) (hlim : s.size ≤ 281474976710656) (hv : w.cell? ⟨2, 0, none⟩ = some (.iface te pe)) :
    Calls Tryf.prog 22 #[.string fn, .string s] w fun e w' => (∃ N, e = .returned (.pointer (some ⟨N, 0, none⟩))) ∧ Below w.heap.size w w' := by
  have hG : 2 < w.heap.size := Lib.lt_of_cell hv
  have hvd : w.drew.cell? ⟨2, 0, none⟩ = some _ := hv
  go_enter Tryf.func22, Tryf.ntmps22
  go_wp2
  go_region_with (
      go_at_call 29
      refine (clone_c s _ hlim).mono ?_
      rintro e w2 ⟨rfl, hbel⟩
      have hv2 : w2.cell? ⟨2, 0, none⟩ = some _ := (hbel.cell (show (⟨2, 0, none⟩ : Addr).block < w.drew.heap.size from hG)).trans hvd)
  all_goals (
    go_wp2
    go_ret
    have hs2 : w.heap.size ≤ w2.heap.size := hbel.size
    exact ⟨⟨_, rfl⟩, ((Below.drew (Below.refl _ w)).trans hbel).alloc hs2 _⟩)

theorem comp42 : (Tryf.prog.info? 42).map (·.comparable) = some true := by kernel_rfl

set_option maxHeartbeats 4000000 in
set_option maxRecDepth 100000 in
theorem toErr_syn (fn s : ByteArray) (base bits : Int) (te : TypeId) (pe : Value) (w : World) (hlim : s.size ≤ 281474976710656) (hv : w.cell? ⟨1, 0, none⟩ = some (.iface te pe)) :
    Calls Tryf.prog 15 #[.string fn, .string s, .int .i64 base, .int .i64 bits, .iface 42 (.int .i64 2)] w fun e w' => (∃ N, e = .returned (.iface 45 (.pointer (some ⟨N, 0, none⟩)))) ∧ Below w.heap.size w w' := by
  have heq : ∀ W, (binOp .eql 25 (.iface 42 (.int .i64 2)) (.iface 42 (.int .i64 2))).run Tryf.prog W = .ok (.bool true) W := fun W => Lib.run_eql_iface_int W 2 2 Tryf.underlying25 comp42 Tryf.underlying42
  go_enter Tryf.func15, Tryf.ntmps15
  go_wp2_with (go_at_call 21; refine (synErr_c fn s te pe _ hlim ?_).mono ?_)
  · exact hv
  rintro e w2 ⟨⟨N, rfl⟩, h3⟩
  go_wp2
  go_ret
  exact ⟨⟨N, rfl⟩, h3⟩

set_option maxHeartbeats 4000000 in
set_option maxRecDepth 100000 in
theorem toErr_rng (fn s : ByteArray) (base bits : Int) (te : TypeId) (pe : Value) (w : World) (hlim : s.size ≤ 281474976710656) (hv : w.cell? ⟨2, 0, none⟩ = some (.iface te pe)) :
    Calls Tryf.prog 15 #[.string fn, .string s, .int .i64 base, .int .i64 bits, .iface 42 (.int .i64 1)] w fun e w' => (∃ N, e = .returned (.iface 45 (.pointer (some ⟨N, 0, none⟩)))) ∧ Below w.heap.size w w' := by
  have heq2 : ∀ W, (binOp .eql 25 (.iface 42 (.int .i64 1)) (.iface 42 (.int .i64 2))).run Tryf.prog W = .ok (.bool false) W := fun W => Lib.run_eql_iface_int W 1 2 Tryf.underlying25 comp42 Tryf.underlying42
  have heq : ∀ W, (binOp .eql 25 (.iface 42 (.int .i64 1)) (.iface 42 (.int .i64 1))).run Tryf.prog W = .ok (.bool true) W := fun W => Lib.run_eql_iface_int W 1 1 Tryf.underlying25 comp42 Tryf.underlying42
  go_enter Tryf.func15, Tryf.ntmps15
  go_wp2_with (go_at_call 22; refine (rngErr_c fn s te pe _ hlim ?_).mono ?_)
  · exact hv
  rintro e w2 ⟨⟨N, rfl⟩, h3⟩
  go_wp2
  go_ret
  exact ⟨⟨N, rfl⟩, h3⟩

/-- What strconv.ParseUint(s, 10, 63) comes to: the number, or none. -/
def num (l : List UInt8) : Option Nat :=
  if l = [] then none else
    match pu 0 l with
    | some (some n) => some n
    | _ => none

set_option maxHeartbeats 4000000 in
set_option maxRecDepth 100000 in
/-- strconv.ParseUint(s, 10, 63). -/
theorem parse_c (s : ByteArray) (t1 t2 : TypeId) (p1 p2 : Value) (w : World) (hlim : s.size ≤ 281474976710656) (hv1 : w.cell? ⟨1, 0, none⟩ = some (.iface t1 p1)) (hv2 : w.cell? ⟨2, 0, none⟩ = some (.iface t2 p2)) :
    Calls Tryf.prog 11 #[.string s, .int .i64 10, .int .i64 63] w fun e w' =>
      ((∃ u, num s.data.toList = some u ∧ e = .returned (.tuple #[.int .u64 u, .nilIface])) ∨ (num s.data.toList = none ∧ ∃ v N, e = .returned (.tuple #[.int .u64 v, .iface 45 (.pointer (some ⟨N, 0, none⟩))]))) ∧ Below w.heap.size w w' := by
  have hG1 : 1 < w.heap.size := Lib.lt_of_cell hv1
  have hG2 : 2 < w.heap.size := Lib.lt_of_cell hv2
  have hI : Calls Tryf.prog 14 #[.string s, .int .i64 10, .int .i64 63] w fun e w' =>
      ((∃ u, num s.data.toList = some u ∧ e = .returned (.tuple #[.int .u64 u, .nilIface])) ∨ (num s.data.toList = none ∧ (e = .returned (.tuple #[.int .u64 0, .iface 42 (.int .i64 2)]) ∨ e = .returned (.tuple #[.int .u64 9223372036854775807, .iface 42 (.int .i64 1)])))) ∧ Below w.heap.size w w' := by
    by_cases h0 : s.size = 0
    · have hs : s = ⟨#[]⟩ := by
        apply ByteArray.ext
        exact Array.eq_empty_of_size_eq_zero h0
      subst hs
      refine (inner_empty w).mono ?_
      rintro e w' ⟨rfl, rfl⟩
      exact ⟨Or.inr ⟨rfl, Or.inl rfl⟩, Below.refl _ _⟩
    · have hne : s.data.toList ≠ [] := fun e => h0 (by rw [Lib.size_eq, e]; rfl)
      refine (inner_c s h0 (by omega) w).mono ?_
      rintro e w' ⟨rfl, rfl⟩
      refine ⟨?_, Lib.bytesWorld_below _ _ _⟩
      unfold num
      rw [if_neg hne]
      cases hp : pu 0 s.data.toList with
      | none => exact Or.inr ⟨rfl, Or.inl rfl⟩
      | some o =>
        cases o with
        | none => exact Or.inr ⟨rfl, Or.inr rfl⟩
        | some n => exact Or.inl ⟨n, rfl, rfl⟩
  go_enter Tryf.func11, Tryf.ntmps11
  go_wp2_with (go_at_call 14; refine hI.mono ?_)
  rintro e W1 ⟨he, hb1⟩
  have hw1 : W1.cell? ⟨1, 0, none⟩ = some (.iface t1 p1) := (hb1.cell (show (⟨1, 0, none⟩ : Addr).block < w.heap.size from hG1)).trans hv1
  have hw2 : W1.cell? ⟨2, 0, none⟩ = some (.iface t2 p2) := (hb1.cell (show (⟨2, 0, none⟩ : Addr).block < w.heap.size from hG2)).trans hv2
  clear hI
  rcases he with ⟨u, hu, rfl⟩ | ⟨hn, rfl | rfl⟩
  · have Hu : Hid (num s.data.toList = some u) := hu
    clear hu
    go_wp2
    go_ret2
    exact ⟨Or.inl ⟨u, Hu.out, rfl⟩, hb1⟩
  · have Hn : Hid (num s.data.toList = none) := hn
    clear hn
    go_wp2_with (go_at_call 15; refine (toErr_syn _ s 10 63 t1 p1 _ hlim ?_).mono ?_)
    · exact hw1
    rintro e W2 ⟨⟨N, rfl⟩, h3⟩
    go_wp2
    go_ret2
    exact ⟨Or.inr ⟨Hn.out, _, N, rfl⟩, hb1.trans (h3.mono hb1.size)⟩
  · have Hn : Hid (num s.data.toList = none) := hn
    clear hn
    go_wp2_with (go_at_call 15; refine (toErr_rng _ s 10 63 t2 p2 _ hlim ?_).mono ?_)
    · exact hw2
    rintro e W2 ⟨⟨N, rfl⟩, h3⟩
    go_wp2
    go_ret2
    exact ⟨Or.inr ⟨Hn.out, _, N, rfl⟩, hb1.trans (h3.mono hb1.size)⟩
end Go.Proofs.Qxb6608749aFmt
