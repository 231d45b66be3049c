/- Seat b6613145aF: setErr, advance, Err, Text, strings.Reader.Read. -/
import Derived.Test.Qxb6613145aFmtLeaf
import Derived.Lib.LazyBuf
import Derived.Laws.BytesArg
import Derived.Stop.IfaceNil
import Derived.LaidEql
import Derived.Laws.IdiomCopy
namespace Go.Proofs.Qxb6613145aFmt
open Go.RowKit
set_option linter.unusedVariables false

theorem comp54 : (Tryf.prog.info? 54).map (·.comparable) = some true := by kernel_rfl
theorem some55 : (Tryf.prog.info? 56).isSome = true := by kernel_rfl
/-- io.EOF is io.EOF. -/
theorem eof_eql (b : Addr) (w : World) : (binOp .eql 32 (.iface 54 (.pointer (some b))) (.iface 54 (.pointer (some b)))).run Tryf.prog w = .ok (.bool true) w := by
  obtain ⟨i, hi, hc⟩ := Option.map_eq_some_iff.1 comp54
  obtain ⟨j, hj⟩ := Option.isSome_iff_exists.1 some55
  exact run_eql_iface_ptr_same w b Tryf.underlying32 Tryf.underlying54 hi hc hj

theorem setErr_c (B : Nat) (b : Addr) (w : World) (c7 : w.cell? ⟨B, 7, none⟩ = some .nilIface) (hf : w.frozen? ⟨B, 7, none⟩ = false) :
    Calls Tryf.prog 34 #[.pointer (some ⟨B, 0, none⟩), .iface 54 (.pointer (some b))] w fun e w' => e = .returned (.tuple #[]) ∧ ∃ q, w' = (w.setCell ⟨B, 7, none⟩ (.iface 54 (.pointer (some b)))).drewN q := by
  go_enter Tryf.func34, Tryf.ntmps34
  go_wp2
  go_quiet (fail)
  go_wp2
  go_end0
  exact ⟨rfl, _, rfl⟩

theorem advance_c (B st en : Nat) (z : Int) (k : Nat) (w : World) (hz : z = k) (c5 : w.cell? ⟨B, 5, none⟩ = some (.int .i64 (st : Int))) (c6 : w.cell? ⟨B, 6, none⟩ = some (.int .i64 (en : Int))) (hf : w.frozen? ⟨B, 5, none⟩ = false) (hk : st + k ≤ en) (hen : en ≤ 1048576) :
    Calls Tryf.prog 35 #[.pointer (some ⟨B, 0, none⟩), .int .i64 z] w fun e w' => e = .returned (.bool true) ∧ ∃ q, w' = (w.setCell ⟨B, 5, none⟩ (.int .i64 ((st + k : Nat) : Int))).drewN q := by
  subst hz
  have i1 : ¬ (en : Int) - (st : Int) < (k : Int) := by omega
  go_enter Tryf.func35, Tryf.ntmps35
  go_wp2
  go_quiet (fail)
  go_wp2
  go_ret
  exact ⟨rfl, _, rfl⟩

/-- Scanner.Err where nothing failed but io.EOF. -/
theorem err_c (B : Nat) (b : Addr) (w : World) (c7 : w.cell? ⟨B, 7, none⟩ = some (.iface 54 (.pointer (some b)))) (g4 : w.cell? ⟨4, 0, none⟩ = some (.iface 54 (.pointer (some b)))) :
    Calls Tryf.prog 27 #[.pointer (some ⟨B, 0, none⟩)] w fun e w' => e = .returned .nilIface ∧ ∃ q, w' = w.drewN q := by
  have he := eof_eql b
  go_enter Tryf.func27, Tryf.ntmps27
  go_wp2
  go_quiet (fail)
  go_wp2
  go_ret
  exact ⟨rfl, _, rfl⟩

/-- Scanner.Text. -/
theorem text_c (B K o n c : Nat) (h : Nat → Int) (w : World) (c3 : w.cell? ⟨B, 3, none⟩ = some (.slice (some ⟨K, o, none⟩) n c)) (hl : Lies w K o n h) :
    Calls Tryf.prog 31 #[.pointer (some ⟨B, 0, none⟩)] w fun e w' => e = .returned (.string (strOfNums (row h n))) ∧ ∃ q, w' = w.drewN q := by
  have hcv := run_convert_bytes_arg (P := Tryf.prog) w 65 5 Tryf.underlying65 Tryf.underlying5 K o n c (row h n) (row_length _ _) (fun i hi => by rw [row_getD _ _ _ hi]; exact hl i hi) 9 Tryf.underlying9
  clear hl
  go_enter Tryf.func31, Tryf.ntmps31
  go_wp2
  go_ret
  exact ⟨rfl, 0, rfl⟩

theorem drewN_drewN (w : World) (a b : Nat) : (w.drewN a).drewN b = w.drewN (a + b) := by simp [World.drewN, Nat.add_assoc]

/-- The reader is at its end. -/
theorem read_end (R : Nat) (S : ByteArray) (b : Addr) (a : Option Addr) (n c : Nat) (w : World) (r0 : w.cell? ⟨R, 0, none⟩ = some (.string S)) (r1 : w.cell? ⟨R, 1, none⟩ = some (.int .i64 (S.size : Int)))
    (g4 : w.cell? ⟨4, 0, none⟩ = some (.iface 54 (.pointer (some b)))) (hS : S.size ≤ 1048576) :
    Calls Tryf.prog 59 #[.pointer (some ⟨R, 0, none⟩), .slice a n c] w fun e w' => e = .returned (.tuple #[.int .i64 0, .iface 54 (.pointer (some b))]) ∧ ∃ q, w' = w.drewN q := by
  go_enter Tryf.func59, Tryf.ntmps59
  go_wp2
  go_quiet (fail)
  go_wp2
  go_quiet (fail)
  go_wp2
  exact bodyPost_ret (v := .tuple #[.int .i64 0, .iface 54 (.pointer (some b))]) (by simp [results, Tryf.results59, go_sem]) rfl ⟨rfl, _, drewN_drewN _ _ _⟩

theorem size5 : ∀ w, (Go.sizeOf 5).run Tryf.prog w = .ok 1 w := Tryf.sizeOf5

/-- The bytes that a read brings. -/
def got (S : ByteArray) (i k : Nat) : List Value := (List.range k).map fun j => Value.int .u8 (gB S (i + j))
theorem got_length (S : ByteArray) (i k : Nat) : (got S i k).length = k := by simp [got]

theorem got_eq (S : ByteArray) (i k : Nat) (h : i + k ≤ S.size) : ((S.extract i S.size).data.toList.map fun x => Value.int .u8 (x.toNat : Int)).take k = got S i k := by
  rw [Lib.extract_data]
  apply List.ext_getElem?
  intro j
  have hs : S.data.size = S.size := rfl
  by_cases hj : j < k
  · simp [got, hj, gB, Array.getD, show i + j < S.size by omega, show j < S.size - i by omega]
  · simp [got, hj]
    omega

theorem drewN_setCells (b : Nat) (q : Nat) : ∀ (vs : List Value) (o : Nat) (w : World), (w.drewN q).setCells b o vs = (w.setCells b o vs).drewN q
  | [], _, _ => rfl
  | v :: r, o, w => by
    rw [World.setCells, World.setCells]
    exact drewN_setCells b q r (o + 1) (w.setCell ⟨b, o, none⟩ v)

theorem copy_str (K o n c k : Nat) (t : ByteArray) (w : World) (hk : k = min t.size n)
    (hc : ∀ j, j < k → (w.cell? ⟨K, o + j, none⟩).isSome = true) (hf : ∀ j, j < k → w.frozen? ⟨K, o + j, none⟩ = false) :
    (Builtin.copy_ #[65, 9] 3 #[.slice (some ⟨K, o, none⟩) n c, .string t]).run Tryf.prog w = .ok (.int .i64 (k : Int)) (w.setCells K o ((t.data.toList.map fun x => Value.int .u8 (x.toNat : Int)).take k)) := by
  have hmin : Nat.min t.size n = k := hk.symm
  have hlen : ((t.data.toList.map fun x => Value.int .u8 (x.toNat : Int)).take k).length = k := by
    simp
    have : t.data.size = t.size := rfl
    omega
  have hst := run_storeCells_cells (P := Tryf.prog) K o ((t.data.toList.map fun x => Value.int .u8 (x.toNat : Int)).take k) 0 w (by rw [hlen]; simpa using hc) (by rw [hlen]; simpa using hf) (by
    intro v hv
    obtain ⟨x, _, rfl⟩ := List.mem_map.1 (List.mem_of_mem_take hv)
    rfl)
  have hz := size5
  simp [Builtin.copy_, run_underlying Tryf.underlying65, Builtin.lenOf, Builtin.firstCells, hz, hmin]
  first | (rw [hst]; rfl) | (simp at hst; rw [hst]; rfl)

theorem copy_some (K o n c i k : Nat) (S : ByteArray) (w : World) (hk : k = min n (S.size - i)) (hi : i ≤ S.size)
    (hc : ∀ j, j < k → (w.cell? ⟨K, o + j, none⟩).isSome = true) (hf : ∀ j, j < k → w.frozen? ⟨K, o + j, none⟩ = false) :
    (Builtin.copy_ #[65, 9] 3 #[.slice (some ⟨K, o, none⟩) n c, .string (S.extract i S.size)]).run Tryf.prog w = .ok (.int .i64 (k : Int)) (w.setCells K o (got S i k)) := by
  have hsz : (S.extract i S.size).size = S.size - i := by simp
  rw [copy_str K o n c k (S.extract i S.size) w (by rw [hsz]; omega) hc hf, got_eq S i k (by omega)]

set_option maxHeartbeats 1000000 in
theorem read_some (R K o n c i k : Nat) (S : ByteArray) (a2 : Value) (w : World) (r0 : w.cell? ⟨R, 0, none⟩ = some (.string S)) (r1 : w.cell? ⟨R, 1, none⟩ = some (.int .i64 (i : Int))) (r2 : w.cell? ⟨R, 2, none⟩ = some a2)
    (hfR : ∀ o, w.frozen? ⟨R, o, none⟩ = false) (hS : S.size ≤ 1048576) (hi : i < S.size) (hk : k = min n (S.size - i)) (hRK : R ≠ K)
    (hc : ∀ j, j < k → (w.cell? ⟨K, o + j, none⟩).isSome = true) (hf : ∀ j, j < k → w.frozen? ⟨K, o + j, none⟩ = false) :
    Calls Tryf.prog 59 #[.pointer (some ⟨R, 0, none⟩), .slice (some ⟨K, o, none⟩) n c] w fun e w' => e = .returned (.tuple #[.int .i64 (k : Int), .nilIface]) ∧
      ∃ q, w' = (((w.setCell ⟨R, 2, none⟩ (.int .i64 (-1))).setCells K o (got S i k)).setCell ⟨R, 1, none⟩ (.int .i64 ((i + k : Nat) : Int))).drewN q := by
  have hcp : ∀ q, (Builtin.copy_ #[65, 9] 3 #[.slice (some ⟨K, o, none⟩) n c, .string (S.extract i S.size)]).run Tryf.prog ((w.drewN q).setCell ⟨R, 2, none⟩ (.int .i64 (-1))).drew = .ok (.int .i64 (k : Int)) (((w.setCell ⟨R, 2, none⟩ (.int .i64 (-1))).setCells K o (got S i k)).drewN (q + 1)) := fun q => by
    rw [copy_some K o n c i k S _ hk (by omega) (fun j hj => ?_) (fun j hj => ?_)]
    · congr 1
      exact drewN_setCells K (q + 1) (got S i k) o (w.setCell ⟨R, 2, none⟩ (.int .i64 (-1)))
    · show ((w.setCell ⟨R, 2, none⟩ _).cell? _).isSome = true
      rw [World.cell?_setCell_other (h := fun e => by have := congrArg Addr.block e; simp at this; omega)]
      exact hc j hj
    · show (w.setCell ⟨R, 2, none⟩ _).frozen? _ = false
      rw [World.frozen?_setCell]
      exact hf j hj
  have i1 : ¬ (S.size : Int) ≤ (i : Int) := by omega
  have i2 : (i : Int) ≤ (S.size : Int) := by omega
  have hlo : ((w.setCell ⟨R, 2, none⟩ (.int .i64 (-1))).setCells K o (got S i k)).cell? ⟨R, 1, none⟩ = some (.int .i64 (i : Int)) := by
    rw [World.cell?_setCells_out K _ o _ ⟨R, 1, none⟩ (fun h _ => absurd h hRK), World.cell?_setCell_other (h := fun e => by have := congrArg Addr.off e; simp at this)]
    exact r1
  have hfr : ((w.setCell ⟨R, 2, none⟩ (.int .i64 (-1))).setCells K o (got S i k)).frozen? ⟨R, 1, none⟩ = false := by
    rw [World.frozen?_setCells, World.frozen?_setCell]
    exact hfR 1
  have hik : i + k ≤ S.size := by omega
  clear hc hf hk
  go_enter Tryf.func59, Tryf.ntmps59
  go_wp2
  go_quiet (fail)
  go_wp2
  go_region
  go_wp2
  exact bodyPost_ret (v := .tuple #[.int .i64 (k : Int), .nilIface]) (by simp [results, Tryf.results59, go_sem]) rfl ⟨rfl, nq + 1, by rw [Int.natCast_add]; rfl⟩
end Go.Proofs.Qxb6613145aFmt
