/- Seat b6608749aF, second part: internal/strconv.ParseUint(s, 10, 63), strconv's errors, strconv.ParseUint. -/
import Derived.Test.Qxb6608749aFmtCut
import Derived.Lib.Strings
import Derived.Lib.Walk
import Derived.Lib.ConvBytes
import Derived.Lib.Hide
import Derived.Lib.BufferWrite
import Derived.Lib.AtoiErrMem
import Derived.Lib.IfaceEq
import Derived.Laws.Strings3
import Derived.Laws.Closers25
import Derived.Laws.Closers25b
import Derived.Laws.MakeOwn
import Derived.BigCall
import Derived.BigGuard
import Derived.Deep.RegionWith
namespace Go.Proofs.Qxb6608749aFmt
open Go.RowKit

/-- What ParseUint(s, 10, 63) comes to behind its test for the empty string: 'none': no row of digits; 'some none': out of range; 'some (some n)': the number n. -/
def pu (acc : Nat) : List UInt8 → Option (Option Nat)
  | [] => some (some acc)
  | c :: r =>
    if 48 ≤ c.toNat ∧ c.toNat ≤ 57 then
      if 9223372036854775807 < acc * 10 + (c.toNat - 48) then some none
      else pu (acc * 10 + (c.toNat - 48)) r
    else none

def puTuple : Option (Option Nat) → Value
  | none => .tuple #[.int .u64 0, .iface 42 (.int .i64 2)]
  | some none => .tuple #[.int .u64 9223372036854775807, .iface 42 (.int .i64 1)]
  | some (some n) => .tuple #[.int .u64 n, .nilIface]

theorem lower_c (c : Int) (w : World) : Calls Tryf.prog 19 #[.int .u8 c] w fun e w' => e = .returned (.int .u8 (bits .or .u8 c 32)) ∧ w' = w := by
  go_enter Tryf.func19, Tryf.ntmps19
  go_wp2
  go_ret
  exact ⟨rfl, rfl⟩

set_option maxRecDepth 100000 in
theorem inner_empty (w : World) : Calls Tryf.prog 14 #[.string ⟨#[]⟩, .int .i64 10, .int .i64 63] w fun e w' => e = .returned (puTuple none) ∧ w' = w := by
  go_enter Tryf.func14, Tryf.ntmps14
  go_wp2
  go_ret2
  exact ⟨rfl, rfl⟩

set_option maxHeartbeats 32000000 in
set_option maxRecDepth 100000 in
theorem inner_c (t : ByteArray) (hne : t.size ≠ 0) (hmax : t.size ≤ 9223372036854775806) (w : World) :
    Calls Tryf.prog 14 #[.string t, .int .i64 10, .int .i64 63] w fun e w' => e = .returned (puTuple (pu 0 t.data.toList)) ∧ w' = Lib.bytesWorld w 5 t := by
  have hemp : t.toList.isEmpty = false := by
    rw [← decide_eq_emptyBytes]
    exact decide_eq_false (fun h => hne (by rw [h]; rfl))
  have hcv := Lib.run_convert_string_bytes (P := Tryf.prog) w 9 36 5 t (u := .string) Tryf.underlying9 Tryf.underlying36 Tryf.underlying5
  have hB : ∀ j, j < t.size → (Lib.bytesWorld w 5 t).cell? ⟨w.heap.size, j, none⟩ = some (.int .u8 (t.data.toList.getD j 0).toNat) := fun j hj => Lib.bytesWorld_cell w 5 t j hj
  obtain ⟨W1, hW1⟩ : ∃ W1, W1 = Lib.bytesWorld w 5 t := ⟨_, rfl⟩
  rw [← hW1] at hcv hB ⊢
  clear hW1
  obtain ⟨bs, hL⟩ : ∃ bs, bs = t.data.toList := ⟨_, rfl⟩
  have hLn : bs.length = t.size := by rw [hL, Lib.size_eq]
  rw [← hL] at hB ⊢
  clear hL
  have hmv : IntKind.u64.wrap (IntKind.u64.wrap 9223372036854775808 - 1) = 9223372036854775807 := by
    rw [IntKind.wrap_u64, IntKind.wrap_u64]
    decide
  go_enter Tryf.func14, Tryf.ntmps14
  go_wp2
  go_loop [12, 13, 101] (fun vu vn vi => ∃ (k acc : Nat) (a : Int), vu = .bool false ∧ vn = .int .u64 a ∧ vi = .int .i64 k ∧ k ≤ t.size ∧ Hid (a = (acc : Int) ∧ acc ≤ 9223372036854775807 ∧ pu 0 bs = pu acc (bs.drop k)))
    (fun _ _ vi => t.size - (intOf vi).toNat)
  case atStart => exact ⟨0, 0, 0, rfl, rfl, rfl, by omega, rfl, by omega, rfl⟩
  case round =>
    obtain ⟨k, acc, a, rfl, rfl, rfl, hk, hh⟩ := hrel
    obtain ⟨ha, hacc, hdec⟩ := hh.out
    clear hh
    have a0 : 0 ≤ a := by omega
    have a1 : a ≤ 9223372036854775807 := by omega
    by_cases hkn : k < t.size
    · have hc := hB k hkn
      have hdrop : bs.drop k = bs[k]'(by omega) :: bs.drop (k + 1) := List.drop_eq_getElem_cons (by omega)
      have hget : bs.getD k 0 = bs[k]'(by omega) := by simp [List.getD, List.getElem?_eq_getElem (show k < bs.length by omega)]
      rw [hdrop] at hdec
      rw [hget] at hc
      generalize bs[k]'(by omega) = c at hc hdec
      have hc256 : c.toNat < 256 := c.toNat_lt
      clear hB hdrop hget
      by_cases hdig : 48 ≤ c.toNat ∧ c.toNat ≤ 57
      · obtain ⟨hd0, hd1⟩ := hdig
        by_cases hov : 9223372036854775807 < acc * 10 + (c.toNat - 48)
        · have hF : pu acc (c :: bs.drop (k + 1)) = some none := by simp [pu, hd0, hd1, hov]
          rw [hF] at hdec
          by_cases hcut : 1844674407370955162 ≤ acc
          · have icut : 1844674407370955162 ≤ a := by omega
            clear hcut hacc hF ha hov
            go_wp2
            go_ret2
            exact ⟨rfl, rfl⟩
          · have icut : a < 1844674407370955162 := by omega
            by_cases hw64 : 18446744073709551616 ≤ acc * 10 + (c.toNat - 48)
            · have iov : 18446744073709551616 ≤ a * 10 + ((c.toNat : Int) - 48) := by omega
              have hwr : IntKind.u64.wrap (a * 10 + ((c.toNat : Int) - 48)) = a * 10 + ((c.toNat : Int) - 48) - 18446744073709551616 := by
                rw [IntKind.wrap_u64]
                omega
              clear hcut hacc hF hov ha hw64
              go_wp2
              go_ret2
              exact ⟨rfl, rfl⟩
            · have iov : 9223372036854775807 < a * 10 + ((c.toNat : Int) - 48) := by omega
              have iov2 : a * 10 + ((c.toNat : Int) - 48) < 18446744073709551616 := by omega
              clear hcut hacc hF hov ha hw64
              go_wp2
              go_ret2
              exact ⟨rfl, rfl⟩
        · have hF : pu acc (c :: bs.drop (k + 1)) = pu (acc * 10 + (c.toNat - 48)) (bs.drop (k + 1)) := by simp [pu, hd0, hd1, hov]
          have HN : Hid (a * 10 + ((c.toNat : Int) - 48) = ((acc * 10 + (c.toNat - 48) : Nat) : Int) ∧ acc * 10 + (c.toNat - 48) ≤ 9223372036854775807 ∧ pu 0 bs = pu (acc * 10 + (c.toNat - 48)) (bs.drop (k + 1))) := Lib.hid ⟨by omega, by omega, hdec.trans hF⟩
          have icut : a < 1844674407370955162 := by omega
          have iov : a * 10 + ((c.toNat : Int) - 48) ≤ 9223372036854775807 := by omega
          clear hacc hF hov hdec ha
          go_wp2
          refine ⟨⟨k + 1, acc * 10 + (c.toNat - 48), a * 10 + ((c.toNat : Int) - 48), rfl, (by first | rfl | (congr 1; omega)), (by first | rfl | (congr 1; omega)), by omega, HN⟩, by simp [intOf]; omega⟩
      · have hF : pu acc (c :: bs.drop (k + 1)) = none := by simp [pu, hdig]
        rw [hF] at hdec
        clear hacc hF ha
        have hv0 := bits_lo_u8 .or (c.toNat : Int) 32
        have hv1 := bits_hi_u8 .or (c.toNat : Int) 32
        have hu0 := bits_lo_u8 .or 95 32
        have hu1 := bits_hi_u8 .or 95 32
        go_wp2_with (go_at_call 19; refine (lower_c _ _).mono ?_; rintro e w' ⟨rfl, rfl⟩)
        all_goals go_ret2
        all_goals first | exact ⟨rfl, rfl⟩ | exact ⟨by rw [hdec]; rfl, rfl⟩
    · have hkk : k = t.size := by omega
      subst hkk
      have hF : pu acc (bs.drop t.size) = some (some acc) := by rw [List.drop_eq_nil_of_le (by omega)]; rfl
      rw [hF] at hdec
      subst ha
      clear hacc hF a0 a1
      go_wp2
      go_ret2
      exact ⟨rfl, rfl⟩
end Go.Proofs.Qxb6608749aFmt
