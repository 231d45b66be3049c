/- Seat b6613145aF: zzReadAll. -/
import Derived.Test.Qxb6613145aFmtAll
import Derived.Deep.LoopGhost
namespace Go.Proofs.Qxb6613145aFmt
open Go.RowKit
set_option linter.unusedVariables false

/-- What zzReadAll leaves: the numbers 1, 2, .. and the lines of S, in rows of its own. -/
def ReadOut (S : ByteArray) (w : World) (e : Ending) (w' : World) : Prop :=
  ∃ vn vt, e = .returned (.tuple #[vn, vt, .bool true]) ∧ w'.ownsRow w.heap.size 3 1 vn (linesFrom S 0).length (nums (linesFrom S 0).length) ∧ w'.ownsRow w.heap.size 9 1 vt (linesFrom S 0).length ((linesFrom S 0).map .string) ∧ Apart (fun _ => False) w w'

theorem read_out {S : ByteArray} {b : Addr} {w0 W : World} {cnt : Nat} {vn vt : Value} (h : RA S b w0 W S.size cnt vn cnt vt cnt) : ReadOut S w0 (.returned (.tuple #[vn, vt, .bool true])) W := by
  have e := h.rest
  have hl := congrArg List.length e
  rw [linesFrom_end S S.size (Nat.le_refl _), List.length_drop] at hl
  have on := h.on
  have ot := h.ot
  have hle : cnt ≤ (linesFrom S 0).length := by
    have := ot.1
    simp at this
    omega
  obtain rfl : cnt = (linesFrom S 0).length := by
    simp at hl
    omega
  rw [List.take_length] at ot
  exact ⟨vn, vt, rfl, on, ot, h.ap⟩

set_option maxHeartbeats 2000000 in
set_option maxRecDepth 100000 in
theorem readAll_c (S : ByteArray) (b b0 : Addr) (w : World) (h6 : 6 < w.heap.size) (hS : S.size ≤ 140000) (g4 : w.cell? ⟨4, 0, none⟩ = some (.iface 54 (.pointer (some b)))) (g0 : w.cell? ⟨0, 0, none⟩ = some (.iface 54 (.pointer (some b0)))) :
    Calls Tryf.prog 9 #[.string S] w fun e w' => ReadOut S w e w' := by
  have HN := Lib.hid (newReader_c S w)
  have HA := Lib.hid (RA.start S b w h6 hS g4)
  have G0 := Lib.hid g0
  clear g4 g0
  go_enter Tryf.func9, Tryf.ntmps9
  go_wp2_with (first | (go_at_call 19; refine (HN.out).mono ?_; rintro e w1 ⟨rfl, rfl⟩))
  go_loopg [6, 7, 8] (S.size + 1) (fun gz s6 s7 s8 wr => ∃ (pos cnt : Nat), s8 = .int .i64 (cnt : Int) ∧ RA S b w wr pos cnt s6 cnt s7 cnt ∧ S.size - pos + 1 ≤ gz)
  case atStart => exact ⟨0, 0, rfl, HA.out, by omega⟩
  case round =>
    obtain ⟨pos, cnt, rfl, hR, hg⟩ := hrel
    have hle := hR.le
    have y0 : (cnt : Int) ≤ (S.size : Int) + 1 := by omega
    have y1 : (S.size : Int) ≤ 140000 := by omega
    have HR := Lib.hid hR
    by_cases hpos : pos < S.size
    · have HX := Lib.hid (hR.next hpos)
      have HL := Lib.hid (hR.line hpos)
      have HP := Lib.hid hpos
      clear hR hle hpos
      go_wp2_with (first | (go_at_call 20; fail))
      refine (HX.out).mono ?_
      rintro e w1 ⟨rfl, h1⟩
      obtain ⟨vn, w2, hr1, h2⟩ := h1.pushN (by have := HR.out.le; omega)
      obtain ⟨vt, w3, hr2, h3⟩ := h2.pushT (by have := HR.out.le; omega) _ HL.out
      have H3 := Lib.hid h3
      have E1 := Lib.hid hr1
      have E2 := Lib.hid hr2
      clear h1 h2 h3 hr1 hr2
      go_wp2_with (first | (at_builtin; refine wpList_append_run rfl _ _ 25 rfl _ _ rfl rfl _ _ E1.out ?_) | (at_builtin; refine wpList_append_run rfl _ _ 23 rfl _ _ rfl rfl _ _ E2.out ?_))
      go_roundg (S.size - after S pos + 1)
      case measure => have := after_range S pos HP.out; omega
      case rel => exact ⟨_, _, by simp, H3.out, Nat.le_refl _⟩
    · obtain rfl : pos = S.size := by omega
      have HX := Lib.hid (hR.last b0 G0.out)
      clear hR hle hpos
      go_wp2_with (first | (go_at_call 20; fail))
      refine (HX.out).mono ?_
      rintro e w1 ⟨rfl, h1⟩
      have HY := Lib.hid (h1.last b0 G0.out)
      clear h1
      go_wp2_with (first | (go_at_call 20; fail))
      refine (HY.out).mono ?_
      rintro e w2 ⟨rfl, h2⟩
      have HZ := Lib.hid (rerr_c _ .nilIface w2 h2.l2)
      have HO := Lib.hid (read_out h2)
      clear h2
      go_wp2_with (first | (go_at_call 21; refine (HZ.out).mono ?_; rintro e w3 ⟨rfl, rfl⟩))
      go_ret3
      exact HO.out
end Go.Proofs.Qxb6613145aFmt
