/- Seat b6613145aF: the law FnNewReaderJoinAtAnyCut. -/
import Derived.Test.Qxb6613145aFmtLawB0
import Derived.Test.Qxb6613145aFmtLawB1
import Derived.Test.Qxb6613145aFmtLawB2
namespace Go.Proofs.Qxb6613145aFmt
open Go.RowKit
set_option linter.unusedVariables false

set_option maxRecDepth 100000 in
theorem lawB_c (a b : ByteArray) (b4 b0 : Addr) (w : World) (h6 : 6 < w.heap.size) (g4 : w.cell? ⟨4, 0, none⟩ = some (.iface 54 (.pointer (some b4)))) (g0 : w.cell? ⟨0, 0, none⟩ = some (.iface 54 (.pointer (some b0)))) :
    Calls Tryf.prog 4 #[.string a, .string b] w fun e w' => e = .returned (.bool true) ∧ Apart (fun _ => False) w w' := by
  have HB := Lib.hid (bytesB_c a b w)
  by_cases hs : a.size + b.size ≤ 1048576
  · by_cases ha : a.size ≤ 65536
    · by_cases hb : b.size ≤ 65536
      · by_cases h0 : a.size = 0
        · exact lawB_0 a b b4 b0 w ha hb h0 h6 g4 g0
        · by_cases hc : gB a (a.size - 1) = 10
          · exact lawB_1 a b b4 b0 w ha hb h0 hc h6 g4 g0
          · exact lawB_2 a b b4 b0 w ha hb h0 hc h6 g4 g0
      · rw [decide_eq_true hs] at HB
        have y0 : ¬ (65536 : Int) < (a.size : Int) := by omega
        have y1 : (65536 : Int) < (b.size : Int) := by omega
        clear g4 g0
        go_enter Tryf.func4, Tryf.ntmps4
        go_wp2_with (first | (go_at_call 10; refine (HB.out).mono ?_; rintro e w1 ⟨rfl, rfl⟩))
        go_ret
        exact ⟨rfl, Apart.refl _ _⟩
    · rw [decide_eq_true hs] at HB
      have y0 : (65536 : Int) < (a.size : Int) := by omega
      clear g4 g0
      go_enter Tryf.func4, Tryf.ntmps4
      go_wp2_with (first | (go_at_call 10; refine (HB.out).mono ?_; rintro e w1 ⟨rfl, rfl⟩))
      go_ret
      exact ⟨rfl, Apart.refl _ _⟩
  · rw [decide_eq_false hs] at HB
    clear g4 g0
    go_enter Tryf.func4, Tryf.ntmps4
    go_wp2_with (first | (go_at_call 10; refine (HB.out).mono ?_; rintro e w1 ⟨rfl, rfl⟩))
    go_ret
    exact ⟨rfl, Apart.refl _ _⟩
end Go.Proofs.Qxb6613145aFmt
