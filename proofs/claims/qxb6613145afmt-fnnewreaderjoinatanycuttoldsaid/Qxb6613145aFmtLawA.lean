/- Seat b6613145aF: the law FnNewReaderLinesMatchModel. -/
import Derived.Test.Qxb6613145aFmtModel
import Derived.Test.Qxb6613145aFmtRead
import Derived.BigQuiet
namespace Go.Proofs.Qxb6613145aFmt
open Go.RowKit
set_option linter.unusedVariables false

theorem bytesA_c (S : ByteArray) (w : World) : Calls Tryf.prog 7 #[.string S] w fun e w' => e = .returned (.bool (decide (S.size ≤ 1048576))) ∧ w = w' := by
  by_cases h : S.size ≤ 1048576
  · rw [decide_eq_true h]
    have y0 : ¬ (1048576 : Int) < (S.size : Int) := by omega
    go_enter Tryf.func7, Tryf.ntmps7
    go_wp2
    go_ret
    exact ⟨rfl, rfl⟩
  · rw [decide_eq_false h]
    have y0 : (1048576 : Int) < (S.size : Int) := by omega
    go_enter Tryf.func7, Tryf.ntmps7
    go_wp2
    go_ret
    exact ⟨rfl, rfl⟩

/-- How a row of one-cell elements looks. -/
theorem own_form {w : World} {base : Nat} {e : TypeId} {v : Value} {n : Nat} {xs : List Value} (h : w.ownsRow base e 1 v n xs) :
    ∃ (a : Option Addr) (cap : Nat), v = .slice a n cap ∧ n ≤ cap ∧ ∀ j u, xs[j]? = some u → ∃ g, a = some ⟨g, 0, none⟩ ∧ w.cell? ⟨g, j, none⟩ = some u := by
  rcases h.2 with ⟨rfl, rfl⟩ | ⟨g, cap, cur, rfl, hb, hg, hn, _⟩
  · refine ⟨none, 0, rfl, Nat.le_refl _, fun j u hu => ?_⟩
    have : xs = [] := List.eq_nil_of_length_eq_zero (by simpa using h.1)
    subst this
    simp at hu
  · refine ⟨_, cap, rfl, hn, fun j u hu => ⟨g, rfl, ?_⟩⟩
    have := h.cells (g := g) rfl j u hu
    rwa [addr_add0] at this

set_option maxHeartbeats 2000000 in
set_option maxRecDepth 100000 in
theorem lawA_c (S : ByteArray) (b b0 : Addr) (w : World) (h6 : 6 < w.heap.size) (g4 : w.cell? ⟨4, 0, none⟩ = some (.iface 54 (.pointer (some b)))) (g0 : w.cell? ⟨0, 0, none⟩ = some (.iface 54 (.pointer (some b0)))) :
    Calls Tryf.prog 3 #[.string S] w fun e w' => e = .returned (.bool true) ∧ Apart (fun _ => False) w w' := by
  have HB := Lib.hid (bytesA_c S w)
  by_cases hbig : S.size ≤ 1048576
  · rw [decide_eq_true hbig] at HB
    by_cases hS : S.size ≤ 65536
    · have y0 : ¬ (65536 : Int) < (S.size : Int) := by omega
      have HM := Lib.hid (model_c S w (by omega))
      have G4 := Lib.hid g4
      have G0 := Lib.hid g0
      clear g4 g0
      go_enter Tryf.func3, Tryf.ntmps3
      go_wp2_with (first | (go_at_call 7; refine (HB.out).mono ?_; rintro e w1 ⟨rfl, rfl⟩) | (go_at_call 8; fail))
      refine (HM.out).mono ?_
      rintro e w1 ⟨vw, rfl, how, hA1⟩
      have HR := Lib.hid (readAll_c S b b0 w1 (Nat.lt_of_lt_of_le h6 hA1.size) (by omega) ((hA1.cell (p := ⟨4, 0, none⟩) (Lib.lt_of_cell G4.out) (fun x => x)).trans G4.out) ((hA1.cell (p := ⟨0, 0, none⟩) (Lib.lt_of_cell G0.out) (fun x => x)).trans G0.out))
      have HOW := Lib.hid how
      have HA1 := Lib.hid hA1
      clear how hA1
      go_wp2_with (first | (go_at_call 9; fail))
      refine (HR.out).mono ?_
      rintro e w2 ⟨vn, vt, rfl, hon, hot, hA2⟩
      have how2 := own_kept HOW.out hA2 (fun k _ x => x)
      obtain ⟨aw, cw, rfl, hcw, hw⟩ := own_form how2
      obtain ⟨an, cn, rfl, hcn, hn⟩ := own_form hon
      obtain ⟨at_, ct, rfl, hct, ht⟩ := own_form hot
      have HA := Lib.hid (HA1.out.trans hA2 (fun k _ x => x))
      have HWW := Lib.hid hw
      have HNN := Lib.hid hn
      have HTT := Lib.hid ht
      have hlen := linesFrom_length S S.size 0 (by omega)
      obtain ⟨N, hN⟩ : ∃ N, N = (linesFrom S 0).length := ⟨_, rfl⟩
      rw [← hN] at hlen hcw hcn hct ⊢
      have HNq := Lib.hid hN
      clear how2 hon hot hw hn ht hA2 hN HR HM HB HOW
      go_wp2_with fail
      go_loopg [7] (N + 1) (fun gz s7 wx => ∃ (k q : Nat), s7 = .int .i64 (k : Int) ∧ wx = w2.drewN q ∧ k ≤ N ∧ N - k + 1 ≤ gz)
      case atStart => exact ⟨0, 0, rfl, rfl, Nat.zero_le _, by omega⟩
      case round =>
        obtain ⟨k, q, rfl, rfl, hk, hg⟩ := hrel
        by_cases hlt : k < N
        · have hx : k < (linesFrom S 0).length := by rw [← HNq.out]; exact hlt
          obtain ⟨x, hx⟩ : ∃ x, (linesFrom S 0)[k]? = some x := ⟨_, List.getElem?_eq_getElem hx⟩
          obtain ⟨gw, rfl, kw⟩ := HWW.out k (.string x) (by simp [hx])
          obtain ⟨gn, rfl, kn⟩ := HNN.out k (.int .i64 ((k : Int) + 1)) (by unfold nums; simp [← HNq.out, hlt])
          obtain ⟨gt, rfl, kt⟩ := HTT.out k (.string x) (by simp [hx])
          have y1 : (k : Int) < (N : Int) := by omega
          have y2 : (0 : Int) ≤ (k : Int) := by omega
          have y3 : (N : Int) ≤ 65536 := by omega
          clear hx HWW HNN HTT
          go_wp2_with fail
          go_quiet (fail)
          go_wp2_with fail
          go_roundg (N - (k + 1) + 1)
          case measure => omega
          case rel => exact ⟨k + 1, _, by simp, rfl, by omega, Nat.le_refl _⟩
        · obtain rfl : k = N := by omega
          go_wp2_with fail
          go_ret
          exact ⟨rfl, HA.out.drewN q⟩
    · have y0 : (65536 : Int) < (S.size : Int) := by omega
      go_enter Tryf.func3, Tryf.ntmps3
      go_wp2_with (first | (go_at_call 7; refine (HB.out).mono ?_; rintro e w1 ⟨rfl, rfl⟩))
      go_ret
      exact ⟨rfl, Apart.refl _ _⟩
  · rw [decide_eq_false hbig] at HB
    go_enter Tryf.func3, Tryf.ntmps3
    go_wp2_with (first | (go_at_call 7; refine (HB.out).mono ?_; rintro e w1 ⟨rfl, rfl⟩))
    go_ret
    exact ⟨rfl, Apart.refl _ _⟩
end Go.Proofs.Qxb6613145aFmt
