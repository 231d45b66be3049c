/- Seat b6613145aF: the law FnNewReaderJoinAtAnyCut, case 2. -/
import Derived.Test.Qxb6613145aFmtCount
import Derived.Laws.Concat
namespace Go.Proofs.Qxb6613145aFmt
open Go.RowKit
set_option linter.unusedVariables false

set_option maxHeartbeats 4000000 in
set_option maxRecDepth 100000 in
theorem lawB_2 (a b : ByteArray) (b4 b0 : Addr) (w : World) (ha : a.size ≤ 65536) (hb : b.size ≤ 65536) (h0 : a.size ≠ 0) (hc : gB a (a.size - 1) ≠ 10) (h6 : 6 < w.heap.size) (g4 : w.cell? ⟨4, 0, none⟩ = some (.iface 54 (.pointer (some b4)))) (g0 : w.cell? ⟨0, 0, none⟩ = some (.iface 54 (.pointer (some b0)))) :
    Calls Tryf.prog 4 #[.string a, .string b] w fun e w' => e = .returned (.bool true) ∧ Apart (fun _ => False) w w' := by
  have HB := Lib.hid (bytesB_c a b w)
  rw [decide_eq_true (by omega)] at HB
  have hsz := (joined a b).2.2.1
  have hjoin := lines_join (joined a b).1 (joined a b).2.1 hsz (joined a b).2.2.2 a.size 0 (by omega) (Nat.zero_le _)
  rw [if_neg (by rintro (h | h); omega; exact hc h), List.append_nil] at hjoin
  have HC := Lib.hid hc
  have hadd1 : ∀ w, (Op.stringOp .add a ⟨#[10]⟩).run Tryf.prog w = .ok (.string (a ++ ⟨#[10]⟩)) w := fun w => run_string_add_sum w a ⟨#[10]⟩ (by show a.size + 1 ≤ _; omega)
  have hadd2 : ∀ w, (Op.stringOp .add (a ++ ⟨#[10]⟩) b).run Tryf.prog w = .ok (.string (a ++ ⟨#[10]⟩ ++ b)) w := fun w => run_string_add_sum w (a ++ ⟨#[10]⟩) b (by rw [ByteArray.size_append]; show a.size + 1 + b.size ≤ _; omega)
  obtain ⟨J, hJ⟩ : ∃ J, J = a ++ ⟨#[10]⟩ ++ b := ⟨_, rfl⟩
  rw [← hJ] at hsz hjoin hadd2
  have HJ := Lib.hid hjoin
  have yA : ¬ (65536 : Int) < (a.size : Int) := by omega
  have yB : ¬ (65536 : Int) < (b.size : Int) := by omega
  have HRa := Lib.hid (readAll_c a b4 b0 w h6 (by omega) g4 g0)
  have G4 := Lib.hid g4
  have G0 := Lib.hid g0
  clear g4 g0 hjoin hJ hc
  go_enter Tryf.func4, Tryf.ntmps4
  go_wp2_with (first | (go_at_call 10; refine (HB.out).mono ?_; rintro e w1 ⟨rfl, rfl⟩) | (go_at_call 9; fail))
  refine (HRa.out).mono ?_
  rintro e w1 ⟨vna, vta, rfl, _, hota, hA1⟩
  have HRb := Lib.hid (readAll_c b b4 b0 w1 (Nat.lt_of_lt_of_le h6 hA1.size) (by omega) ((hA1.cell (p := ⟨4, 0, none⟩) (Lib.lt_of_cell G4.out) (fun x => x)).trans G4.out) ((hA1.cell (p := ⟨0, 0, none⟩) (Lib.lt_of_cell G0.out) (fun x => x)).trans G0.out))
  have HOa := Lib.hid hota
  have HA1 := Lib.hid hA1
  clear hota hA1 hadd1 hadd2 HRa HB
  go_wp2_with (first | (go_at_call 9; fail))
  refine (HRb.out).mono ?_
  rintro e w2 ⟨vnb, vtb, rfl, _, hotb, hA2⟩
  have HA2 := Lib.hid (HA1.out.trans hA2 (fun k _ x => x))
  have HRj := Lib.hid (readAll_c J b4 b0 w2 (Nat.lt_of_lt_of_le h6 HA2.out.size) (by omega) ((HA2.out.cell (p := ⟨4, 0, none⟩) (Lib.lt_of_cell G4.out) (fun x => x)).trans G4.out) ((HA2.out.cell (p := ⟨0, 0, none⟩) (Lib.lt_of_cell G0.out) (fun x => x)).trans G0.out))
  have HOa2 := Lib.hid (own_kept HOa.out hA2 (fun k _ x => x))
  have HOb := Lib.hid hotb
  clear hotb hA2 HRb HOa HA1
  go_wp2_with (first | (go_at_call 9; fail))
  refine (HRj.out).mono ?_
  rintro e w3 ⟨vnj, vtj, rfl, honj, hotj, hA3⟩
  have HA3 := Lib.hid (HA2.out.trans hA3 (fun k _ x => x))
  have hota := own_kept HOa2.out hA3 (fun k _ x => x)
  have hotb := own_kept HOb.out hA3 (fun k _ x => x)
  obtain ⟨aa, ca, rfl, hca, hla⟩ := own_form hota
  obtain ⟨ab, cb, rfl, hcb, hlb⟩ := own_form hotb
  obtain ⟨aj, cj, rfl, hcj, hlj⟩ := own_form hotj
  obtain ⟨an, cn, rfl, hcn, hln⟩ := own_form honj
  have hlena := linesFrom_length a a.size 0 (by omega)
  have hlenb := linesFrom_length b b.size 0 (by omega)
  have hlenj := linesFrom_length J J.size 0 (by omega)
  obtain ⟨Na, hNa⟩ : ∃ N, N = (linesFrom a 0).length := ⟨_, rfl⟩
  obtain ⟨Nb, hNb⟩ : ∃ N, N = (linesFrom b 0).length := ⟨_, rfl⟩
  obtain ⟨N, hN⟩ : ∃ N, N = (linesFrom J 0).length := ⟨_, rfl⟩
  rw [← hNa] at hlena hca ⊢
  rw [← hNb] at hlenb hcb ⊢
  rw [← hN] at hlenj hcj hcn ⊢
  have HNa := Lib.hid hNa
  have HNb := Lib.hid hNb
  have HNj := Lib.hid hN
  have HLa := Lib.hid hla
  have HLb := Lib.hid hlb
  have HLj := Lib.hid hlj
  have HLn := Lib.hid hln
  clear hla hlb hlj hln hNa hNb hN hota hotb hotj honj hA3 HOa2 HOb HRj HA2 G4 G0
  have yl : (Na : Int) ≤ 65536 := by omega
  have ym : (Nb : Int) ≤ 65536 := by omega
  have yn : (N : Int) ≤ 131073 := by omega
  go_wp2_with fail
  go_loopg [15, 16] (Na + 1) (fun gz s15 s16 wr => ∃ i : Nat, s16 = .int .i64 (i : Int) ∧ i ≤ Na ∧ Na - i + 1 ≤ gz ∧ WB w3 wr s15 i ((linesFrom a 0).take i))
  case atStart => exact ⟨0, rfl, Nat.zero_le _, by omega, WB.start w3⟩
  case round =>
    obtain ⟨i, rfl, hi, hg, hW⟩ := hrel
    by_cases hlt : i < Na
    · have hx : i < (linesFrom a 0).length := by rw [← HNa.out]; exact hlt
      obtain ⟨x, hx⟩ : ∃ x, (linesFrom a 0)[i]? = some x := ⟨_, List.getElem?_eq_getElem hx⟩
      obtain ⟨ga, rfl, ka⟩ := HLa.out i (.string x) (by simp [hx])
      have ka2 : wr.cell? ⟨ga, i, none⟩ = some (.string x) := (hW.2.cell (p := ⟨ga, i, none⟩) (Lib.lt_of_cell ka) (fun x => x)).trans ka
      obtain ⟨v', w', hr, hW2⟩ := hW.push x (by omega)
      have E := Lib.hid hr
      have HW2 : Hid (WB w3 w' v' (i + 1) ((linesFrom a 0).take (i + 1))) := Lib.hid (by rw [List.take_add_one, hx]; exact hW2)
      have y1 : (i : Int) < (Na : Int) := by omega
      have y2 : (0 : Int) ≤ (i : Int) := by omega
      clear hx ka hr hW2 hW HLa HLb HLj HLn
      go_wp2_with (first | (at_builtin; refine wpList_append_run rfl _ _ 23 rfl _ _ rfl rfl _ _ E.out ?_))
      go_roundg (Na - (i + 1) + 1)
      case measure => omega
      case rel => exact ⟨i + 1, by simp, by omega, Nat.le_refl _, HW2.out⟩
    · obtain rfl : Na = i := by omega
      rw [HNa.out, List.take_length, ← HNa.out] at hW
      clear hlt hg HLa
      have z0 : ((a.size : Int) == 0) = false := by rw [beq_eq_false_iff_ne]; omega
      have z1 : (((a[a.size - 1]'(by omega)).toNat : Int) == 10) = false := by rw [beq_eq_false_iff_ne, gB_get a (a.size - 1) (by omega)]; exact HC.out
      have HW := Lib.hid hW
      clear hW
      go_wp2_with fail
      go_loopg [15, 17] (Nb + 1) (fun gz s15 s17 wx => ∃ k : Nat, s17 = .int .i64 (k : Int) ∧ k ≤ Nb ∧ Nb - k + 1 ≤ gz ∧ WB w3 wx s15 (Na + k) (linesFrom a 0 ++ (linesFrom b 0).take k))
      case atStart => exact ⟨0, rfl, Nat.zero_le _, by omega, by simpa using HW.out⟩
      case round =>
        obtain ⟨k, rfl, hk, hg, hW⟩ := hrel
        by_cases hlt : k < Nb
        · have hx : k < (linesFrom b 0).length := by rw [← HNb.out]; exact hlt
          obtain ⟨x, hx⟩ : ∃ x, (linesFrom b 0)[k]? = some x := ⟨_, List.getElem?_eq_getElem hx⟩
          obtain ⟨gb, rfl, kb⟩ := HLb.out k (.string x) (by simp [hx])
          have kb2 : wr.cell? ⟨gb, k, none⟩ = some (.string x) := (hW.2.cell (p := ⟨gb, k, none⟩) (Lib.lt_of_cell kb) (fun x => x)).trans kb
          obtain ⟨v', w', hr, hW2⟩ := hW.push x (by omega)
          have E := Lib.hid hr
          have HW2 : Hid (WB w3 w' v' (Na + (k + 1)) (linesFrom a 0 ++ (linesFrom b 0).take (k + 1))) := Lib.hid (by rw [List.take_add_one, hx, ← List.append_assoc]; exact hW2)
          have y1 : (k : Int) < (Nb : Int) := by omega
          have y2 : (0 : Int) ≤ (k : Int) := by omega
          clear hx kb hr hW2 hW HLb HLj HLn
          go_wp2_with (first | (at_builtin; refine wpList_append_run rfl _ _ 23 rfl _ _ rfl rfl _ _ E.out ?_))
          go_roundg (Nb - (k + 1) + 1)
          case measure => omega
          case rel => exact ⟨k + 1, by simp, by omega, Nat.le_refl _, HW2.out⟩
        · obtain rfl : Nb = k := by omega
          obtain ⟨wX, rfl⟩ : ∃ x, x = wr := ⟨wr, rfl⟩
          rw [HNb.out, List.take_length, ← HNb.out, ← HJ.out] at hW
          have hNN : Na + Nb = N := by
            have := congrArg List.length HJ.out
            rw [HNa.out, HNb.out, HNj.out, this]
            simp
          rw [hNN] at hW
          obtain ⟨aw, cw, rfl, hcw, hlw⟩ := own_form hW.1
          have HLw := Lib.hid hlw
          have HAx := Lib.hid hW.2
          have HCt := Lib.hid (count_c J wX (by omega))
          rw [← HNj.out] at HCt
          clear hlt hg HLb hNN hlw hW
          go_wp2_with (first | (go_at_call 11; refine (HCt.out).mono ?_; rintro e w5 ⟨rfl, rfl⟩))
          go_loopg [18] (N + 1) (fun gz s18 wy => ∃ (k q : Nat), s18 = .int .i64 (k : Int) ∧ wy = wX.drewN q ∧ k ≤ N ∧ N - k + 1 ≤ gz)
          case atStart => exact ⟨0, 0, rfl, rfl, Nat.zero_le _, by omega⟩
          case round =>
            obtain ⟨k, q, rfl, rfl, hk, hg⟩ := hrel
            by_cases hlt : k < N
            · have hx : k < (linesFrom J 0).length := by rw [← HNj.out]; exact hlt
              obtain ⟨x, hx⟩ : ∃ x, (linesFrom J 0)[k]? = some x := ⟨_, List.getElem?_eq_getElem hx⟩
              obtain ⟨gw, rfl, kw⟩ := HLw.out k (.string x) (by simp [hx])
              obtain ⟨gn, rfl, kn0⟩ := HLn.out k (.int .i64 ((k : Int) + 1)) (by unfold nums; simp [← HNj.out, hlt])
              obtain ⟨gt, rfl, kt0⟩ := HLj.out k (.string x) (by simp [hx])
              have kn : wX.cell? ⟨gn, k, none⟩ = some (.int .i64 ((k : Int) + 1)) := (HAx.out.cell (p := ⟨gn, k, none⟩) (Lib.lt_of_cell kn0) (fun x => x)).trans kn0
              have kt : wX.cell? ⟨gt, k, none⟩ = some (.string x) := (HAx.out.cell (p := ⟨gt, k, none⟩) (Lib.lt_of_cell kt0) (fun x => x)).trans kt0
              have y1 : (k : Int) < (N : Int) := by omega
              have y2 : (0 : Int) ≤ (k : Int) := by omega
              clear hx HLw HLn HLj kn0 kt0
              go_wp2_with fail
              go_quiet (fail)
              go_wp2_with fail
              go_roundg (N - (k + 1) + 1)
              case measure => omega
              case rel => exact ⟨k + 1, _, by simp, rfl, by omega, Nat.le_refl _⟩
            · obtain rfl : N = k := by omega
              go_wp2_with fail
              go_ret
              exact ⟨rfl, (HA3.out.trans HAx.out (fun k _ x => x)).drewN q⟩
end Go.Proofs.Qxb6613145aFmt
