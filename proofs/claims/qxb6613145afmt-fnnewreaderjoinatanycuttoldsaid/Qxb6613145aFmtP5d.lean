/- Seat b6613145aF: Scan, behind the read of some bytes. -/
import Derived.Test.Qxb6613145aFmtCut
import Derived.Deep.LoopGhost
import Derived.Deep.RegionHeld3
namespace Go.Proofs.Qxb6613145aFmt
open Go.RowKit
set_option linter.unusedVariables false

set_option maxHeartbeats 4000000 in
set_option maxRecDepth 100000 in
theorem p5_someb {B R K m : Nat} {S : ByteArray} {pos : Nat} {b : Addr} {w : World} {K1 i1 st1 en1 m1 : Nat} {L : Act → World → Prop} {Q0 : Exit → Act → World → Prop} (c : Nat → Value) (wc : World) (hK : K1 = K ∧ 0 < m ∨ w.heap.size ≤ K1) (hA : Apart (Mine B R K m) w wc) (hS : Sc B R K1 S wc pos i1 st1 en1 m1 .nilIface) (hlt : en1 < m1) (hi : i1 < S.size) (k : Nat) (hk : k = min (m1 - en1) (S.size - i1)) (h9 : c 9 = .int .i64 (k : Int)) (h10 : c 10 = .nilIface) (W : World) (q : Nat) (hW : W = ((wc.setCell ⟨R, 2, none⟩ (.int .i64 (-1))).setCells K1 en1 (got S i1 k)).setCell ⟨R, 1, none⟩ (.int .i64 ((i1 + k : Nat) : Int))) (hX : Hid (∀ (a1 : Act) (w1 : World), Fr B a1 → Apart (Mine B R K m) w w1 → Sc B R K1 S w1 pos (i1 + k) st1 (en1 + k) m1 .nilIface → Q0 (.exit 2) a1 w1))
    :
    (sn (inb ((lp (sn (sn (sn (sn (sn (inb ((Tryf.f26.body.bind lp).getD .skip)))))))).getD .skip))).wp Tryf.prog (Exit.then L Q0) (frame B c) (W.drewN q) := by
  conv => arg 2; whnf
  unfold frame
  have c0 := hS.c0
  have c1 := hS.c1
  have c2 := hS.c2
  have c4 := hS.c4
  have c5 := hS.c5
  have c6 := hS.c6
  have c7 := hS.c7
  have fB := hS.fB
  obtain ⟨v3, c3⟩ := hS.c3
  obtain ⟨v8, c8⟩ := hS.c8
  have hord := hS.ord
  have hat := hS.at_
  have hin := hS.inS
  have hsm := hS.small
  have HL1 := Lib.hid hS.lies
  have HS := Lib.hid hS
  have HA := Lib.hid hA
  clear hS hA
  have hm0 : m1 ≠ 0 := by omega
  have e4 : bufV K1 m1 = .slice (some ⟨K1, 0, none⟩) m1 m1 := by unfold bufV; rw [if_neg hm0]
  rw [e4] at c4
  clear e4
  obtain ⟨X2, hX2, _, xc, xf⟩ := rdsome HS.out hlt hi k hk
  obtain rfl : W = X2 := hW.trans hX2.symm
  have x4 := (xc 4).trans c4
  have x6 := (xc 6).trans c6
  have x8 := (xc 8).trans c8
  have HW := Lib.hid hW
  have HK := Lib.hid hk
  have y5 : ¬ (m1 : Int) - (en1 : Int) < (k : Int) := by omega
  have y6 : decide ((k : Int) < 0) = false := by rw [decide_eq_false_iff_not]; omega
  have y7 : (0 : Int) < (k : Int) := by omega
  have xv8 : ∀ v, (W.setCell ⟨B, 6, none⟩ v).cell? ⟨B, 8, none⟩ = some v8 := fun v => (othO (by simp)).trans x8
  have y8 : (en1 : Int) + (k : Int) ≤ 300000 := by omega
  clear xc hk hW hX2
  go_wp2_with fail
  go_quiet (fail)
  go_wp2_with fail
  refine hX.out _ _ ⟨rfl, rfl, rfl⟩ ?_ ?_
  · have hW := HW.out
    subst hW
    exact (((((Apart.setCells (mine_of (m1 := m1) hK) _ _ _ (HA.out.setCell (p := ⟨R, 2, none⟩) (Or.inl (Or.inr (Or.inl rfl))) _)).setCell (p := ⟨R, 1, none⟩) (Or.inl (Or.inr (Or.inl rfl))) _).drewN _).setCell (p := ⟨B, 6, none⟩) (Or.inl (Or.inl rfl)) _).setCell (p := ⟨B, 8, none⟩) (Or.inl (Or.inl rfl)) _)
  · have hW := HW.out
    have hk := HK.out
    subst hW
    exact HS.out.read (by omega) k _ (by omega) (by omega) _ (by omega) _
end Go.Proofs.Qxb6613145aFmt
