/- Seat b6613145aF: Scan, no shift: start is 0. -/
import Derived.Test.Qxb6613145aFmtCut
import Derived.Deep.LoopGhost
import Derived.Deep.RegionHeld3
namespace Go.Proofs.Qxb6613145aFmt
open Go.RowKit
set_option linter.unusedVariables false

set_option maxHeartbeats 4000000 in
set_option maxRecDepth 100000 in
theorem p3_zero {B R K m : Nat} {S : ByteArray} {pos : Nat} {b : Addr} {w : World} {K1 i1 st1 en1 m1 : Nat} {L : Act → World → Prop} {Q0 : Exit → Act → World → Prop} (c : Nat → Value) (wc : World) (hK : K1 = K ∧ 0 < m ∨ w.heap.size ≤ K1) (hA : Apart (Mine B R K m) w wc) (hS : Sc B R K1 S wc pos i1 st1 en1 m1 .nilIface) (hz : st1 = 0)
    (hL : Hid (∀ (a' : Act) (w' : World), Fr B a' → (∃ st2 en2, (en2 = m1 → st2 = 0) ∧ Apart (Mine B R K m) w w' ∧ Sc B R K1 S w' pos i1 st2 en2 m1 .nilIface) → L a' w')) :
    (fs (sn (sn (inb ((Tryf.f26.body.bind lp).getD .skip))))).wp Tryf.prog (Exit.then L Q0) (frame B c) wc := by
  conv => arg 2; whnf
  unfold frame
  subst hz
  have c0 := hS.c0
  have c1 := hS.c1
  have c2 := hS.c2
  have c4 := hS.c4
  have c5 := hS.c5
  have c6 := hS.c6
  have c7 := hS.c7
  have fB := hS.fB
  obtain ⟨v3, c3⟩ := hS.c3
  obtain ⟨v8, c8⟩ := hS.c8
  have hord := hS.ord
  have hat := hS.at_
  have hin := hS.inS
  have hsm := hS.small
  have HL1 := Lib.hid hS.lies
  have HS := Lib.hid hS
  have HA := Lib.hid hA
  clear hS hA
  go_wp2_with fail
  go_quiet (fail)
  go_wp2_with fail
  exact hL.out _ _ ⟨rfl, rfl, rfl⟩ ⟨0, en1, fun _ => rfl, HA.out.drewN _, HS.out.draws _⟩
end Go.Proofs.Qxb6613145aFmt
