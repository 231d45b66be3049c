/- Seat b6613145aF: Scan, there is room. -/
import Derived.Test.Qxb6613145aFmtCut
import Derived.Deep.LoopGhost
import Derived.Deep.RegionHeld3
namespace Go.Proofs.Qxb6613145aFmt
open Go.RowKit
set_option linter.unusedVariables false

set_option maxHeartbeats 4000000 in
set_option maxRecDepth 100000 in
theorem p4_room {B R K m : Nat} {S : ByteArray} {pos : Nat} {b : Addr} {w : World} {K1 i1 st1 en1 m1 : Nat} {L : Act → World → Prop} {Q0 : Exit → Act → World → Prop} (c : Nat → Value) (wc : World) (hK : K1 = K ∧ 0 < m ∨ w.heap.size ≤ K1) (hA : Apart (Mine B R K m) w wc) (hS : Sc B R K1 S wc pos i1 st1 en1 m1 .nilIface) (hlt : en1 < m1)
    (hL : Hid (∀ (a' : Act) (w' : World), Fr B a' → (∃ K3 st3 en3 m3, (K3 = K ∧ 0 < m ∨ w.heap.size ≤ K3) ∧ en3 < m3 ∧ Apart (Mine B R K m) w w' ∧ Sc B R K3 S w' pos i1 st3 en3 m3 .nilIface) → L a' w')) :
    (fs (sn (sn (sn (inb ((Tryf.f26.body.bind lp).getD .skip)))))).wp Tryf.prog (Exit.then L Q0) (frame B c) wc := by
  conv => arg 2; whnf
  unfold frame
  have c0 := hS.c0
  have c1 := hS.c1
  have c2 := hS.c2
  have c4 := hS.c4
  have c5 := hS.c5
  have c6 := hS.c6
  have c7 := hS.c7
  have fB := hS.fB
  obtain ⟨v3, c3⟩ := hS.c3
  obtain ⟨v8, c8⟩ := hS.c8
  have hord := hS.ord
  have hat := hS.at_
  have hin := hS.inS
  have hsm := hS.small
  have HL1 := Lib.hid hS.lies
  have HS := Lib.hid hS
  have HA := Lib.hid hA
  clear hS hA
  have hm0 : m1 ≠ 0 := by omega
  have e4 : bufV K1 m1 = .slice (some ⟨K1, 0, none⟩) m1 m1 := by unfold bufV; rw [if_neg hm0]
  rw [e4] at c4
  clear e4
  have z2 : ((en1 : Int) == (m1 : Int)) = false := by rw [beq_eq_false_iff_ne]; omega
  go_wp2_with fail
  go_quiet (fail)
  go_wp2_with fail
  exact hL.out _ _ ⟨rfl, rfl, rfl⟩ ⟨K1, st1, en1, m1, hK, hlt, HA.out.drewN _, HS.out.draws _⟩
end Go.Proofs.Qxb6613145aFmt
