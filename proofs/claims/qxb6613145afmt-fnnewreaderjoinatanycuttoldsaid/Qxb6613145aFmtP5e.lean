/- Seat b6613145aF: Scan, ahead of the read. -/
import Derived.Test.Qxb6613145aFmtCut
import Derived.Deep.LoopGhost
import Derived.Deep.RegionHeld3
namespace Go.Proofs.Qxb6613145aFmt
open Go.RowKit
set_option linter.unusedVariables false

set_option maxHeartbeats 4000000 in
set_option maxRecDepth 100000 in
theorem p5_start {B R K m : Nat} {S : ByteArray} {pos : Nat} {b : Addr} {w : World} {K1 i1 st1 en1 m1 : Nat} {L : Act → World → Prop} {Q0 : Exit → Act → World → Prop} (c : Nat → Value) (wc : World) (hK : K1 = K ∧ 0 < m ∨ w.heap.size ≤ K1) (hA : Apart (Mine B R K m) w wc) (hS : Sc B R K1 S wc pos i1 st1 en1 m1 .nilIface)
    (hL : Hid (∀ (a' : Act) (w' : World), Fr B a' → w' = wc → L a' w')) :
    (fs (sn (sn (sn (sn (inb ((Tryf.f26.body.bind lp).getD .skip))))))).wp Tryf.prog (Exit.then L Q0) (frame B c) wc := by
  conv => arg 2; whnf
  unfold frame
  go_wp2_with fail
  exact hL.out _ _ ⟨rfl, rfl, rfl⟩ rfl
end Go.Proofs.Qxb6613145aFmt
