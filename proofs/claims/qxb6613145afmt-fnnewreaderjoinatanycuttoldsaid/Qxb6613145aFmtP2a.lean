/- Seat b6613145aF: Scan, nothing is left: false. -/
import Derived.Test.Qxb6613145aFmtCut
import Derived.Deep.LoopGhost
import Derived.Deep.RegionHeld3
namespace Go.Proofs.Qxb6613145aFmt
open Go.RowKit
set_option linter.unusedVariables false

set_option maxHeartbeats 4000000 in
set_option maxRecDepth 100000 in
theorem p2_none {B R K m : Nat} {S : ByteArray} {pos : Nat} {b : Addr} {w : World} {K1 i1 st1 en1 m1 : Nat} {err1 : Value} {L : Act → World → Prop} {Q0 : Exit → Act → World → Prop} (c : Nat → Value) (wc : World) (hK : K1 = K ∧ 0 < m ∨ w.heap.size ≤ K1) (hA : Apart (Mine B R K m) w wc) (hS : Sc B R K1 S wc pos i1 st1 en1 m1 err1) (herr : err1 = (.iface 54 (.pointer (some b)))) (hi : i1 = S.size) (hlt : en1 = st1)
    (hR : Hid (∀ (a' : Act) (w' : World) (v : Bool), a'.defers = [] → a'.tmps[2]? = some (.bool v) → Scanned B R K m S pos (.iface 54 (.pointer (some b))) w (.returned (.bool v)) w' → Q0 .ret a' w')) :
    (fs (sn (inb ((Tryf.f26.body.bind lp).getD .skip)))).wp Tryf.prog (Exit.then L Q0) (frame B c) wc := by
  conv => arg 2; whnf
  unfold frame
  subst herr
  obtain rfl : en1 = st1 := hlt
  have c0 := hS.c0
  have c1 := hS.c1
  have c2 := hS.c2
  have c4 := hS.c4
  have c5 := hS.c5
  have c6 := hS.c6
  have c7 := hS.c7
  have fB := hS.fB
  obtain ⟨v3, c3⟩ := hS.c3
  obtain ⟨v8, c8⟩ := hS.c8
  have hord := hS.ord
  have hat := hS.at_
  have hin := hS.inS
  have hsm := hS.small
  have HL1 := Lib.hid hS.lies
  have HS := Lib.hid hS
  have HA := Lib.hid hA
  clear hS hA
  go_wp2_with fail
  exact hR.out _ _ false rfl rfl (scanned_none HS.out hK HA.out hi)
end Go.Proofs.Qxb6613145aFmt
