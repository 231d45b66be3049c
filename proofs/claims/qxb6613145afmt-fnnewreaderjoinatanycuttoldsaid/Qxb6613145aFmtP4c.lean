/- Seat b6613145aF: Scan, a greater buffer. -/
import Derived.Test.Qxb6613145aFmtCut
import Derived.Deep.LoopGhost
import Derived.Deep.RegionHeld3
namespace Go.Proofs.Qxb6613145aFmt
open Go.RowKit
set_option linter.unusedVariables false

set_option maxHeartbeats 4000000 in
set_option maxRecDepth 100000 in
theorem p4_more {B R K m : Nat} {S : ByteArray} {pos : Nat} {b : Addr} {w : World} {K1 i1 st1 en1 m1 : Nat} {L : Act → World → Prop} {Q0 : Exit → Act → World → Prop} (c : Nat → Value) (wc : World) (hK : K1 = K ∧ 0 < m ∨ w.heap.size ≤ K1) (hA : Apart (Mine B R K m) w wc) (hS : Sc B R K1 S wc pos i1 st1 en1 m1 .nilIface) (hz : st1 = 0) (hm : 0 < m1) (he : en1 = m1)
    (hL : Hid (∀ (a' : Act) (w' : World), Fr B a' → (∃ K3 st3 en3 m3, (K3 = K ∧ 0 < m ∨ w.heap.size ≤ K3) ∧ en3 < m3 ∧ Apart (Mine B R K m) w w' ∧ Sc B R K3 S w' pos i1 st3 en3 m3 .nilIface) → L a' w')) :
    (sn (thn (sn (fs (sn (sn (sn (inb ((Tryf.f26.body.bind lp).getD .skip))))))))).wp Tryf.prog (Exit.then L Q0) (frame B c) wc := by
  conv => arg 2; whnf
  unfold frame
  subst hz he
  have c0 := hS.c0
  have c1 := hS.c1
  have c2 := hS.c2
  have c4 := hS.c4
  have c5 := hS.c5
  have c6 := hS.c6
  have c7 := hS.c7
  have fB := hS.fB
  obtain ⟨v3, c3⟩ := hS.c3
  obtain ⟨v8, c8⟩ := hS.c8
  have hord := hS.ord
  have hat := hS.at_
  have hin := hS.inS
  have hsm := hS.small
  have HL1 := Lib.hid hS.lies
  have HS := Lib.hid hS
  have HA := Lib.hid hA
  clear hS hA
  have hm0 : en1 ≠ 0 := by omega
  have e4 : bufV K1 en1 = .slice (some ⟨K1, 0, none⟩) en1 en1 := by unfold bufV; rw [if_neg hm0]
  rw [e4] at c4
  clear e4
  obtain ⟨M, hM⟩ : ∃ M, M = en1 * 2 := ⟨_, rfl⟩
  have z8 : (en1 : Int) * 2 = (M : Int) := by omega
  have z7 : ((M : Int) == 0) = false := by rw [beq_eq_false_iff_ne]; omega
  have zm : min (M : Int) 1048576 = M := by omega
  obtain ⟨A, hAs, Y, X, hY, hX, hmk, hcp, hcp0, yc, xc, xf⟩ := grown K1 en1 M (by omega) (by omega) B R pos i1 en1 S .nilIface wc HS.out
  have y2 := (yc 2).trans c2
  have y4 := (yc 4).trans c4
  have y5 := (yc 5).trans c5
  have y6 := (yc 6).trans c6
  have x4 := (xc 4).trans c4
  have x5 := (xc 5).trans c5
  have x6 := (xc 6).trans c6
  have xv5 : ∀ v, (X.setCell ⟨B, 4, none⟩ v).cell? ⟨B, 5, none⟩ = some (.int .i64 0) := fun v => (othO (by simp)).trans x5
  have xv6 : ∀ v, (X.setCell ⟨B, 4, none⟩ v).cell? ⟨B, 6, none⟩ = some (.int .i64 (en1 : Int)) := fun v => (othO (by simp)).trans x6
  have xvf : ∀ v o, (X.setCell ⟨B, 4, none⟩ v).frozen? ⟨B, o, none⟩ = false := fun v o => (World.frozen?_setCell ..).trans (xf o)
  have HY := Lib.hid hY
  have HX := Lib.hid hX
  have HAs := Lib.hid hAs
  clear yc xc hY hX hAs
  have hcp := hcp hm
  clear hcp0
  have HM := Lib.hid (show M = en1 * 2 ∧ en1 ≤ 140000 from ⟨hM, by omega⟩)
  clear hM
  have zq : (M : Int) < 1048576 := by omega
  have zr : (0 : Int) ≤ (M : Int) := by omega
  go_wp2_with fail
  go_region_held3 (fun w' => w'.cell? ⟨B, 4, none⟩ = some (.slice (some ⟨K1, 0, none⟩) en1 en1) ∧ w'.cell? ⟨B, 5, none⟩ = some (.int .i64 0) ∧ w'.cell? ⟨B, 6, none⟩ = some (.int .i64 (en1 : Int))) (go_keep) (fail)
  go_wp2_with fail
  go_region
  go_wp2_with fail
  have hM := HM.out
  have hG := grow_end HS.out HA.out M A HAs.out Y X HY.out HX.out (by omega) (by omega) 2 ((en1 : Nat) : Int) rfl
  exact hL.out _ _ ⟨rfl, rfl, rfl⟩ ⟨wc.heap.size, 0, en1, M, Or.inr HA.out.size, by omega, by first | exact hG.1 | simpa using hG.1, by first | exact hG.2 | simpa using hG.2⟩
end Go.Proofs.Qxb6613145aFmt
