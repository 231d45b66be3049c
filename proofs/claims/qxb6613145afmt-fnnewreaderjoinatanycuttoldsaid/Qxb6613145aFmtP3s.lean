/- Seat b6613145aF: Scan, the bytes are moved to the head. -/
import Derived.Test.Qxb6613145aFmtCut
import Derived.Deep.LoopGhost
import Derived.Deep.RegionHeld3
namespace Go.Proofs.Qxb6613145aFmt
open Go.RowKit
set_option linter.unusedVariables false

set_option maxHeartbeats 4000000 in
set_option maxRecDepth 100000 in
theorem p3_shift {B R K m : Nat} {S : ByteArray} {pos : Nat} {b : Addr} {w : World} {K1 i1 st1 en1 m1 : Nat} {L : Act → World → Prop} {Q0 : Exit → Act → World → Prop} (c : Nat → Value) (wc : World) (hK : K1 = K ∧ 0 < m ∨ w.heap.size ≤ K1) (hA : Apart (Mine B R K m) w wc) (hS : Sc B R K1 S wc pos i1 st1 en1 m1 .nilIface) (hz : 0 < st1) (hm : 0 < m1) (hne : m1 ≠ st1)
    (hL : Hid (∀ (a' : Act) (w' : World), Fr B a' → (∃ st2 en2, (en2 = m1 → st2 = 0) ∧ Apart (Mine B R K m) w w' ∧ Sc B R K1 S w' pos i1 st2 en2 m1 .nilIface) → L a' w')) :
    (thn (sn (fs (sn (sn (inb ((Tryf.f26.body.bind lp).getD .skip))))))).wp Tryf.prog (Exit.then L Q0) (frame B c) wc := by
  conv => arg 2; whnf
  unfold frame
  have c0 := hS.c0
  have c1 := hS.c1
  have c2 := hS.c2
  have c4 := hS.c4
  have c5 := hS.c5
  have c6 := hS.c6
  have c7 := hS.c7
  have fB := hS.fB
  obtain ⟨v3, c3⟩ := hS.c3
  obtain ⟨v8, c8⟩ := hS.c8
  have hord := hS.ord
  have hat := hS.at_
  have hin := hS.inS
  have hsm := hS.small
  have HL1 := Lib.hid hS.lies
  have HS := Lib.hid hS
  have HA := Lib.hid hA
  clear hS hA
  have hm0 : m1 ≠ 0 := by omega
  have e4 : bufV K1 m1 = .slice (some ⟨K1, 0, none⟩) m1 m1 := by unfold bufV; rw [if_neg hm0]
  rw [e4] at c4
  clear e4
  obtain ⟨n, hn⟩ : ∃ n, n = en1 - st1 := ⟨_, rfl⟩
  obtain ⟨X, hX, hcp, xc, xf⟩ := shifted HS.out (by omega) n st1 hn (fun h => by omega) (m1 - st1)
  have x4 := (xc 4).trans c4
  have x5 := (xc 5).trans c5
  have x6 := (xc 6).trans c6
  have HN := Lib.hid hn
  have HX := Lib.hid hX
  rw [hn] at hcp
  clear xc hX hn
  have y1 : (st1 : Int) ≤ (en1 : Int) := by omega
  have y2 : (en1 : Int) ≤ (m1 : Int) := by omega
  have y3 : (0 : Int) ≤ (st1 : Int) := by omega
  go_wp2_with fail
  go_region_held3 (fun w' => w'.cell? ⟨B, 4, none⟩ = some (.slice (some ⟨K1, 0, none⟩) m1 m1) ∧ w'.cell? ⟨B, 5, none⟩ = some (.int .i64 (st1 : Int)) ∧ w'.cell? ⟨B, 6, none⟩ = some (.int .i64 (en1 : Int))) (go_keep) (fail)
  go_wp2_with fail
  go_region
  go_wp2_with fail
  refine hL.out _ _ ⟨rfl, rfl, rfl⟩ ⟨0, n, fun _ => rfl, ?_, ?_⟩
  · have hX := HX.out
    subst hX
    exact ((((HA.out.setCells_ HS.out hK n).drewN 2).setCell (p := ⟨B, 6, none⟩) (Or.inl (Or.inl rfl)) _).setCell (p := ⟨B, 5, none⟩) (Or.inl (Or.inl rfl)) _)
  · have hX := HX.out
    subst hX
    exact HS.out.shift (by omega) n 2 HN.out _ (by have := HN.out; omega)
end Go.Proofs.Qxb6613145aFmt
