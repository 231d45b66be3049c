/- Seat b6613145aF: Scan, the read at the end. -/
import Derived.Test.Qxb6613145aFmtCut
import Derived.Deep.LoopGhost
import Derived.Deep.RegionHeld3
namespace Go.Proofs.Qxb6613145aFmt
open Go.RowKit
set_option linter.unusedVariables false

set_option maxHeartbeats 4000000 in
set_option maxRecDepth 100000 in
theorem p5_end {B R K m : Nat} {S : ByteArray} {pos : Nat} {b : Addr} {w : World} {K1 i1 st1 en1 m1 : Nat} {L : Act → World → Prop} {Q0 : Exit → Act → World → Prop} (c : Nat → Value) (wc : World) (hK : K1 = K ∧ 0 < m ∨ w.heap.size ≤ K1) (hA : Apart (Mine B R K m) w wc) (hS : Sc B R K1 S wc pos i1 st1 en1 m1 .nilIface) (g4 : wc.cell? ⟨4, 0, none⟩ = some (.iface 54 (.pointer (some b)))) (hlt : en1 < m1) (hi : i1 = S.size)
    (hL : Hid (∀ (a' : Act) (w' : World), Fr B a' → a'.tmps[9]? = some (.int .i64 0) → a'.tmps[10]? = some (.iface 54 (.pointer (some b))) → Apart (Mine B R K m) w w' ∧ Sc B R K1 S w' pos i1 st1 en1 m1 .nilIface → L a' w')) :
    (fs (inb ((lp (sn (sn (sn (sn (sn (inb ((Tryf.f26.body.bind lp).getD .skip)))))))).getD .skip))).wp Tryf.prog (Exit.then L Q0) (frame B c) wc := by
  conv => arg 2; whnf
  unfold frame
  have c0 := hS.c0
  have c1 := hS.c1
  have c2 := hS.c2
  have c4 := hS.c4
  have c5 := hS.c5
  have c6 := hS.c6
  have c7 := hS.c7
  have fB := hS.fB
  obtain ⟨v3, c3⟩ := hS.c3
  obtain ⟨v8, c8⟩ := hS.c8
  have hord := hS.ord
  have hat := hS.at_
  have hin := hS.inS
  have hsm := hS.small
  have HL1 := Lib.hid hS.lies
  have HS := Lib.hid hS
  have HA := Lib.hid hA
  clear hS hA
  have hm0 : m1 ≠ 0 := by omega
  have e4 : bufV K1 m1 = .slice (some ⟨K1, 0, none⟩) m1 m1 := by unfold bufV; rw [if_neg hm0]
  rw [e4] at c4
  clear e4
  have r0 := HS.out.r0
  have r1 := HS.out.r1
  rw [hi] at r1
  have HR : Hid (Calls Tryf.prog 59 #[.pointer (some ⟨R, 0, none⟩), .slice (some ⟨K1, en1, none⟩) (m1 - en1) (m1 - en1)] wc.drew fun e w' => e = .returned (.tuple #[.int .i64 0, .iface 54 (.pointer (some b))]) ∧ ∃ q2, w' = wc.drew.drewN q2) := Lib.hid (read_end R S b _ _ _ wc.drew r0 r1 g4 (by omega))
  clear r0 r1 g4
  have y2 : (en1 : Int) ≤ (m1 : Int) := by omega
  have y3 : (0 : Int) ≤ (en1 : Int) := by omega
  have y4 : ¬ m1 = en1 := by omega
  have hmeth := meth_read R
  go_wp2_with fail
  go_region_held3 (fun w' => w'.cell? ⟨B, 0, none⟩ = some (.iface 43 (.pointer (some ⟨R, 0, none⟩))) ∧ w'.cell? ⟨B, 4, none⟩ = some (.slice (some ⟨K1, 0, none⟩) m1 m1) ∧ w'.cell? ⟨B, 6, none⟩ = some (.int .i64 (en1 : Int))) (go_keep) (first | (go_at_call 59; refine HR.out.mono ?_; rintro e w2 ⟨rfl, q2, rfl⟩))
  go_wp2_with fail
  exact hL.out _ _ ⟨rfl, rfl, rfl⟩ rfl rfl ⟨HA.out.drewN _, HS.out.draws _⟩
end Go.Proofs.Qxb6613145aFmt
