/- Seat b6613145aF: Scan, behind the read at the end. -/
import Derived.Test.Qxb6613145aFmtCut
import Derived.Deep.LoopGhost
import Derived.Deep.RegionHeld3
namespace Go.Proofs.Qxb6613145aFmt
open Go.RowKit
set_option linter.unusedVariables false

set_option maxHeartbeats 4000000 in
set_option maxRecDepth 100000 in
theorem p5_endb {B R K m : Nat} {S : ByteArray} {pos : Nat} {b : Addr} {w : World} {K1 i1 st1 en1 m1 : Nat} {L : Act → World → Prop} {Q0 : Exit → Act → World → Prop} (c : Nat → Value) (wc : World) (hK : K1 = K ∧ 0 < m ∨ w.heap.size ≤ K1) (hA : Apart (Mine B R K m) w wc) (hS : Sc B R K1 S wc pos i1 st1 en1 m1 .nilIface) (hlt : en1 < m1) (h9 : c 9 = .int .i64 0) (h10 : c 10 = (.iface 54 (.pointer (some b)))) (hX : Hid (∀ (a1 : Act) (w1 : World), Fr B a1 → Apart (Mine B R K m) w w1 → Sc B R K1 S w1 pos i1 st1 en1 m1 (.iface 54 (.pointer (some b))) → Q0 (.exit 2) a1 w1))
    :
    (sn (inb ((lp (sn (sn (sn (sn (sn (inb ((Tryf.f26.body.bind lp).getD .skip)))))))).getD .skip))).wp Tryf.prog (Exit.then L Q0) (frame B c) wc := by
  conv => arg 2; whnf
  unfold frame
  have c0 := hS.c0
  have c1 := hS.c1
  have c2 := hS.c2
  have c4 := hS.c4
  have c5 := hS.c5
  have c6 := hS.c6
  have c7 := hS.c7
  have fB := hS.fB
  obtain ⟨v3, c3⟩ := hS.c3
  obtain ⟨v8, c8⟩ := hS.c8
  have hord := hS.ord
  have hat := hS.at_
  have hin := hS.inS
  have hsm := hS.small
  have HL1 := Lib.hid hS.lies
  have HS := Lib.hid hS
  have HA := Lib.hid hA
  clear hS hA
  have hm0 : m1 ≠ 0 := by omega
  have e4 : bufV K1 m1 = .slice (some ⟨K1, 0, none⟩) m1 m1 := by unfold bufV; rw [if_neg hm0]
  rw [e4] at c4
  clear e4
  have HE : Hid (∀ W : World, W.heap = (wc.setCell ⟨B, 6, none⟩ (.int .i64 (en1 : Int))).heap → Calls Tryf.prog 34 #[.pointer (some ⟨B, 0, none⟩), .iface 54 (.pointer (some b))] W fun e w' => e = .returned (.tuple #[]) ∧ ∃ q, w' = (W.setCell ⟨B, 7, none⟩ (.iface 54 (.pointer (some b)))).drewN q) := Lib.hid (fun W hW => setErr_c B b W (by have := HS.out.c7; unfold World.cell?; rw [hW]; exact (othO (by simp)).trans this) (by have := HS.out.fB 7; unfold World.frozen?; rw [hW]; exact (World.frozen?_setCell ..).trans this))
  have y5 : ¬ (m1 : Int) - (en1 : Int) < 0 := by omega
  have ht : Hid (Sc B R K1 S ((wc.setCell ⟨B, 6, none⟩ (.int .i64 (en1 : Int))).setCell ⟨B, 7, none⟩ (.iface 54 (.pointer (some b)))) pos i1 st1 en1 m1 (.iface 54 (.pointer (some b)))) := Lib.hid ((HS.out.turn 6 (.int .i64 (en1 : Int)) (by omega) (by rw [if_neg (by omega)]) (by rw [if_pos rfl]) (by rw [if_neg (by omega)]) HS.out.lies ⟨HS.out.ord.1, HS.out.ord.2.1⟩ HS.out.at_).ended _)
  go_wp2_with fail
  go_quiet (fail)
  go_wp2_with (first | (go_at_call 34; refine (HE.out _ (by rfl)).mono ?_; rintro e w2 ⟨rfl, q2, rfl⟩))
  exact hX.out _ _ ⟨rfl, rfl, rfl⟩ (((((HA.out.drewN _).setCell (p := ⟨B, 6, none⟩) (Or.inl (Or.inl rfl)) _).setCell (p := ⟨B, 7, none⟩) (Or.inl (Or.inl rfl)) _)).drewN q2) ((ht.out.draws _).draws q2)
end Go.Proofs.Qxb6613145aFmt
