/- Seat b6613145aF: Scan, the read gives bytes. -/
import Derived.Test.Qxb6613145aFmtCut
import Derived.Deep.LoopGhost
import Derived.Deep.RegionHeld3
namespace Go.Proofs.Qxb6613145aFmt
open Go.RowKit
set_option linter.unusedVariables false

set_option maxHeartbeats 4000000 in
set_option maxRecDepth 100000 in
theorem p5_some {B R K m : Nat} {S : ByteArray} {pos : Nat} {b : Addr} {w : World} {K1 i1 st1 en1 m1 : Nat} {L : Act → World → Prop} {Q0 : Exit → Act → World → Prop} (c : Nat → Value) (wc : World) (hK : K1 = K ∧ 0 < m ∨ w.heap.size ≤ K1) (hA : Apart (Mine B R K m) w wc) (hS : Sc B R K1 S wc pos i1 st1 en1 m1 .nilIface) (hlt : en1 < m1) (hi : i1 < S.size) (k : Nat) (hk : k = min (m1 - en1) (S.size - i1)) (X : World) (hX : X = ((wc.setCell ⟨R, 2, none⟩ (.int .i64 (-1))).setCells K1 en1 (got S i1 k)).setCell ⟨R, 1, none⟩ (.int .i64 ((i1 + k : Nat) : Int)))
    (hL : Hid (∀ (a' : Act) (w' : World), Fr B a' → a'.tmps[9]? = some (.int .i64 (k : Int)) → a'.tmps[10]? = some .nilIface → (∃ q, w' = X.drewN q) → L a' w')) :
    (fs (inb ((lp (sn (sn (sn (sn (sn (inb ((Tryf.f26.body.bind lp).getD .skip)))))))).getD .skip))).wp Tryf.prog (Exit.then L Q0) (frame B c) wc := by
  conv => arg 2; whnf
  unfold frame
  have c0 := hS.c0
  have c1 := hS.c1
  have c2 := hS.c2
  have c4 := hS.c4
  have c5 := hS.c5
  have c6 := hS.c6
  have c7 := hS.c7
  have fB := hS.fB
  obtain ⟨v3, c3⟩ := hS.c3
  obtain ⟨v8, c8⟩ := hS.c8
  have hord := hS.ord
  have hat := hS.at_
  have hin := hS.inS
  have hsm := hS.small
  have HL1 := Lib.hid hS.lies
  have HS := Lib.hid hS
  have HA := Lib.hid hA
  clear hS hA
  have hm0 : m1 ≠ 0 := by omega
  have e4 : bufV K1 m1 = .slice (some ⟨K1, 0, none⟩) m1 m1 := by unfold bufV; rw [if_neg hm0]
  rw [e4] at c4
  clear e4
  obtain ⟨X2, hX2, hrd, xc, xf⟩ := rdsome HS.out hlt hi k hk
  rw [← hX] at hX2
  subst hX2
  clear hX
  have HR := Lib.hid hrd
  have x0 := (xc 0).trans c0
  have x4 := (xc 4).trans c4
  have x6 := (xc 6).trans c6
  clear hrd xc hk
  have y2 : (en1 : Int) ≤ (m1 : Int) := by omega
  have y3 : (0 : Int) ≤ (en1 : Int) := by omega
  have y4 : ¬ m1 = en1 := by omega
  have hmeth := meth_read R
  go_wp2_with fail
  go_region_held3 (fun w' => w'.cell? ⟨B, 0, none⟩ = some (.iface 43 (.pointer (some ⟨R, 0, none⟩))) ∧ w'.cell? ⟨B, 4, none⟩ = some (.slice (some ⟨K1, 0, none⟩) m1 m1) ∧ w'.cell? ⟨B, 6, none⟩ = some (.int .i64 (en1 : Int))) (go_keep) (first | (go_at_call 59; refine HR.out.mono ?_; rintro e w2 ⟨rfl, q2, rfl⟩))
  go_wp2_with fail
  exact hL.out _ _ ⟨rfl, rfl, rfl⟩ rfl rfl ⟨_, rfl⟩
end Go.Proofs.Qxb6613145aFmt
