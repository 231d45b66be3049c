/- Seat b6613145aF: Scan, the last line. -/
import Derived.Test.Qxb6613145aFmtCut
import Derived.Deep.LoopGhost
import Derived.Deep.RegionHeld3
namespace Go.Proofs.Qxb6613145aFmt
open Go.RowKit
set_option linter.unusedVariables false

set_option maxHeartbeats 4000000 in
set_option maxRecDepth 100000 in
theorem p1_last {B R K m : Nat} {S : ByteArray} {pos : Nat} {b : Addr} {w : World} {K1 i1 st1 en1 m1 : Nat} {err1 : Value} {L : Act → World → Prop} {Q0 : Exit → Act → World → Prop} (c : Nat → Value) (wc : World) (hK : K1 = K ∧ 0 < m ∨ w.heap.size ≤ K1) (hA : Apart (Mine B R K m) w wc) (hS : Sc B R K1 S wc pos i1 st1 en1 m1 err1) (herr : err1 = (.iface 54 (.pointer (some b)))) (hi : i1 = S.size) (hlt : st1 < en1) (hno : ∀ j, j < en1 - st1 → gB S (pos + j) ≠ 10)
    (hR : Hid (∀ (a' : Act) (w' : World) (v : Bool), a'.defers = [] → a'.tmps[2]? = some (.bool v) → Scanned B R K m S pos (.iface 54 (.pointer (some b))) w (.returned (.bool v)) w' → Q0 .ret a' w')) (hL : Hid (∀ (a' : Act) (w' : World), Fr B a' → (err1 = .nilIface ∨ (err1 = (.iface 54 (.pointer (some b))) ∧ en1 = st1 ∧ i1 = S.size)) ∧ Apart (Mine B R K m) w w' ∧ Sc B R K1 S w' pos i1 st1 en1 m1 err1 → L a' w')) :
    (fs (inb ((Tryf.f26.body.bind lp).getD .skip))).wp Tryf.prog (Exit.then L Q0) (frame B c) wc := by
  conv => arg 2; whnf
  unfold frame
  subst herr
  have c0 := hS.c0
  have c1 := hS.c1
  have c2 := hS.c2
  have c4 := hS.c4
  have c5 := hS.c5
  have c6 := hS.c6
  have c7 := hS.c7
  have fB := hS.fB
  obtain ⟨v3, c3⟩ := hS.c3
  obtain ⟨v8, c8⟩ := hS.c8
  have hord := hS.ord
  have hat := hS.at_
  have hin := hS.inS
  have hsm := hS.small
  have HL1 := Lib.hid hS.lies
  have HS := Lib.hid hS
  have HA := Lib.hid hA
  clear hS hA
  have hm0 : m1 ≠ 0 := by omega
  have e4 : bufV K1 m1 = .slice (some ⟨K1, 0, none⟩) m1 m1 := by unfold bufV; rw [if_neg hm0]
  rw [e4] at c4
  clear e4
  have y0 : (st1 : Int) < (en1 : Int) := by omega
  have y1 : (st1 : Int) ≤ (en1 : Int) := by omega
  have y2 : (en1 : Int) ≤ (m1 : Int) := by omega
  have y3 : (0 : Int) ≤ (st1 : Int) := by omega
  have HE := Lib.hid (show lend S pos = pos + (en1 - st1) from lend_last (by omega) hno)
  obtain ⟨n, hn⟩ : ∃ n, n = en1 - st1 := ⟨_, rfl⟩
  have HX : Hid (∀ q : Nat, Calls Tryf.prog 39 #[.slice (some ⟨K1, st1, none⟩) (en1 - st1) (m1 - st1), .bool true] (wc.drewN q) fun r w' => r = .returned (.tuple #[.int .i64 (n : Int), .slice (some ⟨K1, st1, none⟩) (crop (fun j => gB S (pos + j)) 0 n) (m1 - st1), .nilIface]) ∧ w' = wc.drewN q) := Lib.hid (fun q => by
    rw [hn]
    exact (scanLines_last K1 st1 (en1 - st1) (m1 - st1) (fun j => gB S (pos + j)) (wc.drewN q) (by omega) (by omega) (by omega) (fun j => gB_range S _) HL1.out hno).mono (fun r w' ⟨h1, h2⟩ => ⟨h1, h2.symm⟩))
  have HV : Hid (∀ W : World, W.heap = wc.heap → Calls Tryf.prog 35 #[.pointer (some ⟨B, 0, none⟩), .int .i64 (n : Int)] W fun r w' => r = .returned (.bool true) ∧ ∃ q, w' = (W.setCell ⟨B, 5, none⟩ (.int .i64 ((st1 + n : Nat) : Int))).drewN q) := Lib.hid (fun W hW =>
    advance_c B st1 en1 _ n W rfl (by unfold World.cell? at c5 ⊢; rw [hW]; exact c5) (by unfold World.cell? at c6 ⊢; rw [hW]; exact c6) (by have := fB 5; unfold World.frozen? at this ⊢; rw [hW]; exact this) (by omega) (by omega))
  have z0 : (0 : Int) < (n : Int) := by omega
  have HN := Lib.hid hn
  clear hno hn
  go_wp2_with fail
  go_quiet (fail)
  go_wp2_with fail
  go_quiet (first | (go_at_call 39; refine (HX.out _).mono (fun r w' h => ⟨h.1, _, h.2⟩)))
  go_wp2_with (first | (go_at_call 35; refine (HV.out _ (by rfl)).mono ?_; rintro r w2 ⟨rfl, q2, rfl⟩))
  have hn := HN.out
  have hE := HE.out
  rw [← hn] at hE
  exact hR.out _ _ true rfl rfl (scanned_token HS.out hK HA.out (Or.inr ⟨rfl, hi⟩) n n _ (by omega) (by omega) (by omega) hE (by omega) (by unfold after; rw [hE, if_neg (by omega)]; omega) _ _ _)
end Go.Proofs.Qxb6613145aFmt
