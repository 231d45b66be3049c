/- Seat b6612846aF: ZZnewPolScanner, ZZpolScan, and the nil slice. -/
import Derived.Test.Qxb6612846aFmtOpen
import Derived.Test.Qxb6612846aFmtEnd
import Derived.Test.Qxb6612846aFmtModel
import Derived.Laws.CopyRow
namespace Go.Proofs.Qxb6612846aFmt
open Go.RowKit Go.Extern.Stop Go.Stop Go.Extern
set_option linter.unusedVariables false

set_option maxRecDepth 100000 in
theorem model_nil (w : World) :
    Calls Tryf.prog 6 #[.slice none 0 0] w fun e w' => e = .returned (.tuple #[.bool false, .int .i64 0, .int .i64 0, .bool false]) ∧ Below w.heap.size w w' := by
  go_enter Tryf.func6, Tryf.ntmps6
  go_wp2
  go_loop [8] (fun vj => vj = .int .i64 0) (fun vj => 0)
  case atStart => rfl
  case round =>
    subst hrel
    go_wp2
    exact bodyPost_ret (v := .tuple #[.bool false, .int .i64 0, .int .i64 0, .bool false]) (by simp [results, Tryf.results6, go_sem]) rfl ⟨rfl, (Below.refl _ w).alloc (Nat.le_refl _) _⟩

set_option maxHeartbeats 4000000 in
set_option maxRecDepth 100000 in
theorem scan_nil (b : Nat) (g : Nat → Int) (w : World) (hg : ∀ j, 0 ≤ g j ∧ g j < 256) (hF : Fresh b w) :
    Calls Tryf.prog 14 #[.pointer (some ⟨b, 0, none⟩), .slice none 0 0, .nilFunc] w fun e w' => HeadLeft b 0 g w e w' := by
  have S0 := hF.sw
  have S2 : SW b w (w.setCell ⟨b, 0, none⟩ (.int .i64 0)).drew 0 0 0 := (S0.put 0 _ (by omega)).draws 1
  obtain ⟨hroom, c0, c1, c2, c3, hheld, c12, c13, c14, c15, hends, hmarks⟩ := hF
  have hcp : (Builtin.copy_ #[22, 22] 3 #[.slice (some ⟨b, 4, none⟩) 8 8, .slice none 0 0]).run Tryf.prog (w.setCell ⟨b, 0, none⟩ (.int .i64 0)).drew = .ok (.int .i64 0) (w.setCell ⟨b, 0, none⟩ (.int .i64 0)).drew :=
    run_copy_nil Tryf.prog _ 22 22 3 5 ⟨b, 4, none⟩ 8 8 Tryf.underlying22 (by rw [info5]; rfl)
  have k3 : (w.setCell ⟨b, 0, none⟩ (.int .i64 0)).drew.cell? ⟨b, 3, none⟩ = some (.int .u8 0) := by
    show (w.setCell ⟨b, 0, none⟩ _).cell? ⟨b, 3, none⟩ = _
    rw [setOther (by omega)]
    exact c3
  generalize hW2 : (w.setCell ⟨b, 0, none⟩ (.int .i64 0)).drew = W2 at hcp k3 S2
  have k12 := S2.c12
  have kf := S2.marks
  have hHH : ∀ q, Calls Tryf.prog 16 #[.slice (some ⟨b, 4, none⟩) 0 8, .bool true] ((W2.setCell ⟨b, 12, none⟩ (.int .i64 0)).drewN q) fun e w' => e = .returned .nilIface ∧ Below (W2.setCell ⟨b, 12, none⟩ (.int .i64 0)).heap.size (W2.setCell ⟨b, 12, none⟩ (.int .i64 0)) w' := fun q =>
    (head_more b 0 (min 0 4) g ((W2.setCell ⟨b, 12, none⟩ (.int .i64 0)).drewN q) (by omega) rfl hg (fun j hj => by omega) (fun j hj => by omega)).mono (fun e w' ⟨h1, h2⟩ => ⟨h1, (below_drewN (Below.refl _ _) q).trans h2⟩)
  have HH := Lib.hid hHH
  have hr2 : b < (W2.setCell ⟨b, 12, none⟩ (.int .i64 0)).heap.size := by have := S2.room; simpa using this
  clear hHH S0 c1 c2 c13 c14 c15 hends hheld
  go_enter Tryf.func14, Tryf.ntmps14
  go_wp2
  subst hW2
  go_region
  go_wp2
  go_region_with (go_at_call 16; refine (HH.out 1).mono ?_; rintro e w4 ⟨rfl, hb4⟩)
  have d12 : w4.cell? ⟨b, 12, none⟩ = some (.int .i64 0) := by
    rw [hb4.cell (p := ⟨b, 12, none⟩) hr2]
    exact World.cell?_setCell_same (h := k12) ..
  go_wp2
  go_ret
  exact ⟨(S2.below.setCell (Nat.le_refl _) _).trans (hb4.mono (Nat.le_of_lt hr2)), Nat.lt_of_lt_of_le hr2 hb4.size,
    by rw [hb4.cell (p := ⟨b, 1, none⟩) hr2, setOther (by omega)]; exact S2.c1, rfl,
    by rw [hb4.cell (p := ⟨b, 3, none⟩) hr2, setOther (by omega)]; exact k3, d12, fun j hj => by omega⟩

theorem new_c (w : World) : Calls Tryf.prog 7 #[] w fun e w' => e = .returned (.pointer (some ⟨w.heap.size, 0, none⟩)) ∧ Fresh w.heap.size w' ∧ Below w.heap.size w w' := by
  go_enter Tryf.func7, Tryf.ntmps7
  go_wp2
  go_ret
  refine ⟨rfl, ⟨by simp, cell_new .., cell_new .., cell_new .., cell_new .., ?_, cell_new .., cell_new .., cell_new .., cell_new .., ?_, ?_⟩, (Below.refl _ w).alloc (Nat.le_refl _) _⟩
  · intro o h1 h2
    rw [cell_new]
    rcases (show o = 4 ∨ o = 5 ∨ o = 6 ∨ o = 7 ∨ o = 8 ∨ o = 9 ∨ o = 10 ∨ o = 11 by omega) with rfl | rfl | rfl | rfl | rfl | rfl | rfl | rfl <;> rfl
  · intro k hk
    rw [cell_new]
    exact ⟨_, Array.getElem?_eq_getElem (h := by simp; omega)⟩
  · intro o
    exact World.frozen?_alloc_new w _ _ o

theorem polScan_nil (b : Nat) (p : Value) (w : World) (Q : World → Prop) (H : Calls Tryf.prog 14 #[.pointer (some ⟨b, 0, none⟩), p, .nilFunc] w fun e w' => e = .returned .nilIface ∧ Q w') :
    Calls Tryf.prog 8 #[.pointer (some ⟨b, 0, none⟩), p] w fun e w' => e = .returned (.tuple #[.bool false, .bool false, .int .i64 0]) ∧ Q w' := by
  have H := Lib.hid H
  go_enter Tryf.func8, Tryf.ntmps8
  go_wp2_with (go_at_call 14; refine (H.out).mono ?_; rintro e w1 ⟨rfl, hQ⟩)
  go_ret3
  exact ⟨rfl, hQ⟩

theorem ta48 (N : Nat) (w : World) : (Instr.typeAssert (.iface 48 (.pointer (some ⟨N, 0, none⟩))) 46 48 true).run Tryf.prog w = .ok (.tuple #[.pointer (some ⟨N, 0, none⟩), .bool true]) w := by kernel_rfl

theorem polScan_err (b : Nat) (o : Int) (p : Value) (w : World) (Q : World → Prop) (H : Calls Tryf.prog 14 #[.pointer (some ⟨b, 0, none⟩), p, .nilFunc] w fun e w' => IsErr o w e w' ∧ Q w') :
    Calls Tryf.prog 8 #[.pointer (some ⟨b, 0, none⟩), p] w fun e w' => e = .returned (.tuple #[.bool true, .bool true, .int .i64 o]) ∧ ∃ w1 q, Q w1 ∧ w' = w1.drewN q := by
  have H := Lib.hid H
  go_enter Tryf.func8, Tryf.ntmps8
  go_wp2_with (go_at_call 14; refine (H.out).mono ?_; rintro e w1 ⟨⟨N, rfl, hN⟩, hQ⟩; have hta := ta48 N)
  go_quiet (fail)
  go_wp2
  go_ret3
  exact ⟨rfl, w1, _, hQ, rfl⟩
end Go.Proofs.Qxb6612846aFmt
