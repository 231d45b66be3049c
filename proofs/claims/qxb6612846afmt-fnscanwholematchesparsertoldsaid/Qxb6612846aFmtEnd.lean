/- Seat b6612846aF: (*polScanner).end, ZZpolEnd, ZZpolCount, ZZnewPolScanner. -/
import Derived.Test.Qxb6612846aFmtScan
namespace Go.Proofs.Qxb6612846aFmt
open Go.RowKit Go.Extern.Stop Go.Stop Go.Extern
set_option linter.unusedVariables false

theorem end_whole (b : Nat) (w : World) (e3 : w.cell? ⟨b, 3, none⟩ = some (.int .u8 1)) (e12 : w.cell? ⟨b, 12, none⟩ = some (.int .i64 0)) :
    Calls Tryf.prog 10 #[.pointer (some ⟨b, 0, none⟩)] w fun e w' => e = .returned (.bool false) ∧ Below w.heap.size w w' := by
  have h15 : Calls Tryf.prog 15 #[.pointer (some ⟨b, 0, none⟩)] w fun e w' => e = .returned .nilIface ∧ Below w.heap.size w w' := by
    go_enter Tryf.func15, Tryf.ntmps15
    go_wp2
    go_ret
    exact ⟨rfl, Below.refl _ _⟩
  have H := Lib.hid h15
  clear h15
  go_enter Tryf.func10, Tryf.ntmps10
  go_wp2_with (go_at_call 15; refine (H.out).mono ?_; rintro e w1 ⟨rfl, hb⟩)
  go_ret
  exact ⟨rfl, hb⟩

/-- Any way of 'end' that gives an error, through ZZpolEnd. -/
theorem polEnd_err (b : Nat) (w : World) (h15 : Calls Tryf.prog 15 #[.pointer (some ⟨b, 0, none⟩)] w fun e w' => (∃ N, e = .returned (.iface 48 (.pointer (some ⟨N, 0, none⟩)))) ∧ Below w.heap.size w w') :
    Calls Tryf.prog 10 #[.pointer (some ⟨b, 0, none⟩)] w fun e w' => e = .returned (.bool true) ∧ Below w.heap.size w w' := by
  have H := Lib.hid h15
  clear h15
  go_enter Tryf.func10, Tryf.ntmps10
  go_wp2_with (go_at_call 15; refine (H.out).mono ?_; rintro e w1 ⟨⟨N, rfl⟩, hb⟩)
  go_ret
  exact ⟨rfl, hb⟩

set_option maxHeartbeats 2000000 in
theorem end_head (b k : Nat) (g : Nat → Int) (w : World) (hk : k < 8) (hg : ∀ j, 0 ≤ g j ∧ g j < 256) (e3 : w.cell? ⟨b, 3, none⟩ = some (.int .u8 0)) (e12 : w.cell? ⟨b, 12, none⟩ = some (.int .i64 (k : Int)))
    (hc : ∀ j, j < k → w.cell? ⟨b, 4 + j, none⟩ = some (.int .u8 (g j))) :
    Calls Tryf.prog 15 #[.pointer (some ⟨b, 0, none⟩)] w fun e w' => (∃ N, e = .returned (.iface 48 (.pointer (some ⟨N, 0, none⟩)))) ∧ Below w.heap.size w w' := by
  have HH := Lib.hid (fun q => (head_last b k (min k 4) g (w.drewN q) hk rfl hg hc).mono (fun e w' ⟨h1, h2⟩ => (show (∃ N, e = Ending.returned (.iface 48 (.pointer (some ⟨N, 0, none⟩)))) ∧ Below w.heap.size w w' from ⟨h1, (below_drewN (Below.refl _ w) q).trans h2⟩)))
  have i0 : (0 : Int) ≤ (k : Int) := by omega
  have i1 : (k : Int) ≤ 8 := by omega
  clear hc
  go_enter Tryf.func15, Tryf.ntmps15
  go_wp2
  go_region_with (go_at_call 16; refine (HH.out 1).mono ?_; rintro e w2 ⟨⟨N, rfl⟩, hb2⟩)
  go_wp2
  go_ret
  exact ⟨⟨N, rfl⟩, hb2⟩

set_option maxHeartbeats 4000000 in
theorem end_short (F : Interp) (b fld lf st : Nat) (sz : Int) (w : World) (hF : F.answers w.tape) (hbw : b < w.heap.size) (h1 : 1 ≤ fld) (h11 : fld ≤ 11)
    (e12 : fld = 1 → ∃ nh : Nat, nh ≠ 0 ∧ w.cell? ⟨b, 12, none⟩ = some (.int .i64 nh)) (e2 : w.cell? ⟨b, 2, none⟩ = some (.int .i64 (st : Int))) (e3 : w.cell? ⟨b, 3, none⟩ = some (.int .u8 (fld : Int)))
    (e14 : w.cell? ⟨b, 14, none⟩ = some (.int .u32 sz)) (e15 : w.cell? ⟨b, 15, none⟩ = some (.int .u32 (lf : Int))) :
    Calls Tryf.prog 15 #[.pointer (some ⟨b, 0, none⟩)] w fun e w' => (∃ N, e = .returned (.iface 48 (.pointer (some ⟨N, 0, none⟩)))) ∧ Below w.heap.size w w' := by
  have b0 : ((fld : Int) == 0) = false := by rw [beq_eq_false_iff_ne]; omega
  by_cases f1 : fld = 1
  · obtain ⟨nh, hn0, e12⟩ := e12 f1
    subst f1
    have bn : ((nh : Int) == 0) = false := by rw [beq_eq_false_iff_ne]; omega
    go_enter Tryf.func15, Tryf.ntmps15
    go_wp2
    go_ret
    exact ⟨⟨_, rfl⟩, (Below.refl _ w).alloc (Nat.le_refl _) _⟩
  · have b1 : ((fld : Int) == 1) = false := by rw [beq_eq_false_iff_ne]; omega
    clear e12
    by_cases f10 : fld = 10
    · subst f10
      by_cases hl : 0 < lf
      · have hl' : (0 : Int) < (lf : Int) := by omega
        have hF' := hF
        unfold Interp.answers at hF'
        have f1 := call22; have f2 := guard_c; have f3 := fmtB; have f4 := fmtB'; have f5 := op40
        go_enter Tryf.func15, Tryf.ntmps15
        go_wp2
        go_region
        go_wp2
        go_ret
        exact ⟨⟨_, rfl⟩, by repeat (first | exact Below.refl _ _ | apply Below.drew | (refine Below.alloc ?_ ?_ _; rotate_left; (simp; try omega)))⟩
      · have hl' : ¬ (0 : Int) < (lf : Int) := by omega
        go_enter Tryf.func15, Tryf.ntmps15
        go_wp2
        go_ret
        exact ⟨⟨_, rfl⟩, (Below.refl _ w).alloc (Nat.le_refl _) _⟩
    · have b10 : ((fld : Int) == 10) = false := by rw [beq_eq_false_iff_ne]; omega
      go_enter Tryf.func15, Tryf.ntmps15
      go_wp2
      go_ret
      exact ⟨⟨_, rfl⟩, (Below.refl _ w).alloc (Nat.le_refl _) _⟩

theorem count_c (b : Nat) (cn : Int) (w : World) (e1 : w.cell? ⟨b, 1, none⟩ = some (.int .i64 cn)) :
    Calls Tryf.prog 9 #[.pointer (some ⟨b, 0, none⟩)] w fun e w' => e = .returned (.int .i64 cn) ∧ w = w' := by
  go_enter Tryf.func9, Tryf.ntmps9
  go_wp2
  go_ret
  exact ⟨rfl, rfl⟩
end Go.Proofs.Qxb6612846aFmt
