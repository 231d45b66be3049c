/- Seat b6612846aF: (*polScanner).scan where the header is wrong or not whole. -/
import Derived.Test.Qxb6612846aFmtLoop
namespace Go.Proofs.Qxb6612846aFmt
open Go.RowKit Go.Extern.Stop Go.Stop Go.Extern
set_option linter.unusedVariables false

set_option maxHeartbeats 4000000 in
set_option maxRecDepth 100000 in
theorem scan_err (b bp n cp k : Nat) (o : Int) (g : Nat → Int) (w : World) (hn : n ≤ 1048576) (hk : k = min n 8) (hl : Lies w bp n g) (hF : Fresh b w) (hbp : bp < b)
    (hH : ∀ W : World, b < W.heap.size → W.tape = w.tape → (∀ j, j < k → W.cell? ⟨b, 4 + j, none⟩ = some (.int .u8 (g j))) → Calls Tryf.prog 16 #[.slice (some ⟨b, 4, none⟩) k 8, .bool true] W fun e w' => IsErr o W e w' ∧ Below W.heap.size W w') :
    Calls Tryf.prog 14 #[.pointer (some ⟨b, 0, none⟩), .slice (some ⟨bp, 0, none⟩) n cp, .nilFunc] w fun e w' => Left b ⟨true, o, 0, false⟩ w e w' := by
  have S0 := hF.sw
  have S1 : SW b w (w.setCell ⟨b, 0, none⟩ (.int .i64 (n : Int))).drew 0 0 0 := (S0.put 0 _ (by omega)).draws 1
  obtain ⟨hroom, c0, c1, c2, c3, hheld, c12, c13, c14, c15, hends, hmarks⟩ := hF
  obtain ⟨W2, hcp, hK, h12, hcopied, hheld2⟩ := held_copy b bp n 0 k g (w.setCell ⟨b, 0, none⟩ (.int .i64 (n : Int))).drew (by omega) (by omega)
    (fun j hj => by show (w.setCell ⟨b, 0, none⟩ _).cell? ⟨bp, j, none⟩ = _; rw [World.cell?_setCell_other (h := fun e => by have := congrArg Addr.block e; simp at this; omega)]; exact hl j hj)
    S1.held S1.marks
  have S2 : SW b w W2 0 0 0 := S1.kept hK (h12.trans S1.c12)
  have hcp' := hcp 8 8 n cp (by show min n 8 = k; omega)
  have k12 := S2.c12
  have kf := S2.marks
  have ht2 : W2.tape = w.tape := S2.below.tape
  have hHH : ∀ q, Calls Tryf.prog 16 #[.slice (some ⟨b, 4, none⟩) k 8, .bool true] ((W2.setCell ⟨b, 12, none⟩ (.int .i64 (k : Int))).drewN q) fun e w' => IsErr o w e w' ∧ Below (W2.setCell ⟨b, 12, none⟩ (.int .i64 (k : Int))).heap.size (W2.setCell ⟨b, 12, none⟩ (.int .i64 (k : Int))) w' := fun q =>
    (hH ((W2.setCell ⟨b, 12, none⟩ (.int .i64 (k : Int))).drewN q) (by have := S2.room; simpa using this) (by have := ((Below.refl b W2).setCell (Nat.le_refl _) (p := ⟨b, 12, none⟩) (.int .i64 (k : Int))).tape; exact this.trans ht2) (fun j hj => by
      show (W2.setCell ⟨b, 12, none⟩ (.int .i64 (k : Int))).cell? ⟨b, 4 + j, none⟩ = _
      rw [setOther (by omega)]
      have := hcopied j hj
      rw [Nat.zero_add] at this
      exact this)).mono (fun e w' ⟨h1, h2⟩ => ⟨h1, (below_drewN (Below.refl _ _) q).trans h2⟩)
  have HH := Lib.hid hHH
  have i1 : (0 : Int) ≤ (k : Int) := by omega
  have i2 : (k : Int) ≤ 8 := by omega
  clear hH hHH hcp hcopied hheld2 hl hK h12 S0 S1 c1 c2 c13 c14 c15 hends hheld hk
  go_enter Tryf.func14, Tryf.ntmps14
  go_wp2
  go_region
  go_wp2
  go_region_with (go_at_call 16; refine (HH.out 1).mono ?_; rintro e w4 ⟨⟨N, rfl, hN⟩, hb4⟩)
  go_wp2
  go_ret
  have hr2 : b < (W2.setCell ⟨b, 12, none⟩ (.int .i64 (k : Int))).heap.size := by have := S2.room; simpa using this
  exact ⟨(S2.below.setCell (Nat.le_refl _) _).trans (hb4.mono (Nat.le_of_lt hr2)), Nat.lt_of_lt_of_le hr2 hb4.size,
    by rw [hb4.cell (p := ⟨b, 1, none⟩) hr2, setOther (by omega)]; exact S2.c1, Or.inl ⟨rfl, N, rfl, hN⟩⟩

/-- How a scan leaves a file that ends inside the header. -/
def HeadLeft (b n : Nat) (g : Nat → Int) (w : World) (e : Ending) (w' : World) : Prop :=
  Below b w w' ∧ b < w'.heap.size ∧ w'.cell? ⟨b, 1, none⟩ = some (.int .i64 0) ∧ e = .returned .nilIface ∧ w'.cell? ⟨b, 3, none⟩ = some (.int .u8 0) ∧ w'.cell? ⟨b, 12, none⟩ = some (.int .i64 (n : Int)) ∧
    ∀ j, j < n → w'.cell? ⟨b, 4 + j, none⟩ = some (.int .u8 (g j))

set_option maxHeartbeats 4000000 in
set_option maxRecDepth 100000 in
theorem scan_head (b bp n cp : Nat) (g : Nat → Int) (w : World) (h8 : n < 8) (hg : ∀ j, 0 ≤ g j ∧ g j < 256) (hl : Lies w bp n g) (hF : Fresh b w) (hbp : bp < b) (hs : ∀ j, j < min n 4 → g j = sigB j) :
    Calls Tryf.prog 14 #[.pointer (some ⟨b, 0, none⟩), .slice (some ⟨bp, 0, none⟩) n cp, .nilFunc] w fun e w' => HeadLeft b n g w e w' := by
  have S0 := hF.sw
  have S1 : SW b w (w.setCell ⟨b, 0, none⟩ (.int .i64 (n : Int))).drew 0 0 0 := (S0.put 0 _ (by omega)).draws 1
  obtain ⟨hroom, c0, c1, c2, c3, hheld, c12, c13, c14, c15, hends, hmarks⟩ := hF
  obtain ⟨W2, hcp, hK, h12, hcopied, hheld2⟩ := held_copy b bp n 0 n g (w.setCell ⟨b, 0, none⟩ (.int .i64 (n : Int))).drew (by omega) (by omega)
    (fun j hj => by show (w.setCell ⟨b, 0, none⟩ _).cell? ⟨bp, j, none⟩ = _; rw [World.cell?_setCell_other (h := fun e => by have := congrArg Addr.block e; simp at this; omega)]; exact hl j hj)
    S1.held S1.marks
  have S2 : SW b w W2 0 0 0 := S1.kept hK (h12.trans S1.c12)
  have hcp' := hcp 8 8 n cp (by show min n 8 = n; omega)
  have k12 := S2.c12
  have kf := S2.marks
  have k3 : W2.cell? ⟨b, 3, none⟩ = some (.int .u8 0) := by
    rw [hK.cells 3 (by omega)]
    show (w.setCell ⟨b, 0, none⟩ _).cell? ⟨b, 3, none⟩ = _
    rw [setOther (by omega)]
    exact c3
  have HC : Hid (∀ j, j < n → (W2.setCell ⟨b, 12, none⟩ (.int .i64 (n : Int))).cell? ⟨b, 4 + j, none⟩ = some (.int .u8 (g j))) := Lib.hid (fun j hj => by
      rw [setOther (by omega)]
      have := hcopied j hj
      rw [Nat.zero_add] at this
      exact this)
  have hHH : ∀ q, Calls Tryf.prog 16 #[.slice (some ⟨b, 4, none⟩) n 8, .bool true] ((W2.setCell ⟨b, 12, none⟩ (.int .i64 (n : Int))).drewN q) fun e w' => e = .returned .nilIface ∧ Below (W2.setCell ⟨b, 12, none⟩ (.int .i64 (n : Int))).heap.size (W2.setCell ⟨b, 12, none⟩ (.int .i64 (n : Int))) w' := fun q =>
    (head_more b n (min n 4) g ((W2.setCell ⟨b, 12, none⟩ (.int .i64 (n : Int))).drewN q) h8 rfl hg HC.out hs).mono (fun e w' ⟨h1, h2⟩ => ⟨h1, (below_drewN (Below.refl _ _) q).trans h2⟩)
  have HH := Lib.hid hHH
  have i1 : (0 : Int) ≤ (n : Int) := by omega
  have i2 : (n : Int) ≤ 8 := by omega
  have i3 : (n : Int) < 8 := by omega
  have hr2 : b < (W2.setCell ⟨b, 12, none⟩ (.int .i64 (n : Int))).heap.size := by have := S2.room; simpa using this
  clear hHH hcp hcopied hheld2 hl hK h12 S0 S1 c1 c2 c13 c14 c15 hends hheld
  go_enter Tryf.func14, Tryf.ntmps14
  go_wp2
  go_region
  go_wp2
  go_region_with (go_at_call 16; refine (HH.out 1).mono ?_; rintro e w4 ⟨rfl, hb4⟩)
  have d12 : w4.cell? ⟨b, 12, none⟩ = some (.int .i64 (n : Int)) := by
    rw [hb4.cell (p := ⟨b, 12, none⟩) hr2]
    exact World.cell?_setCell_same (h := k12) ..
  go_wp2
  go_ret
  exact ⟨(S2.below.setCell (Nat.le_refl _) _).trans (hb4.mono (Nat.le_of_lt hr2)), Nat.lt_of_lt_of_le hr2 hb4.size,
    by rw [hb4.cell (p := ⟨b, 1, none⟩) hr2, setOther (by omega)]; exact S2.c1, rfl,
    by rw [hb4.cell (p := ⟨b, 3, none⟩) hr2, setOther (by omega)]; exact k3, d12, fun j hj => by rw [hb4.cell (p := ⟨b, 4 + j, none⟩) hr2]; exact HC.out j hj⟩
end Go.Proofs.Qxb6612846aFmt
