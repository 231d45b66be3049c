/- Seat b6613145aF: (*bufio.Scanner).Scan. -/
import Derived.Test.Qxb6613145aFmtParts
namespace Go.Proofs.Qxb6613145aFmt
open Go.RowKit
set_option linter.unusedVariables false
set_option maxRecDepth 100000

theorem b0_ : Tryf.f26.body = some (.seq (fs (Tryf.f26.body.getD .skip)) (.seq (fs (sn (Tryf.f26.body.getD .skip))) (.seq (fs (sn (sn (Tryf.f26.body.getD .skip)))) (.block 0 (.loop ((Tryf.f26.body.bind lp).getD .skip)))))) := rfl

theorem p0_a {B : Nat} {L : Act → World → Prop} {Q0 : Exit → Act → World → Prop} (c : Nat → Value) (wc : World) (hL : Hid (∀ a' : Act, Fr B a' → L a' wc)) : (fs (Tryf.f26.body.getD .skip)).wp Tryf.prog (Exit.then L Q0) (frame B c) wc := by
  conv => arg 2; whnf
  unfold frame
  go_wp2_with fail
  exact hL.out _ ⟨rfl, rfl, rfl⟩
theorem p0_b {B : Nat} {L : Act → World → Prop} {Q0 : Exit → Act → World → Prop} (c : Nat → Value) (wc : World) (c10 : wc.cell? ⟨B, 10, none⟩ = some (.bool false)) (hL : Hid (∀ a' : Act, Fr B a' → L a' wc)) : (fs (sn (Tryf.f26.body.getD .skip))).wp Tryf.prog (Exit.then L Q0) (frame B c) wc := by
  conv => arg 2; whnf
  unfold frame
  go_wp2_with fail
  exact hL.out _ ⟨rfl, rfl, rfl⟩
theorem p0_c {B : Nat} {L : Act → World → Prop} {Q0 : Exit → Act → World → Prop} (c : Nat → Value) (wc : World) (v9 : Value) (c9 : wc.cell? ⟨B, 9, none⟩ = some v9) (fB : ∀ o, wc.frozen? ⟨B, o, none⟩ = false) (hL : Hid (∀ a' : Act, Fr B a' → L a' (wc.setCell ⟨B, 9, none⟩ (.bool true)))) : (fs (sn (sn (Tryf.f26.body.getD .skip)))).wp Tryf.prog (Exit.then L Q0) (frame B c) wc := by
  conv => arg 2; whnf
  unfold frame
  go_wp2_with fail
  exact hL.out _ ⟨rfl, rfl, rfl⟩

theorem scan_c (B R K : Nat) (S : ByteArray) (pos i st en m : Nat) (err : Value) (b : Addr) (w : World) (H : Sc B R K S w pos i st en m err) (hK0 : 0 < m ∨ w.heap.size ≤ K)
    (herr : err = .nilIface ∨ (err = (.iface 54 (.pointer (some b))) ∧ i = S.size)) (g4 : w.cell? ⟨4, 0, none⟩ = some (.iface 54 (.pointer (some b)))) :
    Calls Tryf.prog 26 #[.pointer (some ⟨B, 0, none⟩)] w fun e w' => Scanned B R K m S pos (.iface 54 (.pointer (some b))) w e w' := by
  refine calls_of_wp Tryf.func26 b0_ ?_
  have hF0 : Fr B { tmps := #[Value.pointer (some ⟨B, 0, none⟩)] ++ Array.replicate (Tryf.f26.ntmps - (#[Value.pointer (some ⟨B, 0, none⟩)] : Array Value).size) undef, defers := [] } := by
    rw [Tryf.ntmps26]
    exact ⟨by simp, by simp, rfl⟩
  obtain ⟨c0, hc0⟩ := fr_open hF0
  rw [hc0]
  refine wp_seq (p0_a c0 w (Lib.hid ?_))
  intro a1 hF1
  obtain ⟨c1, rfl⟩ := fr_open hF1
  refine wp_seq (p0_b c1 w H.c10 (Lib.hid ?_))
  intro a2 hF2
  obtain ⟨c2, rfl⟩ := fr_open hF2
  obtain ⟨v9, c9⟩ := H.c9
  refine wp_seq (p0_c c2 w v9 c9 H.fB (Lib.hid ?_))
  intro a3 hF3
  have H1 := H.put 9 (.bool true) (by omega)
  have A1 : Apart (Mine B R K m) w (w.setCell ⟨B, 9, none⟩ (.bool true)) := (Apart.refl _ w).setCell (Or.inl (Or.inl rfl)) _
  have G4 : ∀ wx, Apart (Mine B R K m) w wx → wx.cell? ⟨4, 0, none⟩ = some (.iface 54 (.pointer (some b))) := fun wx hA => (hA.cell (p := ⟨4, 0, none⟩) (Lib.lt_of_cell g4) (by
    have := H.b6
    have := H.r6
    unfold Mine
    rintro (h | h | ⟨h0, h⟩)
    · simp only at h; omega
    · simp only at h; omega
    · simp only at h; have := H.k6 h0; omega)).trans g4
  refine wp_block (wp_loop_ghost (fun n a wr => Fr B a ∧ ∃ K1 i1 st1 en1 m1 err1, (K1 = K ∧ 0 < m ∨ w.heap.size ≤ K1) ∧ Apart (Mine B R K m) w wr ∧ ((err1 = .nilIface ∧ S.size - i1 + 1 ≤ n) ∨ (err1 = (.iface 54 (.pointer (some b))) ∧ i1 = S.size)) ∧ Sc B R K1 S wr pos i1 st1 en1 m1 err1) (S.size + 1) ?_ ?_)
  · exact ⟨hF3, K, i, st, en, m, err, by rcases hK0 with h | h; exact Or.inl ⟨rfl, h⟩; exact Or.inr h, A1, by rcases herr with h | h; exact Or.inl ⟨h, by omega⟩; exact Or.inr h, H1⟩
  · rintro n a wr ⟨hF, K1, i1, st1, en1, m1, err1, hK, hA, he, hS⟩
    obtain ⟨c, rfl⟩ := fr_open hF
    rw [e0_]
    refine wp_block ?_
    refine part1 c wr hK hA hS (by rcases he with h | h; exact Or.inl h.1; exact Or.inr h) (Lib.hid G4) (Lib.hid ?_) (Lib.hid ?_)
    · intro a' w' v hd h2 hs
      refine bodyPost_ret (v := .bool v) ?_ hd hs
      simp [results, Tryf.results26, go_sem, h2]
    · rintro a' w' hF' hn ⟨K2, i2, st2, en2, m2, err2, hK2, h2, hA2, hS2⟩
      have hin := hS2.inS
      rcases he with ⟨_, hle⟩ | ⟨h, _⟩
      · rcases h2 with ⟨h, hlt⟩ | ⟨h, hi⟩
        · exact ⟨S.size - i2 + 1, by omega, hF', K2, i2, st2, en2, m2, err2, hK2, hA2, Or.inl ⟨h, Nat.le_refl _⟩, hS2⟩
        · exact ⟨0, by omega, hF', K2, i2, st2, en2, m2, err2, hK2, hA2, Or.inr ⟨h, hi⟩, hS2⟩
      · rw [hn] at h
        cases h
end Go.Proofs.Qxb6613145aFmt
