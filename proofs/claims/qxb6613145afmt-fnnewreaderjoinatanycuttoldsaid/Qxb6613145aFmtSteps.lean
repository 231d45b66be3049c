/- Seat b6613145aF: what a Scan's ways leave, outside the walk. -/
import Derived.Test.Qxb6613145aFmtState
namespace Go.Proofs.Qxb6613145aFmt
open Go.RowKit
set_option linter.unusedVariables false

/-- The line's end seen in the buffer. -/
theorem lend_hit {S : ByteArray} {pos n e : Nat} (hn : pos + n ≤ S.size) (he : e < n) (h10 : gB S (pos + e) = 10) (hno : ∀ j, j < e → gB S (pos + j) ≠ 10) : lend S pos = pos + e :=
  lend_eq ⟨by omega, by omega, fun j h1 h2 => by have := hno (j - pos) (by omega); rw [show pos + (j - pos) = j by omega] at this; exact this, fun _ => h10⟩
theorem lend_last {S : ByteArray} {pos n : Nat} (hn : pos + n = S.size) (hno : ∀ j, j < n → gB S (pos + j) ≠ 10) : lend S pos = pos + n :=
  lend_eq ⟨by omega, by omega, fun j h1 h2 => by have := hno (j - pos) (by omega); rw [show pos + (j - pos) = j by omega] at this; exact this, fun h => by omega⟩
theorem crop_shift (S : ByteArray) (pos e : Nat) : crop (gB S) pos (pos + e) - pos = crop (fun j => gB S (pos + j)) 0 e := by
  unfold crop
  by_cases h : 0 < e ∧ gB S (pos + (e - 1)) = 13
  · rw [if_pos h, if_pos ⟨by omega, by have := h.2; rw [show pos + (e - 1) = pos + e - 1 by omega] at this; exact this⟩]
    omega
  · rw [if_neg h, if_neg]
    · omega
    · rintro ⟨h1, h2⟩
      exact h ⟨by omega, by rw [show pos + (e - 1) = pos + e - 1 by omega]; exact h2⟩
/-- Is there a newline? -/
theorem newline (h : Nat → Int) : ∀ n, (∀ j, j < n → h j ≠ 10) ∨ ∃ e, e < n ∧ h e = 10 ∧ ∀ j, j < e → h j ≠ 10
  | 0 => Or.inl (fun j hj => by omega)
  | n + 1 => by
    rcases newline h n with h1 | ⟨e, h1, h2, h3⟩
    · by_cases h10 : h n = 10
      · exact Or.inr ⟨n, by omega, h10, h1⟩
      · refine Or.inl (fun j hj => ?_)
        by_cases e : j = n
        · subst e; exact h10
        · exact h1 j (by omega)
    · exact Or.inr ⟨e, by omega, h2, h3⟩

/-- How a Scan leaves. -/
def Scanned (B R K m : Nat) (S : ByteArray) (pos : Nat) (eof : Value) (w : World) (e : Ending) (w' : World) : Prop :=
  ∃ K' i' st' en' m' err', (K' = K ∧ 0 < m ∨ w.heap.size ≤ K') ∧ Apart (Mine B R K m) w w' ∧ (err' = .nilIface ∨ (err' = eof ∧ i' = S.size)) ∧
    ((pos = S.size ∧ e = .returned (.bool false) ∧ err' = eof ∧ Sc B R K' S w' pos i' st' en' m' err') ∨
     (pos < S.size ∧ e = .returned (.bool true) ∧ 0 < m' ∧ Sc B R K' S w' (after S pos) i' st' en' m' err' ∧
       ∃ o c, w'.cell? ⟨B, 3, none⟩ = some (.slice (some ⟨K', o, none⟩) (crop (gB S) pos (lend S pos) - pos) c) ∧ Lies w' K' o (crop (gB S) pos (lend S pos) - pos) (fun j => gB S (pos + j))))

theorem scanned_token {B R K m K1 i1 st1 en1 m1 : Nat} {S : ByteArray} {pos : Nat} {eof err1 : Value} {w wr : World} (hS : Sc B R K1 S wr pos i1 st1 en1 m1 err1) (hK : K1 = K ∧ 0 < m ∨ w.heap.size ≤ K1) (hA : Apart (Mine B R K m) w wr)
    (herr : err1 = .nilIface ∨ (err1 = eof ∧ i1 = S.size)) (k e : Nat) (z : Int) (hz : z = ((st1 + k : Nat) : Int)) (hk : st1 + k ≤ en1) (h0 : 0 < k) (he : lend S pos = pos + e) (hek : e ≤ k) (ha : after S pos = pos + k) (c a q2 : Nat) :
    Scanned B R K m S pos eof w (.returned (.bool true)) (((((wr.drewN a).setCell ⟨B, 5, none⟩ (.int .i64 z)).drewN q2).setCell ⟨B, 3, none⟩ (.slice (some ⟨K1, st1, none⟩) (crop (fun j => gB S (pos + j)) 0 e) c)).setCell ⟨B, 8, none⟩ (.int .i64 0)) := by
  subst hz
  have hord := hS.ord
  have hat := hS.at_
  have hin := hS.inS
  have hc3 : ∀ v, ∃ u, (((wr.drewN a).setCell ⟨B, 5, none⟩ v).drewN q2).cell? ⟨B, 3, none⟩ = some u := fun v => by
    obtain ⟨u, hu⟩ := hS.c3
    exact cell?_setCell_some (w := wr) hu
  have hS' : Sc B R K1 S (((((wr.drewN a).setCell ⟨B, 5, none⟩ (.int .i64 ((st1 + k : Nat) : Int))).drewN q2).setCell ⟨B, 3, none⟩ (.slice (some ⟨K1, st1, none⟩) (crop (fun j => gB S (pos + j)) 0 e) c)).setCell ⟨B, 8, none⟩ (.int .i64 0)) (pos + k) i1 (st1 + k) en1 m1 err1 :=
    ((((hS.draws a).advance k hk).draws q2).put 3 _ (by omega)).put 8 _ (by omega)
  have hm1 : 0 < m1 := by omega
  have hKB := (hS.bK hm1).1
  have hcr := crop_le (fun j => gB S (pos + j)) 0 e
  refine ⟨K1, i1, st1 + k, en1, m1, err1, hK, ?_, herr, Or.inr ⟨by omega, rfl, hm1, by rw [ha]; exact hS', st1, c, ?_, ?_⟩⟩
  · exact ((((hA.drewN a).setCell (Or.inl (Or.inl rfl)) _).drewN q2).setCell (Or.inl (Or.inl rfl)) _).setCell (Or.inl (Or.inl rfl)) _
  · rw [he, crop_shift, World.cell?_setCell_other (h := fun x => by have := congrArg Addr.off x; simp at this)]
    obtain ⟨u, hu⟩ := hc3 (.int .i64 ((st1 + k : Nat) : Int))
    exact World.cell?_setCell_same (h := hu) ..
  · rw [he, crop_shift]
    intro j hj
    rw [World.cell?_setCell_other (h := fun x => by have := congrArg Addr.block x; simp at this; exact hKB this.symm), World.cell?_setCell_other (h := fun x => by have := congrArg Addr.block x; simp at this; exact hKB this.symm)]
    show ((wr.setCell ⟨B, 5, none⟩ _).cell? ⟨K1, st1 + j, none⟩) = _
    rw [World.cell?_setCell_other (h := fun x => by have := congrArg Addr.block x; simp at this; exact hKB this.symm)]
    exact hS.lies j (by omega)

/-- Stores into the scanner's own cells alone: what a world must show. -/
theorem Sc.cells {B R K : Nat} {S : ByteArray} {w w' : World} {pos i st en m pos' st' en' : Nat} {err err' : Value} (h : Sc B R K S w pos i st en m err) (hO : Apart (fun k => k = B) w w') (hsz : w'.heap.size = w.heap.size)
    (hc : ∀ o, o = 0 ∨ o = 1 ∨ o = 2 ∨ o = 4 ∨ o = 10 → w'.cell? ⟨B, o, none⟩ = w.cell? ⟨B, o, none⟩) (h3 : ∃ v, w'.cell? ⟨B, 3, none⟩ = some v) (h8 : ∃ v, w'.cell? ⟨B, 8, none⟩ = some v) (h9 : ∃ v, w'.cell? ⟨B, 9, none⟩ = some v)
    (hf : ∀ o, w'.frozen? ⟨B, o, none⟩ = w.frozen? ⟨B, o, none⟩) (h5 : w'.cell? ⟨B, 5, none⟩ = some (.int .i64 (st' : Int))) (h6 : w'.cell? ⟨B, 6, none⟩ = some (.int .i64 (en' : Int))) (h7 : w'.cell? ⟨B, 7, none⟩ = some err')
    (hl : Lies w K st' (en' - st') (fun j => gB S (pos' + j))) (hord : st' ≤ en' ∧ en' ≤ m) (hat : pos' + (en' - st') = i) : Sc B R K S w' pos' i st' en' m err' := by
  have hR : ∀ k, w'.cell? ⟨R, k, none⟩ = w.cell? ⟨R, k, none⟩ := fun k => hO.cell (p := ⟨R, k, none⟩) h.rR (fun e => h.bR e.symm)
  have hK : 0 < m → ∀ k, w'.cell? ⟨K, k, none⟩ = w.cell? ⟨K, k, none⟩ := fun hm k => hO.cell (p := ⟨K, k, none⟩) (h.bK hm).2.2 (h.bK hm).1
  exact { h with
    rB := by rw [hsz]; exact h.rB
    rR := by rw [hsz]; exact h.rR
    bK := fun hm => by rw [hsz]; exact h.bK hm
    c0 := (hc 0 (by omega)).trans h.c0
    c1 := (hc 1 (by omega)).trans h.c1
    c2 := (hc 2 (by omega)).trans h.c2
    c3 := h3
    c4 := (hc 4 (by omega)).trans h.c4
    c5 := h5
    c6 := h6
    c7 := h7
    c8 := h8
    c9 := h9
    c10 := (hc 10 (by omega)).trans h.c10
    fB := fun o => (hf o).trans (h.fB o)
    r0 := (hR 0).trans h.r0
    r1 := (hR 1).trans h.r1
    r2 := by rw [hR]; exact h.r2
    fR := fun o => (hO.frozen (p := ⟨R, o, none⟩) h.rR (fun e => h.bR e.symm)).trans (h.fR o)
    room := fun o ho => by rw [hK (by omega)]; exact h.room o ho
    fK := fun hm o => (hO.frozen (p := ⟨K, o, none⟩) (h.bK hm).2.2 (h.bK hm).1).trans (h.fK hm o)
    lies := fun j hj => by rw [hK (by omega)]; exact hl j hj
    ord := ⟨hord.1, hord.2, h.ord.2.2⟩
    at_ := hat }

/-- Nothing is left: start and end are set to 0. -/
theorem scanned_false {B R K m K1 i1 st1 m1 : Nat} {S : ByteArray} {pos : Nat} {eof : Value} {w wr : World} (hS : Sc B R K1 S wr pos i1 st1 st1 m1 eof) (hK : K1 = K ∧ 0 < m ∨ w.heap.size ≤ K1) (hA : Apart (Mine B R K m) w wr) (hi : i1 = S.size)
    (a q2 : Nat) (z : Int) (hz : z = ((st1 + 0 : Nat) : Int)) :
    Scanned B R K m S pos eof w (.returned (.bool false)) ((((((wr.drewN a).setCell ⟨B, 5, none⟩ (.int .i64 z)).drewN q2).setCell ⟨B, 3, none⟩ (.slice none 0 0)).setCell ⟨B, 5, none⟩ (.int .i64 0)).setCell ⟨B, 6, none⟩ (.int .i64 0)) := by
  subst hz
  have hat := hS.at_
  have h1 : Sc B R K1 S ((((wr.drewN a).setCell ⟨B, 5, none⟩ (.int .i64 ((st1 + 0 : Nat) : Int))).drewN q2).setCell ⟨B, 3, none⟩ (.slice none 0 0)) (pos + 0) i1 (st1 + 0) st1 m1 eof :=
    (((hS.draws a).advance 0 (by omega)).draws q2).put 3 _ (by omega)
  have hA1 : Apart (Mine B R K m) w ((((wr.drewN a).setCell ⟨B, 5, none⟩ (.int .i64 ((st1 + 0 : Nat) : Int))).drewN q2).setCell ⟨B, 3, none⟩ (.slice none 0 0)) :=
    (((hA.drewN a).setCell (Or.inl (Or.inl rfl)) _).drewN q2).setCell (Or.inl (Or.inl rfl)) _
  generalize ((((wr.drewN a).setCell ⟨B, 5, none⟩ (.int .i64 ((st1 + 0 : Nat) : Int))).drewN q2).setCell ⟨B, 3, none⟩ (.slice none 0 0)) = W at h1 hA1
  have hc : ∀ o, o ≠ 5 → o ≠ 6 → ((W.setCell ⟨B, 5, none⟩ (.int .i64 0)).setCell ⟨B, 6, none⟩ (.int .i64 0)).cell? ⟨B, o, none⟩ = W.cell? ⟨B, o, none⟩ := fun o h5 h6 => by
    rw [World.cell?_setCell_other (h := fun x => by have := congrArg Addr.off x; simp at this; omega), World.cell?_setCell_other (h := fun x => by have := congrArg Addr.off x; simp at this; omega)]
  have h2 : Sc B R K1 S ((W.setCell ⟨B, 5, none⟩ (.int .i64 0)).setCell ⟨B, 6, none⟩ (.int .i64 0)) pos i1 0 0 m1 eof := by
    refine h1.cells ?_ (by simp [World.setCell]) (fun o ho => hc o (by omega) (by omega)) ?_ ?_ ?_ (fun o => by rw [World.frozen?_setCell, World.frozen?_setCell]) ?_ ?_ ?_ (fun j hj => by omega) ⟨Nat.le_refl _, Nat.zero_le _⟩ (by omega)
    · exact ((Apart.refl (fun k => k = B) W).setCell (p := ⟨B, 5, none⟩) (Or.inl rfl) _).setCell (p := ⟨B, 6, none⟩) (Or.inl rfl) _
    · rw [hc 3 (by omega) (by omega)]; exact h1.c3
    · rw [hc 8 (by omega) (by omega)]; exact h1.c8
    · rw [hc 9 (by omega) (by omega)]; exact h1.c9
    · rw [World.cell?_setCell_other (h := fun x => by have := congrArg Addr.off x; simp at this)]
      exact World.cell?_setCell_same (h := h1.c5) ..
    · have : (W.setCell ⟨B, 5, none⟩ (.int .i64 0)).cell? ⟨B, 6, none⟩ = some (.int .i64 (st1 : Int)) := by
        rw [World.cell?_setCell_other (h := fun x => by have := congrArg Addr.off x; simp at this)]
        exact h1.c6
      exact World.cell?_setCell_same (h := this) ..
    · rw [hc 7 (by omega) (by omega)]; exact h1.c7
  exact ⟨K1, i1, 0, 0, m1, eof, hK, (hA1.setCell (Or.inl (Or.inl rfl)) _).setCell (Or.inl (Or.inl rfl)) _, Or.inr ⟨rfl, hi⟩, Or.inl ⟨by omega, rfl, rfl, h2⟩⟩
end Go.Proofs.Qxb6613145aFmt
