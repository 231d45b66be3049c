/- Seat b6613145aF: shift and growth. -/
import Derived.Test.Qxb6613145aFmtFill
import Derived.Test.Qxb6613145aFmtMeth
import Derived.Laws.NewBlocks
namespace Go.Proofs.Qxb6613145aFmt
open Go.RowKit
set_option linter.unusedVariables false

theorem size_setCell (x : World) (a : Addr) (v : Value) : (x.setCell a v).heap.size = x.heap.size := by simp [World.setCell]

/-- Nothing is left: start and end are set to 0. -/
theorem scanned_none {B R K m K1 i1 st1 m1 : Nat} {S : ByteArray} {pos : Nat} {eof : Value} {w W : World} (h1 : Sc B R K1 S W pos i1 st1 st1 m1 eof) (hK : K1 = K ∧ 0 < m ∨ w.heap.size ≤ K1) (hA1 : Apart (Mine B R K m) w W) (hi : i1 = S.size) :
    Scanned B R K m S pos eof w (.returned (.bool false)) ((W.setCell ⟨B, 5, none⟩ (.int .i64 0)).setCell ⟨B, 6, none⟩ (.int .i64 0)) := by
  have hat := h1.at_
  have hc : ∀ o, o ≠ 5 → o ≠ 6 → ((W.setCell ⟨B, 5, none⟩ (.int .i64 0)).setCell ⟨B, 6, none⟩ (.int .i64 0)).cell? ⟨B, o, none⟩ = W.cell? ⟨B, o, none⟩ := fun o h5 h6 => by
    rw [othO (by simpa using h6), othO (by simpa using h5)]
  have h2 : Sc B R K1 S ((W.setCell ⟨B, 5, none⟩ (.int .i64 0)).setCell ⟨B, 6, none⟩ (.int .i64 0)) pos i1 0 0 m1 eof := by
    refine h1.cells ?_ (by simp [World.setCell]) (fun o ho => hc o (by omega) (by omega)) ?_ ?_ ?_ (fun o => by rw [World.frozen?_setCell, World.frozen?_setCell]) ?_ ?_ ?_ (fun j hj => by omega) ⟨Nat.le_refl _, Nat.zero_le _⟩ (by omega)
    · exact ((Apart.refl (fun k => k = B) W).setCell (p := ⟨B, 5, none⟩) (Or.inl rfl) _).setCell (p := ⟨B, 6, none⟩) (Or.inl rfl) _
    · rw [hc 3 (by omega) (by omega)]; exact h1.c3
    · rw [hc 8 (by omega) (by omega)]; exact h1.c8
    · rw [hc 9 (by omega) (by omega)]; exact h1.c9
    · rw [othO (by simp)]
      exact World.cell?_setCell_same (h := h1.c5) ..
    · have : (W.setCell ⟨B, 5, none⟩ (.int .i64 0)).cell? ⟨B, 6, none⟩ = some (.int .i64 (st1 : Int)) := by
        rw [othO (by simp)]
        exact h1.c6
      exact World.cell?_setCell_same (h := this) ..
    · rw [hc 7 (by omega) (by omega)]; exact h1.c7
  exact ⟨K1, i1, 0, 0, m1, eof, hK, (hA1.setCell (Or.inl (Or.inl rfl)) _).setCell (Or.inl (Or.inl rfl)) _, Or.inr ⟨rfl, hi⟩, Or.inl ⟨by omega, rfl, rfl, h2⟩⟩

section
variable {B R K : Nat} {S : ByteArray} {w : World} {pos i st en m : Nat} {err : Value}

/-- The bytes are moved to the buffer's head: X is the world behind the copy. -/
theorem Sc.shift (h : Sc B R K S w pos i st en m err) (hm : 0 < m) (n q : Nat) (hn : n = en - st) (z : Int) (hz : z = ((n : Nat) : Int)) :
    Sc B R K S ((((w.setCells K 0 (got S pos n)).drewN q).setCell ⟨B, 6, none⟩ (.int .i64 z)).setCell ⟨B, 5, none⟩ (.int .i64 0)) pos i 0 n m err := by
  subst hz
  obtain ⟨kB, kR, kw⟩ := h.bK hm
  have hord := h.ord
  have hat := h.at_
  have bR := h.bR
  have BK : B ≠ K := fun e => kB e.symm
  have RK : R ≠ K := fun e => kR e.symm
  have RB : R ≠ B := fun e => bR e.symm
  have xO : ∀ p : Addr, p.block ≠ K → (w.setCells K 0 (got S pos n)).cell? p = w.cell? p := fun p hp => cells_out p (Or.inl hp)
  have xI : ∀ j, j < n → (w.setCells K 0 (got S pos n)).cell? ⟨K, 0 + j, none⟩ = some (.int .u8 (gB S (pos + j))) := fun j hj => cells_in (fun j hj => h.room _ (by omega)) j hj
  have xH : ∀ o, n ≤ o → (w.setCells K 0 (got S pos n)).cell? ⟨K, o, none⟩ = w.cell? ⟨K, o, none⟩ := fun o ho => cells_out ⟨K, o, none⟩ (Or.inr ⟨rfl, Or.inr (by show 0 + n ≤ o; omega)⟩)
  have xF : ∀ p, (w.setCells K 0 (got S pos n)).frozen? p = w.frozen? p := fun p => by rw [World.frozen?_setCells]
  have xS : (w.setCells K 0 (got S pos n)).heap.size = w.heap.size := size_setCells ..
  generalize w.setCells K 0 (got S pos n) = X at xO xI xH xF xS
  have yB : ∀ o, o ≠ 6 → o ≠ 5 → (((X.drewN q).setCell ⟨B, 6, none⟩ (.int .i64 (n : Int))).setCell ⟨B, 5, none⟩ (.int .i64 0)).cell? ⟨B, o, none⟩ = w.cell? ⟨B, o, none⟩ := fun o h6 h5 => by
    rw [othO (by simpa using h5), othO (by simpa using h6)]
    exact xO _ BK
  have yO : ∀ p : Addr, p.block ≠ B → (((X.drewN q).setCell ⟨B, 6, none⟩ (.int .i64 (n : Int))).setCell ⟨B, 5, none⟩ (.int .i64 0)).cell? p = X.cell? p := fun p hp => by
    rw [othB (by simpa using hp), othB (by simpa using hp)]
    rfl
  have yF : ∀ p, (((X.drewN q).setCell ⟨B, 6, none⟩ (.int .i64 (n : Int))).setCell ⟨B, 5, none⟩ (.int .i64 0)).frozen? p = w.frozen? p := fun p => by
    rw [World.frozen?_setCell, World.frozen?_setCell]
    exact xF p
  have yS : (((X.drewN q).setCell ⟨B, 6, none⟩ (.int .i64 (n : Int))).setCell ⟨B, 5, none⟩ (.int .i64 0)).heap.size = w.heap.size := by
    rw [size_setCell, size_setCell]
    exact xS
  have z5 : (((X.drewN q).setCell ⟨B, 6, none⟩ (.int .i64 (n : Int))).setCell ⟨B, 5, none⟩ (.int .i64 0)).cell? ⟨B, 5, none⟩ = some (.int .i64 0) := by
    have : ((X.drewN q).setCell ⟨B, 6, none⟩ (.int .i64 (n : Int))).cell? ⟨B, 5, none⟩ = some (.int .i64 (st : Int)) := by
      rw [othO (by simp)]
      exact (xO ⟨B, 5, none⟩ BK).trans h.c5
    exact World.cell?_setCell_same (h := this) ..
  have z6 : (((X.drewN q).setCell ⟨B, 6, none⟩ (.int .i64 (n : Int))).setCell ⟨B, 5, none⟩ (.int .i64 0)).cell? ⟨B, 6, none⟩ = some (.int .i64 (n : Int)) := by
    rw [othO (by simp)]
    have : (X.drewN q).cell? ⟨B, 6, none⟩ = some (.int .i64 (en : Int)) := (xO ⟨B, 6, none⟩ BK).trans h.c6
    exact World.cell?_setCell_same (h := this) ..
  exact h.anew (by rw [yS]; exact Nat.le_refl _) (fun o ho => yB o (by omega) (by omega)) (by rw [yB 3 (by omega) (by omega)]; exact h.c3) (by rw [yB 8 (by omega) (by omega)]; exact h.c8) (by rw [yB 9 (by omega) (by omega)]; exact h.c9) ((yB 4 (by omega) (by omega)).trans h.c4) z5 z6 ((yB 7 (by omega) (by omega)).trans h.c7)
    (fun o => yF _) ((yO _ RB).trans (xO _ RK)) (((yO _ RB).trans (xO _ RK)).trans h.r1) (by rw [yO _ RB, xO _ RK]; exact h.r2) (fun o => yF _) (fun _ => ⟨kB, kR, by rw [yS]; exact kw⟩) h.k6
    (fun o ho => by
      rw [yO _ kB]
      by_cases hon : o < n
      · have := xI o hon
        rw [Nat.zero_add] at this
        rw [this]
        rfl
      · rw [xH o (by omega)]
        exact h.room o ho)
    (fun _ o => (yF _).trans (h.fK hm o)) (fun j hj => by rw [yO _ kB]; exact xI j (by omega)) ⟨Nat.zero_le _, by omega, hord.2.2⟩ (by omega) h.inS

/-- A greater buffer: Y is the world with the new block. -/
theorem Sc.grow (h : Sc B R K S w pos i 0 en m err) (M q : Nat) (A : Array Value) (hA : A.size = M) (hM : en < M) (hM2 : M ≤ 300000) (z : Int) (hz : z = (en : Int)) :
    Sc B R w.heap.size S (((((((w.alloc (.cells A 5)).setCells w.heap.size 0 (got S pos en)).setCell ⟨B, 4, none⟩ (.slice (some ⟨w.heap.size, 0, none⟩) M M)).drewN q).setCell ⟨B, 6, none⟩ (.int .i64 z)).setCell ⟨B, 5, none⟩ (.int .i64 0))) pos i 0 en M err := by
  subst hz
  have hord := h.ord
  have hat := h.at_
  have bR := h.bR
  have rB := h.rB
  have rR := h.rR
  have b6 := h.b6
  have BK : B ≠ w.heap.size := by omega
  have RK : R ≠ w.heap.size := by omega
  have RB : R ≠ B := fun e => bR e.symm
  have aC : ∀ p : Addr, p.block < w.heap.size → (w.alloc (.cells A 5)).cell? p = w.cell? p := fun p hp => by
    unfold World.cell?
    rw [Below.heap_alloc _ _ _ hp]
  have aF : ∀ p : Addr, p.block < w.heap.size → (w.alloc (.cells A 5)).frozen? p = w.frozen? p := fun p hp => by
    unfold World.frozen?
    rw [Below.heap_alloc _ _ _ hp]
  have aN : ∀ o, o < M → ((w.alloc (.cells A 5)).cell? ⟨w.heap.size, o, none⟩).isSome = true := fun o ho => by
    have : o < A.size := by omega
    rw [World.cell?_alloc_at (hn := rfl)]
    simp [this]
  have aG : ∀ o, (w.alloc (.cells A 5)).frozen? ⟨w.heap.size, o, none⟩ = false := fun o => by
    rw [World.frozen?_alloc_at (hn := rfl)]
  have aS : (w.alloc (.cells A 5)).heap.size = w.heap.size + 1 := by rw [World.size_alloc]
  generalize w.alloc (.cells A 5) = Y at aC aF aN aG aS
  generalize hN : w.heap.size = N at *
  have xO : ∀ p : Addr, p.block ≠ N → (Y.setCells N 0 (got S pos en)).cell? p = Y.cell? p := fun p hp => cells_out p (Or.inl hp)
  have xI : ∀ j, j < en → (Y.setCells N 0 (got S pos en)).cell? ⟨N, 0 + j, none⟩ = some (.int .u8 (gB S (pos + j))) := fun j hj => cells_in (fun j hj => aN _ (by omega)) j hj
  have xH : ∀ o, en ≤ o → (Y.setCells N 0 (got S pos en)).cell? ⟨N, o, none⟩ = Y.cell? ⟨N, o, none⟩ := fun o ho => cells_out ⟨N, o, none⟩ (Or.inr ⟨rfl, Or.inr (by show 0 + en ≤ o; omega)⟩)
  have xF : ∀ p, (Y.setCells N 0 (got S pos en)).frozen? p = Y.frozen? p := fun p => by rw [World.frozen?_setCells]
  have xS : (Y.setCells N 0 (got S pos en)).heap.size = N + 1 := (size_setCells ..).trans aS
  generalize Y.setCells N 0 (got S pos en) = X at xO xI xH xF xS
  have yB : ∀ o, o ≠ 4 → o ≠ 6 → o ≠ 5 → ((((X.setCell ⟨B, 4, none⟩ (.slice (some ⟨N, 0, none⟩) M M)).drewN q).setCell ⟨B, 6, none⟩ (.int .i64 (en : Int))).setCell ⟨B, 5, none⟩ (.int .i64 0)).cell? ⟨B, o, none⟩ = w.cell? ⟨B, o, none⟩ := fun o h4 h6 h5 => by
    rw [othO (by simpa using h5), othO (by simpa using h6)]
    show (X.setCell ⟨B, 4, none⟩ _).cell? ⟨B, o, none⟩ = _
    rw [othO (by simpa using h4)]
    exact (xO _ BK).trans (aC _ rB)
  have yO : ∀ p : Addr, p.block ≠ B → ((((X.setCell ⟨B, 4, none⟩ (.slice (some ⟨N, 0, none⟩) M M)).drewN q).setCell ⟨B, 6, none⟩ (.int .i64 (en : Int))).setCell ⟨B, 5, none⟩ (.int .i64 0)).cell? p = X.cell? p := fun p hp => by
    rw [othB (by simpa using hp), othB (by simpa using hp)]
    show (X.setCell ⟨B, 4, none⟩ _).cell? p = _
    rw [othB (by simpa using hp)]
  have yF : ∀ p, ((((X.setCell ⟨B, 4, none⟩ (.slice (some ⟨N, 0, none⟩) M M)).drewN q).setCell ⟨B, 6, none⟩ (.int .i64 (en : Int))).setCell ⟨B, 5, none⟩ (.int .i64 0)).frozen? p = Y.frozen? p := fun p => by
    rw [World.frozen?_setCell, World.frozen?_setCell]
    show (X.setCell ⟨B, 4, none⟩ _).frozen? p = _
    rw [World.frozen?_setCell]
    exact xF p
  have yS : ((((X.setCell ⟨B, 4, none⟩ (.slice (some ⟨N, 0, none⟩) M M)).drewN q).setCell ⟨B, 6, none⟩ (.int .i64 (en : Int))).setCell ⟨B, 5, none⟩ (.int .i64 0)).heap.size = N + 1 := by
    rw [size_setCell, size_setCell]
    show (X.setCell ⟨B, 4, none⟩ _).heap.size = _
    rw [size_setCell]
    exact xS
  have z4 : ((((X.setCell ⟨B, 4, none⟩ (.slice (some ⟨N, 0, none⟩) M M)).drewN q).setCell ⟨B, 6, none⟩ (.int .i64 (en : Int))).setCell ⟨B, 5, none⟩ (.int .i64 0)).cell? ⟨B, 4, none⟩ = some (bufV N M) := by
    rw [othO (by simp), othO (by simp)]
    have : X.cell? ⟨B, 4, none⟩ = some (bufV K m) := ((xO ⟨B, 4, none⟩ BK).trans (aC _ rB)).trans h.c4
    have e : bufV N M = .slice (some ⟨N, 0, none⟩) M M := by unfold bufV; rw [if_neg (by omega)]
    rw [e]
    exact World.cell?_setCell_same (h := this) ..
  have z5 : ((((X.setCell ⟨B, 4, none⟩ (.slice (some ⟨N, 0, none⟩) M M)).drewN q).setCell ⟨B, 6, none⟩ (.int .i64 (en : Int))).setCell ⟨B, 5, none⟩ (.int .i64 0)).cell? ⟨B, 5, none⟩ = some (.int .i64 0) := by
    have : (((X.setCell ⟨B, 4, none⟩ (.slice (some ⟨N, 0, none⟩) M M)).drewN q).setCell ⟨B, 6, none⟩ (.int .i64 (en : Int))).cell? ⟨B, 5, none⟩ = some (.int .i64 0) := by
      rw [othO (by simp)]
      show (X.setCell ⟨B, 4, none⟩ _).cell? ⟨B, 5, none⟩ = _
      rw [othO (by simp)]
      exact ((xO ⟨B, 5, none⟩ BK).trans (aC _ rB)).trans h.c5
    exact World.cell?_setCell_same (h := this) ..
  have z6 : ((((X.setCell ⟨B, 4, none⟩ (.slice (some ⟨N, 0, none⟩) M M)).drewN q).setCell ⟨B, 6, none⟩ (.int .i64 (en : Int))).setCell ⟨B, 5, none⟩ (.int .i64 0)).cell? ⟨B, 6, none⟩ = some (.int .i64 (en : Int)) := by
    rw [othO (by simp)]
    have : ((X.setCell ⟨B, 4, none⟩ (.slice (some ⟨N, 0, none⟩) M M)).drewN q).cell? ⟨B, 6, none⟩ = some (.int .i64 (en : Int)) := by
      show (X.setCell ⟨B, 4, none⟩ _).cell? ⟨B, 6, none⟩ = _
      rw [othO (by simp)]
      exact ((xO ⟨B, 6, none⟩ BK).trans (aC _ rB)).trans h.c6
    exact World.cell?_setCell_same (h := this) ..
  exact h.anew (by rw [yS]; omega) (fun o ho => yB o (by omega) (by omega) (by omega)) (by rw [yB 3 (by omega) (by omega) (by omega)]; exact h.c3) (by rw [yB 8 (by omega) (by omega) (by omega)]; exact h.c8) (by rw [yB 9 (by omega) (by omega) (by omega)]; exact h.c9) z4 z5 z6 ((yB 7 (by omega) (by omega) (by omega)).trans h.c7)
    (fun o => (yF _).trans (aF _ rB)) (((yO _ RB).trans (xO _ RK)).trans (aC _ rR)) ((((yO _ RB).trans (xO _ RK)).trans (aC _ rR)).trans h.r1) (by rw [yO _ RB, xO _ RK, aC _ rR]; exact h.r2) (fun o => (yF _).trans (aF _ rR)) (fun _ => ⟨fun e => BK e.symm, fun e => RK e.symm, by rw [yS]; omega⟩) (fun _ => by omega)
    (fun o ho => by
      rw [yO _ (fun e => BK e.symm)]
      by_cases hon : o < en
      · have := xI o hon
        rw [Nat.zero_add] at this
        rw [this]
        rfl
      · rw [xH o (by omega)]
        exact aN o ho)
    (fun _ o => (yF _).trans (aG o)) (fun j hj => by rw [yO _ (fun e => BK e.symm)]; exact xI j (by omega)) ⟨Nat.zero_le _, by omega, hM2⟩ (by omega) h.inS
end
end Go.Proofs.Qxb6613145aFmt
