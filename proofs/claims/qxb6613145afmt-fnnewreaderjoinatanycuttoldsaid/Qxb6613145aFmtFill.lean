/- Seat b6613145aF: what shift, growth and a read leave, outside the walk. -/
import Derived.Test.Qxb6613145aFmtSteps
import Derived.Laws.MakeOwn
import Derived.OwnWalk
namespace Go.Proofs.Qxb6613145aFmt
open Go.RowKit
set_option linter.unusedVariables false

theorem size_setCells (b : Nat) : ∀ (vs : List Value) (o : Nat) (w : World), (w.setCells b o vs).heap.size = w.heap.size
  | [], _, _ => rfl
  | v :: r, o, w => by
    rw [World.setCells, size_setCells b r]
    simp [World.setCell]
theorem addr_add (b o i : Nat) : (⟨b, o, none⟩ : Addr).add i = ⟨b, o + i, none⟩ := by simp [Addr.add]
theorem info5 : (Tryf.prog.info? 5).map (·.size) = some 1 := by kernel_rfl
theorem info5z : (Tryf.prog.info? 5).map (fun i => (i.zero, i.size, i.bytes)) = some (some (.int .u8 0), 1, 1) := by kernel_rfl
theorem got_get (S : ByteArray) (i k j : Nat) (hj : j < k) : (got S i k)[j]? = some (.int .u8 (gB S (i + j))) := by simp [got, hj]

/-- The cells of a block behind 'setCells'. -/
theorem cells_in {w : World} {b o k : Nat} {S : ByteArray} {i : Nat} (hc : ∀ j, j < k → (w.cell? ⟨b, o + j, none⟩).isSome = true) (j : Nat) (hj : j < k) : (w.setCells b o (got S i k)).cell? ⟨b, o + j, none⟩ = some (.int .u8 (gB S (i + j))) := by
  have := World.cell?_setCells_in b (got S i k) o w (fun j hj => hc j (by rw [got_length] at hj; exact hj)) j (by rw [got_length]; exact hj)
  rw [this]
  simp [got]
theorem cells_out {w : World} {b o k : Nat} {S : ByteArray} {i : Nat} (a : Addr) (h : a.block ≠ b ∨ (a.block = b ∧ (a.off < o ∨ o + k ≤ a.off))) : (w.setCells b o (got S i k)).cell? a = w.cell? a :=
  World.cell?_setCells_out b _ o w a (fun h1 _ => by rcases h with h | h; exact absurd h1 h; rw [got_length]; exact h.2)

/-- copy within the buffer, or into a new one. -/
theorem copy_buf (N K st n k c m : Nat) (S : ByteArray) (pos : Nat) (w : World) (hk : k = min n m) (hl : Lies w K st k (fun j => gB S (pos + j))) (hc : ∀ j, j < k → (w.cell? ⟨N, 0 + j, none⟩).isSome = true) (hf : ∀ j, j < k → w.frozen? ⟨N, 0 + j, none⟩ = false) :
    (Builtin.copy_ #[65, 65] 3 #[.slice (some ⟨N, 0, none⟩) m m, .slice (some ⟨K, st, none⟩) n c]).run Tryf.prog w = .ok (.int .i64 (k : Int)) (w.setCells N 0 (got S pos k)) := by
  have h := run_copy_cells (P := Tryf.prog) w 65 65 3 5 N 0 m m ⟨K, st, none⟩ n c (got S pos k) Tryf.underlying65 info5 (by rw [got_length]; exact hk)
    (fun j v hj => by
      rw [addr_add]
      by_cases hjk : j < k
      · rw [got_get S pos k j hjk] at hj
        rw [← hj]
        exact hl j hjk
      · rw [List.getElem?_eq_none (by rw [got_length]; omega)] at hj
        cases hj)
    (fun j hj => hc j (by rw [got_length] at hj; exact hj)) (fun j hj => hf j (by rw [got_length] at hj; exact hj)) (fun v hv => by
      obtain ⟨x, _, rfl⟩ := List.mem_map.1 hv
      rfl)
  rw [got_length] at h
  exact h

theorem make_c (n : Nat) (hn : n ≤ 1048576) (w : World) : ∃ A : Array Value, (Instr.makeSlice 65 (.int .i64 (n : Int)) (.int .i64 (n : Int))).run Tryf.prog w = .ok (.slice (some ⟨w.heap.size, 0, none⟩) n n) (w.alloc (.cells A 5)) ∧ A.size = n := by
  obtain ⟨i0, hi, hz0, hz1, hz2⟩ := info_parts info5z
  have h := run_make (P := Tryf.prog) w 65 5 i0 (.int .u8 0) Tryf.underlying65 hi hz0 .i64 .i64 n n (by omega) (by omega) (by rw [hz2]; omega) (by omega)
  simp only [Int.toNat_natCast] at h
  exact ⟨_, h, by rw [size_madeCells, hz1]; simp⟩

theorem othB {w : World} {v : Value} {a p : Addr} (h : p.block ≠ a.block) : (w.setCell a v).cell? p = w.cell? p := World.cell?_setCell_other (h := fun e => h (by rw [e])) ..
theorem othO {w : World} {v : Value} {a p : Addr} (h : p.off ≠ a.off) : (w.setCell a v).cell? p = w.cell? p := World.cell?_setCell_other (h := fun e => h (by rw [e])) ..

section
variable {B R K : Nat} {S : ByteArray} {w : World} {pos i st en m : Nat} {err : Value}

/-- A new world with all that a scanner wants. -/
theorem Sc.anew (h : Sc B R K S w pos i st en m err) {w' : World} {K' pos' i' st' en' m' : Nat} {err' : Value} (hsz : w.heap.size ≤ w'.heap.size)
    (cB : ∀ o, o = 0 ∨ o = 1 ∨ o = 2 ∨ o = 10 → w'.cell? ⟨B, o, none⟩ = w.cell? ⟨B, o, none⟩) (s3 : ∃ v, w'.cell? ⟨B, 3, none⟩ = some v) (s8 : ∃ v, w'.cell? ⟨B, 8, none⟩ = some v) (s9 : ∃ v, w'.cell? ⟨B, 9, none⟩ = some v)
    (n4 : w'.cell? ⟨B, 4, none⟩ = some (bufV K' m')) (n5 : w'.cell? ⟨B, 5, none⟩ = some (.int .i64 (st' : Int))) (n6 : w'.cell? ⟨B, 6, none⟩ = some (.int .i64 (en' : Int))) (n7 : w'.cell? ⟨B, 7, none⟩ = some err')
    (fB : ∀ o, w'.frozen? ⟨B, o, none⟩ = w.frozen? ⟨B, o, none⟩) (cR : w'.cell? ⟨R, 0, none⟩ = w.cell? ⟨R, 0, none⟩) (n1 : w'.cell? ⟨R, 1, none⟩ = some (.int .i64 (i' : Int))) (s2 : ∃ v, w'.cell? ⟨R, 2, none⟩ = some v) (fR : ∀ o, w'.frozen? ⟨R, o, none⟩ = w.frozen? ⟨R, o, none⟩)
    (bK : 0 < m' → K' ≠ B ∧ K' ≠ R ∧ K' < w'.heap.size) (k6 : 0 < m' → 6 < K') (room : ∀ o, o < m' → (w'.cell? ⟨K', o, none⟩).isSome = true) (fK : 0 < m' → ∀ o, w'.frozen? ⟨K', o, none⟩ = false)
    (lies : Lies w' K' st' (en' - st') (fun j => gB S (pos' + j))) (ord : st' ≤ en' ∧ en' ≤ m' ∧ m' ≤ 300000) (hat : pos' + (en' - st') = i') (inS : i' ≤ S.size) : Sc B R K' S w' pos' i' st' en' m' err' := {
  bR := h.bR
  b6 := h.b6
  r6 := h.r6
  k6 := k6
  rB := Nat.lt_of_lt_of_le h.rB hsz
  rR := Nat.lt_of_lt_of_le h.rR hsz
  bK := bK
  c0 := (cB 0 (by omega)).trans h.c0
  c1 := (cB 1 (by omega)).trans h.c1
  c2 := (cB 2 (by omega)).trans h.c2
  c3 := s3
  c4 := n4
  c5 := n5
  c6 := n6
  c7 := n7
  c8 := s8
  c9 := s9
  c10 := (cB 10 (by omega)).trans h.c10
  fB := fun o => (fB o).trans (h.fB o)
  r0 := cR.trans h.r0
  r1 := n1
  r2 := s2
  fR := fun o => (fR o).trans (h.fR o)
  room := room
  fK := fK
  lies := lies
  ord := ord
  at_ := hat
  inS := inS
  small := h.small }

/-- The read's bytes are in the buffer, the end has moved. -/
theorem Sc.read (h : Sc B R K S w pos i st en m err) (hm : 0 < m) (k q : Nat) (hk : i + k ≤ S.size) (hk2 : en + k ≤ m) (z : Int) (hz : z = ((en + k : Nat) : Int)) (v8 : Value) :
    Sc B R K S ((((((w.setCell ⟨R, 2, none⟩ (.int .i64 (-1))).setCells K en (got S i k)).setCell ⟨R, 1, none⟩ (.int .i64 ((i + k : Nat) : Int))).drewN q).setCell ⟨B, 6, none⟩ (.int .i64 z)).setCell ⟨B, 8, none⟩ v8) pos (i + k) st (en + k) m err := by
  subst hz
  obtain ⟨kB, kR, kw⟩ := h.bK hm
  have hord := h.ord
  have hat := h.at_
  have bR := h.bR
  have hc1 : ∀ j, j < k → ((w.setCell ⟨R, 2, none⟩ (.int .i64 (-1))).cell? ⟨K, en + j, none⟩).isSome = true := fun j hj => by
    rw [othB (by simpa using kR)]
    exact h.room _ (by omega)
  have xB : ∀ o, (((w.setCell ⟨R, 2, none⟩ (.int .i64 (-1))).setCells K en (got S i k)).setCell ⟨R, 1, none⟩ (.int .i64 ((i + k : Nat) : Int))).cell? ⟨B, o, none⟩ = w.cell? ⟨B, o, none⟩ := fun o => by
    rw [othB (by simpa using bR), cells_out ⟨B, o, none⟩ (Or.inl (by simpa using fun e => kB e.symm)), othB (by simpa using bR)]
  have xR : ∀ o, o ≠ 1 → o ≠ 2 → (((w.setCell ⟨R, 2, none⟩ (.int .i64 (-1))).setCells K en (got S i k)).setCell ⟨R, 1, none⟩ (.int .i64 ((i + k : Nat) : Int))).cell? ⟨R, o, none⟩ = w.cell? ⟨R, o, none⟩ := fun o h1 h2 => by
    rw [othO (by simpa using h1), cells_out ⟨R, o, none⟩ (Or.inl (by simpa using fun e => kR e.symm)), othO (by simpa using h2)]
  have xK : ∀ o, (((w.setCell ⟨R, 2, none⟩ (.int .i64 (-1))).setCells K en (got S i k)).setCell ⟨R, 1, none⟩ (.int .i64 ((i + k : Nat) : Int))).cell? ⟨K, o, none⟩ = ((w.setCell ⟨R, 2, none⟩ (.int .i64 (-1))).setCells K en (got S i k)).cell? ⟨K, o, none⟩ := fun o => by
    rw [othB (by simpa using kR)]
  have xF : ∀ p, (((w.setCell ⟨R, 2, none⟩ (.int .i64 (-1))).setCells K en (got S i k)).setCell ⟨R, 1, none⟩ (.int .i64 ((i + k : Nat) : Int))).frozen? p = w.frozen? p := fun p => by
    rw [World.frozen?_setCell, World.frozen?_setCells, World.frozen?_setCell]
  have xS : (((w.setCell ⟨R, 2, none⟩ (.int .i64 (-1))).setCells K en (got S i k)).setCell ⟨R, 1, none⟩ (.int .i64 ((i + k : Nat) : Int))).heap.size = w.heap.size := by
    have e1 : ∀ (x : World) a v, (x.setCell a v).heap.size = x.heap.size := fun x a v => by simp [World.setCell]
    rw [e1, size_setCells, e1]
  have x1 : (((w.setCell ⟨R, 2, none⟩ (.int .i64 (-1))).setCells K en (got S i k)).setCell ⟨R, 1, none⟩ (.int .i64 ((i + k : Nat) : Int))).cell? ⟨R, 1, none⟩ = some (.int .i64 ((i + k : Nat) : Int)) := by
    have : ((w.setCell ⟨R, 2, none⟩ (.int .i64 (-1))).setCells K en (got S i k)).cell? ⟨R, 1, none⟩ = some (.int .i64 (i : Int)) := by
      rw [cells_out ⟨R, 1, none⟩ (Or.inl (by simpa using fun e => kR e.symm)), othO (by simp)]
      exact h.r1
    exact World.cell?_setCell_same (h := this) ..
  have x2 : ∃ v, (((w.setCell ⟨R, 2, none⟩ (.int .i64 (-1))).setCells K en (got S i k)).setCell ⟨R, 1, none⟩ (.int .i64 ((i + k : Nat) : Int))).cell? ⟨R, 2, none⟩ = some v := by
    obtain ⟨v, hv⟩ := h.r2
    rw [othO (by simp), cells_out ⟨R, 2, none⟩ (Or.inl (by simpa using fun e => kR e.symm))]
    exact ⟨_, World.cell?_setCell_same (h := hv) ..⟩
  have xL : ∀ j, j < en + k - st → (((w.setCell ⟨R, 2, none⟩ (.int .i64 (-1))).setCells K en (got S i k)).setCell ⟨R, 1, none⟩ (.int .i64 ((i + k : Nat) : Int))).cell? ⟨K, st + j, none⟩ = some (.int .u8 (gB S (pos + j))) := fun j hj => by
    rw [xK]
    by_cases hlt : st + j < en
    · rw [cells_out ⟨K, st + j, none⟩ (Or.inr ⟨rfl, Or.inl hlt⟩), othB (by simpa using kR)]
      exact h.lies j (by omega)
    · obtain ⟨t, ht⟩ : ∃ t, st + j = en + t := ⟨st + j - en, by omega⟩
      rw [ht, cells_in hc1 t (by omega), show pos + j = i + t by omega]
  have xO : ∀ o, o < m → ((((w.setCell ⟨R, 2, none⟩ (.int .i64 (-1))).setCells K en (got S i k)).setCell ⟨R, 1, none⟩ (.int .i64 ((i + k : Nat) : Int))).cell? ⟨K, o, none⟩).isSome = true := fun o ho => by
    rw [xK]
    by_cases hin : en ≤ o ∧ o < en + k
    · obtain ⟨t, ht⟩ : ∃ t, o = en + t := ⟨o - en, by omega⟩
      rw [ht, cells_in hc1 t (by omega)]
      rfl
    · rw [cells_out ⟨K, o, none⟩ (Or.inr ⟨rfl, by show o < en ∨ en + k ≤ o; omega⟩), othB (by simpa using kR)]
      exact h.room o ho
  generalize (((w.setCell ⟨R, 2, none⟩ (.int .i64 (-1))).setCells K en (got S i k)).setCell ⟨R, 1, none⟩ (.int .i64 ((i + k : Nat) : Int))) = X at xB xR xK xF xS x1 x2 xL xO
  have yB : ∀ o, o ≠ 6 → o ≠ 8 → (((X.drewN q).setCell ⟨B, 6, none⟩ (.int .i64 ((en + k : Nat) : Int))).setCell ⟨B, 8, none⟩ v8).cell? ⟨B, o, none⟩ = w.cell? ⟨B, o, none⟩ := fun o h6 h8 => by
    rw [othO (by simpa using h8), othO (by simpa using h6)]
    exact xB o
  have yO : ∀ p : Addr, p.block ≠ B → (((X.drewN q).setCell ⟨B, 6, none⟩ (.int .i64 ((en + k : Nat) : Int))).setCell ⟨B, 8, none⟩ v8).cell? p = X.cell? p := fun p hp => by
    rw [othB (by simpa using hp), othB (by simpa using hp)]
    rfl
  have yF : ∀ p, (((X.drewN q).setCell ⟨B, 6, none⟩ (.int .i64 ((en + k : Nat) : Int))).setCell ⟨B, 8, none⟩ v8).frozen? p = w.frozen? p := fun p => by
    rw [World.frozen?_setCell, World.frozen?_setCell]
    exact xF p
  have yS : (((X.drewN q).setCell ⟨B, 6, none⟩ (.int .i64 ((en + k : Nat) : Int))).setCell ⟨B, 8, none⟩ v8).heap.size = w.heap.size := by
    have e1 : ∀ (x : World) a v, (x.setCell a v).heap.size = x.heap.size := fun x a v => by simp [World.setCell]
    rw [e1, e1]
    exact xS
  have RB : R ≠ B := fun e => bR e.symm
  refine h.anew (by rw [yS]; exact Nat.le_refl _) (fun o ho => yB o (by omega) (by omega)) (by rw [yB 3 (by omega) (by omega)]; exact h.c3) ?_ (by rw [yB 9 (by omega) (by omega)]; exact h.c9) ((yB 4 (by omega) (by omega)).trans h.c4) ((yB 5 (by omega) (by omega)).trans h.c5) ?_ ((yB 7 (by omega) (by omega)).trans h.c7)
    (fun o => yF _) ((yO _ RB).trans (xR 0 (by omega) (by omega))) ((yO _ RB).trans x1) (by rw [yO _ RB]; exact x2) (fun o => yF _) (fun _ => ⟨kB, kR, by rw [yS]; exact kw⟩) h.k6 (fun o ho => by rw [yO _ kB]; exact xO o ho) (fun _ o => (yF _).trans (h.fK hm o)) (fun j hj => by rw [yO _ kB]; exact xL j hj) ⟨by omega, hk2, hord.2.2⟩ (by omega) hk
  · obtain ⟨v, hv⟩ := h.c8
    have : ((X.drewN q).setCell ⟨B, 6, none⟩ (.int .i64 ((en + k : Nat) : Int))).cell? ⟨B, 8, none⟩ = some v := by
      rw [othO (by simp)]
      exact (xB 8).trans hv
    exact ⟨_, World.cell?_setCell_same (h := this) ..⟩
  · rw [othO (by simp)]
    have : (X.drewN q).cell? ⟨B, 6, none⟩ = some (.int .i64 (en : Int)) := (xB 6).trans h.c6
    exact World.cell?_setCell_same (h := this) ..
end
end Go.Proofs.Qxb6613145aFmt
