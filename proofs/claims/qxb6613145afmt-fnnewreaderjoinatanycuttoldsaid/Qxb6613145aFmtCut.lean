/- Seat b6613145aF: Scan's body in pieces: the loop's body is taken out of the translation by a function; the frame is one letter. -/
import Derived.Test.Qxb6613145aFmtGrow
import Derived.Laws.IdiomCopy
namespace Go.Proofs.Qxb6613145aFmt
open Go.RowKit
set_option linter.unusedVariables false

def lp : Code → Option Code
  | .loop c => some c
  | .seq a b => match lp a with
    | some c => some c
    | none => lp b
  | .block _ c => lp c
  | .scope c => lp c
  | .cond _ a b => match lp a with
    | some c => some c
    | none => lp b
  | _ => none
def fs : Code → Code
  | .seq a _ => a
  | c => c
def sn : Code → Code
  | .seq _ b => b
  | c => c
def thn : Code → Code
  | .cond _ t _ => t
  | c => c
def inb : Code → Code
  | .block _ c => c
  | c => c

/-- Scan's frame: slot 0 holds the receiver, the others whatever. -/
def frame (B : Nat) (c : Nat → Value) : Act := ⟨#[.pointer (some ⟨B, 0, none⟩), c 1, c 2, c 3, c 4, c 5, c 6, c 7, c 8, c 9, c 10, c 11, c 12, c 13, c 14, c 15, c 16, c 17, c 18, c 19, c 20, c 21, c 22, c 23, c 24, c 25, c 26, c 27, c 28, c 29, c 30, c 31, c 32, c 33, c 34, c 35, c 36, c 37, c 38, c 39, c 40, c 41, c 42, c 43, c 44, c 45, c 46, c 47, c 48, c 49, c 50, c 51, c 52, c 53, c 54, c 55, c 56, c 57, c 58, c 59, c 60, c 61, c 62, c 63, c 64, c 65, c 66, c 67, c 68, c 69, c 70, c 71, c 72, c 73, c 74, c 75, c 76, c 77, c 78, c 79, c 80, c 81, c 82, c 83, c 84, c 85, c 86, c 87, c 88, c 89, c 90, c 91, c 92, c 93, c 94, c 95, c 96, c 97, c 98, c 99, c 100, c 101, c 102, c 103, c 104, c 105, c 106, c 107, c 108, c 109, c 110, c 111, c 112, c 113, c 114, c 115, c 116, c 117, c 118, c 119, c 120, c 121, c 122, c 123, c 124, c 125, c 126, c 127, c 128, c 129, c 130, c 131, c 132, c 133, c 134, c 135, c 136, c 137, c 138, c 139, c 140, c 141, c 142, c 143, c 144, c 145, c 146, c 147, c 148, c 149, c 150, c 151, c 152, c 153, c 154, c 155, c 156, c 157, c 158, c 159, c 160, c 161, c 162, c 163, c 164, c 165, c 166, c 167, c 168, c 169, c 170, c 171, c 172, c 173, c 174, c 175, c 176, c 177, c 178, c 179, c 180, c 181, c 182, c 183, c 184, c 185, c 186, c 187, c 188, c 189, c 190, c 191, c 192, c 193, c 194, c 195, c 196, c 197, c 198, c 199, c 200, c 201, c 202, c 203, c 204, c 205, c 206, c 207, c 208, c 209, c 210, c 211, c 212, c 213, c 214, c 215, c 216, c 217, c 218, c 219, c 220, c 221, c 222, c 223, c 224, c 225, c 226, c 227, c 228, c 229, c 230, c 231, c 232, c 233, c 234, c 235, c 236, c 237, c 238, c 239, c 240, c 241, c 242, c 243, c 244, c 245, c 246, c 247, c 248, c 249, c 250, c 251, c 252, c 253, c 254, c 255, c 256, c 257, c 258, c 259, c 260, c 261, c 262, c 263, c 264, c 265, c 266, c 267, c 268, c 269, c 270, c 271, c 272, c 273, c 274, c 275, c 276, c 277, c 278, c 279, c 280, c 281, c 282, c 283, c 284, c 285, c 286, c 287, c 288, c 289, c 290, c 291, c 292, c 293, c 294, c 295, c 296, c 297, c 298, c 299, c 300, c 301, c 302, c 303, c 304, c 305, c 306, c 307, c 308, c 309, c 310, c 311, c 312, c 313, c 314, c 315, c 316, c 317, c 318, c 319, c 320, c 321, c 322, c 323, c 324, c 325, c 326, c 327, c 328, c 329, c 330, c 331, c 332, c 333], []⟩
def Fr (B : Nat) (a : Act) : Prop := a.tmps.size = 334 ∧ a.tmps[0]? = some (.pointer (some ⟨B, 0, none⟩)) ∧ a.defers = []

set_option maxRecDepth 100000 in
theorem unroll (f : Nat → Value) : (List.range 334).map f = [f 0, f 1, f 2, f 3, f 4, f 5, f 6, f 7, f 8, f 9, f 10, f 11, f 12, f 13, f 14, f 15, f 16, f 17, f 18, f 19, f 20, f 21, f 22, f 23, f 24, f 25, f 26, f 27, f 28, f 29, f 30, f 31, f 32, f 33, f 34, f 35, f 36, f 37, f 38, f 39, f 40, f 41, f 42, f 43, f 44, f 45, f 46, f 47, f 48, f 49, f 50, f 51, f 52, f 53, f 54, f 55, f 56, f 57, f 58, f 59, f 60, f 61, f 62, f 63, f 64, f 65, f 66, f 67, f 68, f 69, f 70, f 71, f 72, f 73, f 74, f 75, f 76, f 77, f 78, f 79, f 80, f 81, f 82, f 83, f 84, f 85, f 86, f 87, f 88, f 89, f 90, f 91, f 92, f 93, f 94, f 95, f 96, f 97, f 98, f 99, f 100, f 101, f 102, f 103, f 104, f 105, f 106, f 107, f 108, f 109, f 110, f 111, f 112, f 113, f 114, f 115, f 116, f 117, f 118, f 119, f 120, f 121, f 122, f 123, f 124, f 125, f 126, f 127, f 128, f 129, f 130, f 131, f 132, f 133, f 134, f 135, f 136, f 137, f 138, f 139, f 140, f 141, f 142, f 143, f 144, f 145, f 146, f 147, f 148, f 149, f 150, f 151, f 152, f 153, f 154, f 155, f 156, f 157, f 158, f 159, f 160, f 161, f 162, f 163, f 164, f 165, f 166, f 167, f 168, f 169, f 170, f 171, f 172, f 173, f 174, f 175, f 176, f 177, f 178, f 179, f 180, f 181, f 182, f 183, f 184, f 185, f 186, f 187, f 188, f 189, f 190, f 191, f 192, f 193, f 194, f 195, f 196, f 197, f 198, f 199, f 200, f 201, f 202, f 203, f 204, f 205, f 206, f 207, f 208, f 209, f 210, f 211, f 212, f 213, f 214, f 215, f 216, f 217, f 218, f 219, f 220, f 221, f 222, f 223, f 224, f 225, f 226, f 227, f 228, f 229, f 230, f 231, f 232, f 233, f 234, f 235, f 236, f 237, f 238, f 239, f 240, f 241, f 242, f 243, f 244, f 245, f 246, f 247, f 248, f 249, f 250, f 251, f 252, f 253, f 254, f 255, f 256, f 257, f 258, f 259, f 260, f 261, f 262, f 263, f 264, f 265, f 266, f 267, f 268, f 269, f 270, f 271, f 272, f 273, f 274, f 275, f 276, f 277, f 278, f 279, f 280, f 281, f 282, f 283, f 284, f 285, f 286, f 287, f 288, f 289, f 290, f 291, f 292, f 293, f 294, f 295, f 296, f 297, f 298, f 299, f 300, f 301, f 302, f 303, f 304, f 305, f 306, f 307, f 308, f 309, f 310, f 311, f 312, f 313, f 314, f 315, f 316, f 317, f 318, f 319, f 320, f 321, f 322, f 323, f 324, f 325, f 326, f 327, f 328, f 329, f 330, f 331, f 332, f 333] := rfl

set_option maxRecDepth 100000 in
theorem fr_open {B : Nat} {a : Act} (h : Fr B a) : ∃ c, a = frame B c := by
  obtain ⟨t, d⟩ := a
  obtain ⟨h1, h2, h3⟩ := h
  simp only at h1 h2 h3
  refine ⟨fun k => t.getD k (.bool false), ?_⟩
  have e : t = ((List.range 334).map (fun k => t.getD k (.bool false))).toArray := by
    apply Array.ext
    · simp [h1]
    · intro i hi hj
      simp [Array.getD, hi]
  rw [unroll] at e
  have e0 : t.getD 0 (.bool false) = .pointer (some ⟨B, 0, none⟩) := by
    rw [Array.getD_eq_getD_getElem?, h2]
    rfl
  rw [e0] at e
  rw [h3]
  unfold frame
  exact congrArg (fun x => Act.mk x []) e

theorem make_all (n : Nat) (hn : n ≤ 1048576) : ∃ A : Array Value, A.size = n ∧ ∀ w, (Instr.makeSlice 65 (.int .i64 (n : Int)) (.int .i64 (n : Int))).run Tryf.prog w = .ok (.slice (some ⟨w.heap.size, 0, none⟩) n n) (w.alloc (.cells A 5)) := by
  obtain ⟨i0, hi, hz0, hz1, hz2⟩ := info_parts info5z
  have key : ∀ w : World, _ := fun w => run_make (P := Tryf.prog) w 65 5 i0 (.int .u8 0) Tryf.underlying65 hi hz0 .i64 .i64 n n (by omega) (by omega) (by rw [hz2]; omega) (by omega)
  simp only [Int.toNat_natCast] at key
  exact ⟨_, by rw [size_madeCells, hz1]; simp, key⟩
/-- What stands behind a growth: the new block, then the bytes in it. -/
theorem grown (K1 en : Nat) (M : Nat) (hM : M ≤ 1048576) (he : en ≤ M) (B R pos i m : Nat) (S : ByteArray) (err : Value) (w : World) (hS : Sc B R K1 S w pos i 0 en m err) :
    ∃ A : Array Value, A.size = M ∧ ∃ Y X : World, Y = w.alloc (.cells A 5) ∧ X = Y.setCells w.heap.size 0 (got S pos en) ∧
      ((Instr.makeSlice 65 (.int .i64 (M : Int)) (.int .i64 (M : Int))).run Tryf.prog w = .ok (.slice (some ⟨w.heap.size, 0, none⟩) M M) Y) ∧
      (0 < en → (Builtin.copy_ #[65, 65] 3 #[.slice (some ⟨w.heap.size, 0, none⟩) M M, .slice (some ⟨K1, 0, none⟩) en en]).run Tryf.prog Y.drew = .ok (.int .i64 (en : Int)) X.drew) ∧
      (en = 0 → (Builtin.copy_ #[65, 65] 3 #[.slice (some ⟨w.heap.size, 0, none⟩) M M, .slice none 0 0]).run Tryf.prog Y.drew = .ok (.int .i64 0) X.drew) ∧
      (∀ o, Y.cell? ⟨B, o, none⟩ = w.cell? ⟨B, o, none⟩) ∧ (∀ o, X.cell? ⟨B, o, none⟩ = w.cell? ⟨B, o, none⟩) ∧ (∀ o, X.frozen? ⟨B, o, none⟩ = false) := by
  obtain ⟨A, hA, hmk⟩ := make_all M hM
  have rB := hS.rB
  have yC : ∀ p : Addr, p.block < w.heap.size → (w.alloc (.cells A 5)).cell? p = w.cell? p := fun p hp => by
    unfold World.cell?
    rw [Below.heap_alloc _ _ _ hp]
  have yF : ∀ p : Addr, p.block < w.heap.size → (w.alloc (.cells A 5)).frozen? p = w.frozen? p := fun p hp => by
    unfold World.frozen?
    rw [Below.heap_alloc _ _ _ hp]
  have xC : ∀ o, ((w.alloc (.cells A 5)).setCells w.heap.size 0 (got S pos en)).cell? ⟨B, o, none⟩ = w.cell? ⟨B, o, none⟩ := fun o => by
    rw [cells_out ⟨B, o, none⟩ (Or.inl (by show B ≠ w.heap.size; omega))]
    exact yC _ rB
  refine ⟨A, hA, _, _, rfl, rfl, hmk w, fun h0 => ?_, fun h0 => ?_, fun o => yC _ rB, xC, fun o => ?_⟩
  · have hm0 : 0 < m := by have := hS.ord; omega
    rw [copy_buf w.heap.size K1 0 en en en M S pos _ (by omega) (fun j hj => ?_) (fun j hj => ?_) (fun j hj => ?_)]
    · congr 1
      exact drewN_setCells _ 1 (got S pos en) 0 _
    · exact (yC ⟨K1, 0 + j, none⟩ (hS.bK hm0).2.2).trans (hS.lies j (by omega))
    · show ((w.alloc (.cells A 5)).cell? ⟨w.heap.size, 0 + j, none⟩).isSome = true
      rw [World.cell?_alloc_at (hn := rfl)]
      simp [show j < A.size by omega]
    · show (w.alloc (.cells A 5)).frozen? ⟨w.heap.size, 0 + j, none⟩ = false
      rw [World.frozen?_alloc_at (hn := rfl)]
  · subst h0
    rw [run_copy_none (P := Tryf.prog) _ 65 65 3 5 _ _ M M 0 0 Tryf.underlying65 info5 (by simp)]
    rfl
  · rw [World.frozen?_setCells, yF _ rB]
    exact hS.fB o

theorem mine_of {B R K m K1 m1 : Nat} {w : World} (hK : K1 = K ∧ 0 < m ∨ w.heap.size ≤ K1) : Mine B R K m K1 ∨ w.heap.size ≤ K1 := by
  rcases hK with ⟨rfl, h⟩ | h
  · exact Or.inl (Or.inr (Or.inr ⟨h, rfl⟩))
  · exact Or.inr h
theorem Apart.setCells_ {B R K m K1 i1 st1 en1 m1 pos : Nat} {S : ByteArray} {err1 : Value} {w W : World} (hA : Apart (Mine B R K m) w W) (hS : Sc B R K1 S W pos i1 st1 en1 m1 err1) (hK : K1 = K ∧ 0 < m ∨ w.heap.size ≤ K1) (n : Nat) : Apart (Mine B R K m) w (W.setCells K1 0 (got S pos n)) :=
  Apart.setCells (mine_of (m1 := m1) hK) _ _ _ hA

/-- What stands behind a shift. -/
theorem shifted {B R K pos i st en m : Nat} {S : ByteArray} {err : Value} {w : World} (hS : Sc B R K S w pos i st en m err) (hm : 0 < m) (n o : Nat) (hn : n = en - st) (ho : 0 < n → o = st) (c : Nat) :
    ∃ X : World, X = w.setCells K 0 (got S pos n) ∧ ((Builtin.copy_ #[65, 65] 3 #[.slice (some ⟨K, 0, none⟩) m m, .slice (some ⟨K, o, none⟩) n c]).run Tryf.prog w.drew = .ok (.int .i64 (n : Int)) X.drew) ∧
      (∀ o, X.cell? ⟨B, o, none⟩ = w.cell? ⟨B, o, none⟩) ∧ (∀ o, X.frozen? ⟨B, o, none⟩ = false) := by
  have hfK := hS.fK hm
  have hord := hS.ord
  refine ⟨_, rfl, ?_, fun o => cells_out ⟨B, o, none⟩ (Or.inl (fun e => (hS.bK hm).1 e.symm)), fun o => by rw [World.frozen?_setCells]; exact hS.fB o⟩
  rw [copy_buf K K o n n c m S pos w.drew (by omega) (fun j hj => by rw [ho (by omega)]; exact hS.lies j (by omega)) (fun j hj => hS.room _ (by omega)) (fun j hj => hfK _)]
  congr 1
  exact drewN_setCells K 1 (got S pos n) 0 w

/-- What stands behind a read of some bytes. -/
theorem rdsome {B R K pos i st en m : Nat} {S : ByteArray} {err : Value} {w : World} (hS : Sc B R K S w pos i st en m err) (hlt : en < m) (hi : i < S.size) (k : Nat) (hk : k = min (m - en) (S.size - i)) :
    ∃ X : World, X = ((w.setCell ⟨R, 2, none⟩ (.int .i64 (-1))).setCells K en (got S i k)).setCell ⟨R, 1, none⟩ (.int .i64 ((i + k : Nat) : Int)) ∧
      Calls Tryf.prog 59 #[.pointer (some ⟨R, 0, none⟩), .slice (some ⟨K, en, none⟩) (m - en) (m - en)] w.drew (fun e w' => e = .returned (.tuple #[.int .i64 (k : Int), .nilIface]) ∧ ∃ q2, w' = X.drewN q2) ∧
      (∀ o, X.cell? ⟨B, o, none⟩ = w.cell? ⟨B, o, none⟩) ∧ (∀ o, X.frozen? ⟨B, o, none⟩ = false) := by
  obtain ⟨v2, r2⟩ := hS.r2
  have hm : 0 < m := by omega
  obtain ⟨kB, kR, kw⟩ := hS.bK hm
  have hsm := hS.small
  refine ⟨_, rfl, ?_, fun o => ?_, fun o => ?_⟩
  · refine (read_some R K en (m - en) (m - en) i k S v2 w.drew hS.r0 hS.r1 r2 hS.fR (by omega) hi hk (fun e => kR e.symm) (fun j hj => hS.room _ (by omega)) (fun j hj => hS.fK hm _)).mono ?_
    rintro e w' ⟨rfl, q, rfl⟩
    refine ⟨rfl, 1 + q, ?_⟩
    have e1 : (w.drew.setCell ⟨R, 2, none⟩ (.int .i64 (-1))).setCells K en (got S i k) = ((w.setCell ⟨R, 2, none⟩ (.int .i64 (-1))).setCells K en (got S i k)).drewN 1 := drewN_setCells K 1 (got S i k) en (w.setCell ⟨R, 2, none⟩ (.int .i64 (-1)))
    rw [e1, ← drewN_drewN]
    rfl
  · rw [othB (by simpa using hS.bR), cells_out ⟨B, o, none⟩ (Or.inl (fun e => kB e.symm)), othB (by simpa using hS.bR)]
  · rw [World.frozen?_setCell, World.frozen?_setCells, World.frozen?_setCell]
    exact hS.fB o

theorem grow_end {B R K m K1 pos i en m1 : Nat} {S : ByteArray} {err : Value} {w wc : World} (hS : Sc B R K1 S wc pos i 0 en m1 err) (hA : Apart (Mine B R K m) w wc) (M : Nat) (A : Array Value) (hAs : A.size = M) (Y X : World) (hY : Y = wc.alloc (.cells A 5)) (hX : X = Y.setCells wc.heap.size 0 (got S pos en))
    (h1 : en < M) (h2 : M ≤ 300000) (q : Nat) (z : Int) (hz : z = (en : Int)) :
    Apart (Mine B R K m) w ((((X.setCell ⟨B, 4, none⟩ (.slice (some ⟨wc.heap.size, 0, none⟩) M M)).drewN q).setCell ⟨B, 6, none⟩ (.int .i64 z)).setCell ⟨B, 5, none⟩ (.int .i64 0)) ∧
    Sc B R wc.heap.size S ((((X.setCell ⟨B, 4, none⟩ (.slice (some ⟨wc.heap.size, 0, none⟩) M M)).drewN q).setCell ⟨B, 6, none⟩ (.int .i64 z)).setCell ⟨B, 5, none⟩ (.int .i64 0)) pos i 0 en M err := by
  subst hY
  subst hX
  exact ⟨((((Apart.setCells (Or.inr hA.size) _ _ _ (hA.alloc _)).setCell (p := ⟨B, 4, none⟩) (Or.inl (Or.inl rfl)) _).drewN q).setCell (p := ⟨B, 6, none⟩) (Or.inl (Or.inl rfl)) _).setCell (p := ⟨B, 5, none⟩) (Or.inl (Or.inl rfl)) _, hS.grow M q A hAs h1 h2 z hz⟩

theorem slot {B k : Nat} {c : Nat → Value} {v : Value} (h : (frame B c).tmps[k]? = some v) {u : Value} (e : (frame B c).tmps[k]? = some u) : u = v := by
  rw [e] at h
  exact Option.some.inj h
end Go.Proofs.Qxb6613145aFmt
