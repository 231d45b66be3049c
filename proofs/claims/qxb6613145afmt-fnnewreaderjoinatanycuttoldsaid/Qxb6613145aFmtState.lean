/- Seat b6613145aF: how a Scanner stands in memory. -/
import Derived.Test.Qxb6613145aFmtSmall
namespace Go.Proofs.Qxb6613145aFmt
open Go.RowKit
set_option linter.unusedVariables false

/-- Outside the blocks M the world w' is as w was. -/
structure Apart (M : Nat → Prop) (w w' : World) : Prop where
  os : w'.os = w.os
  tape : w'.tape = w.tape
  output : w'.output = w.output
  size : w.heap.size ≤ w'.heap.size
  block : ∀ k, k < w.heap.size → ¬ M k → w'.heap[k]? = w.heap[k]?

theorem Apart.refl (M : Nat → Prop) (w : World) : Apart M w w := ⟨rfl, rfl, rfl, Nat.le_refl _, fun _ _ _ => rfl⟩
theorem Apart.trans {M M' : Nat → Prop} {a b c : World} (h : Apart M a b) (h' : Apart M' b c) (hm : ∀ k, k < a.heap.size → ¬ M k → ¬ M' k) : Apart M a c :=
  ⟨h'.os.trans h.os, h'.tape.trans h.tape, h'.output.trans h.output, Nat.le_trans h.size h'.size, fun k hk hM => (h'.block k (Nat.lt_of_lt_of_le hk h.size) (hm k hk hM)).trans (h.block k hk hM)⟩
theorem Apart.drewN {M : Nat → Prop} {a w : World} (h : Apart M a w) (q : Nat) : Apart M a (w.drewN q) := ⟨h.os, h.tape, h.output, h.size, h.block⟩
theorem Apart.setCell {M : Nat → Prop} {a w : World} (h : Apart M a w) {p : Addr} (hp : M p.block ∨ a.heap.size ≤ p.block) (u : Value) : Apart M a (w.setCell p u) :=
  ⟨h.os, h.tape, h.output, by have := h.size; simpa [World.setCell] using this, fun k hk hM => by
    rw [Below.heap_setCell _ _ _ _ (fun e => by rcases hp with hp | hp; exact hM (e ▸ hp); omega)]
    exact h.block k hk hM⟩
theorem Apart.alloc {M : Nat → Prop} {a w : World} (h : Apart M a w) (o : Obj) : Apart M a (w.alloc o) :=
  ⟨h.os, h.tape, h.output, by have := h.size; rw [World.size_alloc]; omega, fun k hk hM => by
    rw [Below.heap_alloc _ _ _ (Nat.lt_of_lt_of_le hk h.size)]
    exact h.block k hk hM⟩
theorem Apart.setCells {M : Nat → Prop} {a : World} {b : Nat} (hb : M b ∨ a.heap.size ≤ b) : ∀ (vs : List Value) (o : Nat) (w : World), Apart M a w → Apart M a (w.setCells b o vs)
  | [], _, _, h => h
  | v :: r, o, w, h => by
    rw [World.setCells]
    exact Apart.setCells hb r (o + 1) _ (h.setCell hb v)
theorem Apart.cell {M : Nat → Prop} {w w' : World} (h : Apart M w w') {p : Addr} (hp : p.block < w.heap.size) (hM : ¬ M p.block) : w'.cell? p = w.cell? p := by
  unfold World.cell?
  rw [h.block _ hp hM]
theorem Apart.frozen {M : Nat → Prop} {w w' : World} (h : Apart M w w') {p : Addr} (hp : p.block < w.heap.size) (hM : ¬ M p.block) : w'.frozen? p = w.frozen? p := by
  unfold World.frozen?
  rw [h.block _ hp hM]
theorem Apart.weaken {M M' : Nat → Prop} {w w' : World} (h : Apart M w w') (hm : ∀ k, k < w.heap.size → M k → M' k) : Apart M' w w' := ⟨h.os, h.tape, h.output, h.size, fun k hk hM => h.block k hk (fun x => hM (hm k hk x))⟩

/-- The blocks that a Scan may write: the scanner's, the reader's, the buffer's. -/
def Mine (B R K m : Nat) : Nat → Prop := fun k => k = B ∨ k = R ∨ (0 < m ∧ k = K)

/-- The buffer's slice. -/
def bufV (K m : Nat) : Value := if m = 0 then .slice none 0 0 else .slice (some ⟨K, 0, none⟩) m m

/-- A Scanner in block B over the strings.Reader in block R that holds S: all before 'pos' has been given out; i: the reader's place; the buffer (block K, m bytes) holds what lies between. -/
structure Sc (B R K : Nat) (S : ByteArray) (w : World) (pos i st en m : Nat) (err : Value) : Prop where
  bR : B ≠ R
  b6 : 6 < B
  r6 : 6 < R
  k6 : 0 < m → 6 < K
  rB : B < w.heap.size
  rR : R < w.heap.size
  bK : 0 < m → K ≠ B ∧ K ≠ R ∧ K < w.heap.size
  c0 : w.cell? ⟨B, 0, none⟩ = some (.iface 43 (.pointer (some ⟨R, 0, none⟩)))
  c1 : w.cell? ⟨B, 1, none⟩ = some (.func (.func 39) #[] #[])
  c2 : w.cell? ⟨B, 2, none⟩ = some (.int .i64 1048576)
  c3 : ∃ v, w.cell? ⟨B, 3, none⟩ = some v
  c4 : w.cell? ⟨B, 4, none⟩ = some (bufV K m)
  c5 : w.cell? ⟨B, 5, none⟩ = some (.int .i64 (st : Int))
  c6 : w.cell? ⟨B, 6, none⟩ = some (.int .i64 (en : Int))
  c7 : w.cell? ⟨B, 7, none⟩ = some err
  c8 : ∃ v, w.cell? ⟨B, 8, none⟩ = some v
  c9 : ∃ v, w.cell? ⟨B, 9, none⟩ = some v
  c10 : w.cell? ⟨B, 10, none⟩ = some (.bool false)
  fB : ∀ o, w.frozen? ⟨B, o, none⟩ = false
  r0 : w.cell? ⟨R, 0, none⟩ = some (.string S)
  r1 : w.cell? ⟨R, 1, none⟩ = some (.int .i64 (i : Int))
  r2 : ∃ v, w.cell? ⟨R, 2, none⟩ = some v
  fR : ∀ o, w.frozen? ⟨R, o, none⟩ = false
  room : ∀ o, o < m → (w.cell? ⟨K, o, none⟩).isSome = true
  fK : 0 < m → ∀ o, w.frozen? ⟨K, o, none⟩ = false
  lies : Lies w K st (en - st) (fun j => gB S (pos + j))
  ord : st ≤ en ∧ en ≤ m ∧ m ≤ 300000
  at_ : pos + (en - st) = i
  inS : i ≤ S.size
  small : S.size ≤ 140000

section
variable {B R K : Nat} {S : ByteArray} {w : World} {pos i st en m : Nat} {err : Value}

theorem Sc.draws (h : Sc B R K S w pos i st en m err) (q : Nat) : Sc B R K S (w.drewN q) pos i st en m err := { h with }

/-- A store into a cell of the scanner's. -/
theorem Sc.turn (h : Sc B R K S w pos i st en m err) (o : Nat) (v : Value) {pos' st' en' : Nat} {err' : Value} (ho : o = 3 ∨ o = 5 ∨ o = 6 ∨ o = 7 ∨ o = 8 ∨ o = 9)
    (n5 : (if o = 5 then v else .int .i64 (st : Int)) = .int .i64 (st' : Int)) (n6 : (if o = 6 then v else .int .i64 (en : Int)) = .int .i64 (en' : Int)) (n7 : (if o = 7 then v else err) = err')
    (hl : Lies w K st' (en' - st') (fun j => gB S (pos' + j))) (hord : st' ≤ en' ∧ en' ≤ m) (hat : pos' + (en' - st') = i) : Sc B R K S (w.setCell ⟨B, o, none⟩ v) pos' i st' en' m err' := by
  have hc : ∀ o', o' ≠ o → (w.setCell ⟨B, o, none⟩ v).cell? ⟨B, o', none⟩ = w.cell? ⟨B, o', none⟩ := fun o' ho' => World.cell?_setCell_other (h := fun e => by have := congrArg Addr.off e; simp at this; omega) ..
  have hR : ∀ k, (w.setCell ⟨B, o, none⟩ v).cell? ⟨R, k, none⟩ = w.cell? ⟨R, k, none⟩ := fun k => World.cell?_setCell_other (h := fun e => by have := congrArg Addr.block e; simp at this; exact h.bR this) ..
  have hK : 0 < m → ∀ k, (w.setCell ⟨B, o, none⟩ v).cell? ⟨K, k, none⟩ = w.cell? ⟨K, k, none⟩ := fun hm k => World.cell?_setCell_other (h := fun e => by have := congrArg Addr.block e; simp at this; exact (h.bK hm).1 this.symm) ..
  have hsome : ∀ o', (∃ u, w.cell? ⟨B, o', none⟩ = some u) → ∃ u, (w.setCell ⟨B, o, none⟩ v).cell? ⟨B, o', none⟩ = some u := fun o' ⟨u, hu⟩ => cell?_setCell_some hu
  have hval : ∀ o' u, w.cell? ⟨B, o', none⟩ = some u → (w.setCell ⟨B, o, none⟩ v).cell? ⟨B, o', none⟩ = some (if o = o' then v else u) := fun o' u hu => by
    by_cases e : o = o'
    · subst e
      rw [if_pos rfl]
      exact World.cell?_setCell_same (h := hu) ..
    · rw [if_neg e, hc o' (fun x => e x.symm)]
      exact hu
  exact { h with
    rB := by have := h.rB; simpa [World.setCell] using this
    rR := by have := h.rR; simpa [World.setCell] using this
    bK := fun hm => ⟨(h.bK hm).1, (h.bK hm).2.1, by have := (h.bK hm).2.2; simpa [World.setCell] using this⟩
    c0 := by rw [hc 0 (by omega)]; exact h.c0
    c1 := by rw [hc 1 (by omega)]; exact h.c1
    c2 := by rw [hc 2 (by omega)]; exact h.c2
    c3 := hsome 3 h.c3
    c4 := by rw [hc 4 (by omega)]; exact h.c4
    c5 := (hval 5 _ h.c5).trans (congrArg some n5)
    c6 := (hval 6 _ h.c6).trans (congrArg some n6)
    c7 := (hval 7 _ h.c7).trans (congrArg some n7)
    c8 := hsome 8 h.c8
    c9 := hsome 9 h.c9
    c10 := by rw [hc 10 (by omega)]; exact h.c10
    fB := fun o' => by rw [World.frozen?_setCell]; exact h.fB o'
    r0 := by rw [hR]; exact h.r0
    r1 := by rw [hR]; exact h.r1
    r2 := by rw [hR]; exact h.r2
    fR := fun o' => by rw [World.frozen?_setCell]; exact h.fR o'
    room := fun k hk => by rw [hK (by omega)]; exact h.room k hk
    fK := fun hm k => by rw [World.frozen?_setCell]; exact h.fK hm k
    lies := fun j hj => by rw [hK (by omega)]; exact hl j hj
    ord := ⟨hord.1, hord.2, h.ord.2.2⟩
    at_ := hat }

theorem Sc.put (h : Sc B R K S w pos i st en m err) (o : Nat) (v : Value) (ho : o = 3 ∨ o = 8 ∨ o = 9) : Sc B R K S (w.setCell ⟨B, o, none⟩ v) pos i st en m err :=
  h.turn o v (by omega) (by rw [if_neg (by omega)]) (by rw [if_neg (by omega)]) (by rw [if_neg (by omega)]) h.lies ⟨h.ord.1, h.ord.2.1⟩ h.at_

/-- The start moves on. -/
theorem Sc.advance (h : Sc B R K S w pos i st en m err) (k : Nat) (hk : st + k ≤ en) : Sc B R K S (w.setCell ⟨B, 5, none⟩ (.int .i64 ((st + k : Nat) : Int))) (pos + k) i (st + k) en m err :=
  h.turn 5 _ (by omega) (by rw [if_pos rfl]) (by rw [if_neg (by omega)]) (by rw [if_neg (by omega)])
    (fun j hj => by have := h.lies (k + j) (by omega); show w.cell? ⟨K, st + k + j, none⟩ = some (.int .u8 (gB S (pos + k + j))); rw [Nat.add_assoc, Nat.add_assoc]; exact this) ⟨hk, h.ord.2.1⟩ (by have := h.at_; omega)

/-- The reader is at its end. -/
theorem Sc.ended (h : Sc B R K S w pos i st en m err) (err' : Value) : Sc B R K S (w.setCell ⟨B, 7, none⟩ err') pos i st en m err' :=
  h.turn 7 err' (by omega) (by rw [if_neg (by omega)]) (by rw [if_neg (by omega)]) (by rw [if_pos rfl]) h.lies ⟨h.ord.1, h.ord.2.1⟩ h.at_
end
end Go.Proofs.Qxb6613145aFmt
