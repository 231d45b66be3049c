/- Seat b6613145aF: rows of the call's own beside a reader. -/
import Derived.Test.Qxb6613145aFmtNext
import Derived.Test.Qxb6613145aFmtFill
import Derived.Maps.AppendAt
import Derived.Laws.NewBlocks
namespace Go.Proofs.Qxb6613145aFmt
open Go.RowKit
set_option linter.unusedVariables false

theorem info3z : (Tryf.prog.info? 3).map (fun i => (i.zero, i.size, i.bytes)) = some (some (.int .i64 0), 1, 8) := by kernel_rfl
theorem info9z : (Tryf.prog.info? 9).map (fun i => (i.zero, i.size, i.bytes)) = some (some (.string ⟨#[]⟩), 1, 16) := by kernel_rfl

theorem Apart.grown {M : Nat → Prop} {w w' : World} (h : Apart M w w') (hM : ∀ k, k < w.heap.size → ¬ M k) (row : Option Nat) : w.grownBy w' row := ⟨h.os, h.tape, h.output, h.size, fun k hk _ => h.block k hk (hM k hk)⟩
theorem Apart.of_grown {w w' : World} {row : Option Nat} (h : w.grownBy w' row) : Apart (fun k => some k = row) w w' := ⟨h.os, h.tape, h.output, h.size, fun k hk hM => h.block k hk hM⟩

theorem addr_add0 (b j : Nat) : (⟨b, 0, none⟩ : Addr).add j = ⟨b, j, none⟩ := by rw [addr_add, Nat.zero_add]

/-- A row is kept where its block is not written. -/
theorem own_kept {M : Nat → Prop} {w w' : World} {base : Nat} {e : TypeId} {size : Nat} {v : Value} {n : Nat} {xs : List Value} (h : w.ownsRow base e size v n xs) (hA : Apart M w w') (hM : ∀ k, v.ownBlock = some k → ¬ M k) : w'.ownsRow base e size v n xs := by
  refine ⟨h.1, ?_⟩
  rcases h.2 with hn | ⟨g, cap, cur, rfl, hb, hgg, rest⟩
  · exact .inl hn
  · refine .inr ⟨g, cap, cur, rfl, hb, ?_, rest⟩
    rw [hA.block g (Array.getElem?_eq_some_iff.1 hgg).1 (hM g rfl)]
    exact hgg

/-- One more element behind a row of the call's own. -/
theorem push25 (base : Nat) (v : Value) (n : Nat) (xs : List Value) (w : World) (x : Value) (hown : w.ownsRow base 3 1 v n xs) (hx : x.oneCell' = true) (hn : n ≤ 1000000) (hbase : base ≤ w.heap.size) :
    ∃ v' w', (Builtin.append_ #[25, 25] 25 #[v, .slice (some ⟨w.heap.size, 0, none⟩) 1 1]).run Tryf.prog (w.alloc (.cells #[x] 3)) = .ok v' w' ∧ w'.ownsRow base 3 1 v' (n + 1) (xs ++ [x]) ∧ Apart (fun k => v.ownBlock = some k) w w' ∧
      (v'.ownBlock = v.ownBlock ∨ ∃ g, v'.ownBlock = some g ∧ w.heap.size ≤ g) := by
  obtain ⟨i0, hi, hz0, hz1, hz2⟩ := info_parts info3z
  obtain ⟨v', w', h1, h2, h3, _, h5⟩ := run_append_own_at (P := Tryf.prog) (w.alloc (.cells #[x] 3)) base 25 25 3 i0 (.int .i64 0) 1 8 Tryf.underlying25 hi hz0 hz1 hz2 rfl (by omega) v n xs (hown.alloc _) ⟨w.heap.size, 0, none⟩ 1 1 [x] (by simp)
    (fun j u hj => by
      rw [addr_add0]
      cases j with
      | zero => rw [World.cell?_alloc_at (hn := rfl)]; simpa using hj
      | succ j => simp at hj) (by simpa using hx) (by simp only [maxLen]; omega) (by omega) (by rw [World.size_alloc]; omega)
  refine ⟨v', w', h1, h2, ⟨h3.os, h3.tape, h3.output, ?_, fun k hk hM => ?_⟩, ?_⟩
  · have := h3.size
    rw [World.size_alloc] at this
    omega
  · rw [h3.block k (by rw [World.size_alloc]; omega) (fun e => hM e.symm), Below.heap_alloc _ _ _ hk]
  · rcases h5 with h5 | h5
    · exact .inl h5
    · exact .inr ⟨_, h5, by rw [World.size_alloc]; omega⟩
theorem push23 (base : Nat) (v : Value) (n : Nat) (xs : List Value) (w : World) (x : Value) (hown : w.ownsRow base 9 1 v n xs) (hx : x.oneCell' = true) (hn : n ≤ 1000000) (hbase : base ≤ w.heap.size) :
    ∃ v' w', (Builtin.append_ #[23, 23] 23 #[v, .slice (some ⟨w.heap.size, 0, none⟩) 1 1]).run Tryf.prog (w.alloc (.cells #[x] 9)) = .ok v' w' ∧ w'.ownsRow base 9 1 v' (n + 1) (xs ++ [x]) ∧ Apart (fun k => v.ownBlock = some k) w w' ∧
      (v'.ownBlock = v.ownBlock ∨ ∃ g, v'.ownBlock = some g ∧ w.heap.size ≤ g) := by
  obtain ⟨i0, hi, hz0, hz1, hz2⟩ := info_parts info9z
  obtain ⟨v', w', h1, h2, h3, _, h5⟩ := run_append_own_at (P := Tryf.prog) (w.alloc (.cells #[x] 9)) base 23 23 9 i0 (.string ⟨#[]⟩) 1 16 Tryf.underlying23 hi hz0 hz1 hz2 rfl (by omega) v n xs (hown.alloc _) ⟨w.heap.size, 0, none⟩ 1 1 [x] (by simp)
    (fun j u hj => by
      rw [addr_add0]
      cases j with
      | zero => rw [World.cell?_alloc_at (hn := rfl)]; simpa using hj
      | succ j => simp at hj) (by simpa using hx) (by simp only [maxLen]; omega) (by omega) (by rw [World.size_alloc]; omega)
  refine ⟨v', w', h1, h2, ⟨h3.os, h3.tape, h3.output, ?_, fun k hk hM => ?_⟩, ?_⟩
  · have := h3.size
    rw [World.size_alloc] at this
    omega
  · rw [h3.block k (by rw [World.size_alloc]; omega) (fun e => hM e.symm), Below.heap_alloc _ _ _ hk]
  · rcases h5 with h5 | h5
    · exact .inl h5
    · exact .inr ⟨_, h5, by rw [World.size_alloc]; omega⟩

/-- An append whose run is known. -/
theorem wpList_append_run {P : Program} {w : World} {ops : Array Oper} {rest : List Oper} {o : Oper} {a : Act} {Q : Exit → Act → World → Prop} (hgd : o.guard = none) (s x : Operand) (t : TypeId) (ho : o.op = .call { callee := .builtin .append, args := #[s, x], argTypes := #[t, t] })
    (v u : Value) (hs : a.eval s = v) (hx : a.eval x = u) (v' : Value) (w' : World) (hr : (Builtin.append_ #[t, t] o.type #[v, u]).run P w = .ok v' w') (h : wpList P ops Q rest (a.put o.dst v') w') : wpList P ops Q (o :: rest) a w := by
  refine wpList_plain hgd fun K hK => ?_
  unfold Oper.wp execOp
  simp only [ho, resolve, invoke, builtin, Sem.run_bind, Sem.run_pure, Result.andThen_ok, List.map_toArray, List.map_cons, List.map_nil, hs, hx, hr]
  exact hK _ _ h

/-- The reader is kept where none of its blocks is written. -/
theorem Rd.keep {L B R K : Nat} {S : ByteArray} {w w' : World} {pos i st en m cnt : Nat} {err : Value} (h : Rd L B R K S w pos i st en m cnt err) {M : Nat → Prop} (hA : Apart M w w') (hL : ¬ M L) (hB : ¬ M B) (hR : ¬ M R) (hK : 0 < m → ¬ M K) : Rd L B R K S w' pos i st en m cnt err := by
  have s := h.sc
  have cB : ∀ o, w'.cell? ⟨B, o, none⟩ = w.cell? ⟨B, o, none⟩ := fun o => hA.cell (p := ⟨B, o, none⟩) s.rB hB
  have cR : ∀ o, w'.cell? ⟨R, o, none⟩ = w.cell? ⟨R, o, none⟩ := fun o => hA.cell (p := ⟨R, o, none⟩) s.rR hR
  have cL : ∀ o, w'.cell? ⟨L, o, none⟩ = w.cell? ⟨L, o, none⟩ := fun o => hA.cell (p := ⟨L, o, none⟩) h.rL hL
  have cK : 0 < m → ∀ o, w'.cell? ⟨K, o, none⟩ = w.cell? ⟨K, o, none⟩ := fun hm o => hA.cell (p := ⟨K, o, none⟩) (s.bK hm).2.2 (hK hm)
  have hord := s.ord
  exact { h with
    sc := s.anew hA.size (fun o _ => cB o) (by rw [cB]; exact s.c3) (by rw [cB]; exact s.c8) (by rw [cB]; exact s.c9) ((cB 4).trans s.c4) ((cB 5).trans s.c5) ((cB 6).trans s.c6) ((cB 7).trans s.c7)
      (fun o => hA.frozen (p := ⟨B, o, none⟩) s.rB hB) (cR 0) ((cR 1).trans s.r1) (by rw [cR]; exact s.r2) (fun o => hA.frozen (p := ⟨R, o, none⟩) s.rR hR) (fun hm => ⟨(s.bK hm).1, (s.bK hm).2.1, Nat.lt_of_lt_of_le (s.bK hm).2.2 hA.size⟩) s.k6
      (fun o ho => by rw [cK (by omega)]; exact s.room o ho) (fun hm o => (hA.frozen (p := ⟨K, o, none⟩) (s.bK hm).2.2 (hK hm)).trans (s.fK hm o)) (fun j hj => by rw [cK (by omega)]; exact s.lies j hj) s.ord s.at_ s.inS
    rL := Nat.lt_of_lt_of_le h.rL hA.size
    l0 := (cL 0).trans h.l0
    l1 := (cL 1).trans h.l1
    l2 := (cL 2).trans h.l2
    fL := fun o => (hA.frozen (p := ⟨L, o, none⟩) h.rL hL).trans (h.fL o) }

/-- Without a buffer the buffer's block is whatever. -/
theorem Rd.rek {L B R K : Nat} {S : ByteArray} {w : World} {pos i st en m cnt : Nat} {err : Value} (h : Rd L B R K S w pos i st en m cnt err) (hm : m = 0) (K' : Nat) : Rd L B R K' S w pos i st en m cnt err := by
  have s := h.sc
  have hord := s.ord
  exact { h with
    lK := fun h0 => by omega
    sc := s.anew (Nat.le_refl _) (fun o _ => rfl) s.c3 s.c8 s.c9 (by rw [s.c4, hm]; rfl) s.c5 s.c6 s.c7 (fun o => rfl) rfl s.r1 s.r2 (fun o => rfl) (fun h0 => by omega) (fun h0 => by omega) (fun o ho => by omega) (fun h0 => by omega) (fun j hj => by omega) s.ord s.at_ s.inS }
end Go.Proofs.Qxb6613145aFmt
