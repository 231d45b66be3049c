/- Seat b6613145aF: the state of zzReadAll. -/
import Derived.Test.Qxb6613145aFmtOwn
import Derived.Test.Qxb6613145aFmtScan
namespace Go.Proofs.Qxb6613145aFmt
open Go.RowKit
set_option linter.unusedVariables false

def nums (n : Nat) : List Value := (List.range n).map fun j : Nat => .int .i64 ((j : Int) + 1)
theorem nums_succ (n : Nat) : nums (n + 1) = nums n ++ [.int .i64 ((n : Int) + 1)] := by simp [nums, List.range_succ]

structure RA (S : ByteArray) (b : Addr) (w0 W : World) (pos cnt : Nat) (vn : Value) (nn : Nat) (vt : Value) (nt : Nat) : Prop where
  rd : ∃ K i st en m err, Rd (w0.heap.size + 2) (w0.heap.size + 1) w0.heap.size K S W pos i st en m cnt err ∧ (err = .nilIface ∨ (err = .iface 54 (.pointer (some b)) ∧ i = S.size)) ∧ (0 < m → w0.heap.size + 3 ≤ K) ∧
    (∀ k, vn.ownBlock = some k → 0 < m → k ≠ K) ∧ (∀ k, vt.ownBlock = some k → 0 < m → k ≠ K)
  on : W.ownsRow w0.heap.size 3 1 vn nn (nums nn)
  ot : W.ownsRow w0.heap.size 9 1 vt nt (((linesFrom S 0).take nt).map .string)
  bn : ∀ k, vn.ownBlock = some k → w0.heap.size + 3 ≤ k
  bt : ∀ k, vt.ownBlock = some k → w0.heap.size + 3 ≤ k ∧ vn.ownBlock ≠ some k
  rest : linesFrom S pos = (linesFrom S 0).drop cnt
  le : cnt ≤ pos ∧ pos ≤ S.size
  ap : Apart (fun _ => False) w0 W
  h6 : 6 < w0.heap.size
  g4 : w0.cell? ⟨4, 0, none⟩ = some (.iface 54 (.pointer (some b)))

section
variable {S : ByteArray} {b : Addr} {w0 W : World} {pos cnt : Nat} {vn : Value} {nn : Nat} {vt : Value} {nt : Nat}

theorem RA.start (S : ByteArray) (b : Addr) (w : World) (h6 : 6 < w.heap.size) (hS : S.size ≤ 140000) (g4 : w.cell? ⟨4, 0, none⟩ = some (.iface 54 (.pointer (some b)))) : RA S b w (made S w) 0 0 (.slice none 0 0) 0 (.slice none 0 0) 0 := by
  obtain ⟨_, _, _, hs, hb, _⟩ := made_cells S w
  exact {
    rd := ⟨_, _, _, _, _, _, made_rd S w h6 hS, Or.inl rfl, fun h => by omega, fun k hk => by simp [Value.ownBlock] at hk, fun k hk => by simp [Value.ownBlock] at hk⟩
    on := World.ownsRow_nil _ _ _ _
    ot := World.ownsRow_nil _ _ _ _
    bn := fun k hk => by simp [Value.ownBlock] at hk
    bt := fun k hk => by simp [Value.ownBlock] at hk
    rest := rfl
    le := ⟨Nat.le_refl _, Nat.zero_le _⟩
    ap := (((Apart.refl _ w).alloc _).alloc _).alloc _
    h6 := h6
    g4 := g4 }

theorem RA.g4W (h : RA S b w0 W pos cnt vn nn vt nt) : W.cell? ⟨4, 0, none⟩ = some (.iface 54 (.pointer (some b))) := (h.ap.cell (p := ⟨4, 0, none⟩) (Lib.lt_of_cell h.g4) (fun x => x)).trans h.g4

theorem RA.line (h : RA S b w0 W pos cnt vn nn vt nt) (hpos : pos < S.size) : (linesFrom S 0)[cnt]? = some (lineAt S pos) := by
  have e := h.rest
  rw [linesFrom_step S pos hpos] at e
  have := congrArg (fun l => l[0]?) e
  simpa using this.symm

/-- Next gives a line. -/
theorem RA.next (h : RA S b w0 W pos cnt vn nn vt nt) (hpos : pos < S.size) :
    Calls Tryf.prog 20 #[.pointer (some ⟨w0.heap.size + 2, 0, none⟩)] W fun e w' => e = .returned (.tuple #[.int .i64 ((cnt : Int) + 1), .string (lineAt S pos), .bool true]) ∧ RA S b w0 w' (after S pos) (cnt + 1) vn nn vt nt := by
  obtain ⟨K, i, st, en, m, err, hR, herr, hK, hn, ht⟩ := h.rd
  have hle := h.le
  have key : ∃ K2, Rd (w0.heap.size + 2) (w0.heap.size + 1) w0.heap.size K2 S W pos i st en m cnt err ∧ (0 < m ∨ W.heap.size ≤ K2) ∧ (0 < m → K2 = K) := by
    by_cases hm : m = 0
    · exact ⟨W.heap.size, hR.rek hm _, Or.inr (Nat.le_refl _), fun h0 => by omega⟩
    · exact ⟨K, hR, Or.inl (by omega), fun _ => rfl⟩
  obtain ⟨K2, hR2, hK2, hKK⟩ := key
  refine (next_true _ _ _ K2 S pos i st en m cnt err b W hpos (by omega) hR2 (scan_c _ _ K2 S pos i st en m err b W hR2.sc hK2 herr h.g4W)).mono ?_
  rintro e w' ⟨rfl, K', i', st', en', m', err', hK', hA, herr', hR'⟩
  have har := after_range S pos hpos
  have hoff : ∀ (v : Value), (∀ k, v.ownBlock = some k → w0.heap.size + 3 ≤ k) → (∀ k, v.ownBlock = some k → 0 < m → k ≠ K) → ∀ k, v.ownBlock = some k → ¬ (Mine (w0.heap.size + 1) w0.heap.size K2 m k ∨ k = w0.heap.size + 2) := fun v h1 h2 k hk => by
    have := h1 k hk
    unfold Mine
    rintro ((h | h | ⟨h0, h⟩) | h)
    · omega
    · omega
    · exact h2 k hk h0 (h.trans (hKK h0))
    · omega
  have hsz := h.ap.size
  have hlt : ∀ (v : Value) e sz n xs, W.ownsRow w0.heap.size e sz v n xs → ∀ k, v.ownBlock = some k → k < W.heap.size := fun v e sz n xs ho k hk => (ho.lt k hk).2
  have hnew : ∀ (v : Value), (∀ k, v.ownBlock = some k → k < W.heap.size) → (∀ k, v.ownBlock = some k → 0 < m → k ≠ K) → ∀ k, v.ownBlock = some k → 0 < m' → k ≠ K' := fun v h1 h2 k hk h0 => by
    have := h1 k hk
    rcases hK' with ⟨rfl, hm⟩ | hge
    · rw [hKK hm]
      exact h2 k hk hm
    · omega
  refine ⟨by rw [Int.natCast_add]; rfl, {
    rd := ⟨K', i', st', en', m', err', hR', herr', fun h0 => ?_, hnew vn (hlt _ _ _ _ _ h.on) hn, hnew vt (hlt _ _ _ _ _ h.ot) ht⟩
    on := own_kept h.on hA (hoff vn h.bn hn)
    ot := own_kept h.ot hA (hoff vt (fun k hk => (h.bt k hk).1) ht)
    bn := h.bn
    bt := h.bt
    rest := ?_
    le := ⟨by omega, har.2⟩
    ap := h.ap.trans hA (fun k hk _ => ?_)
    h6 := h.h6
    g4 := h.g4 }⟩
  · rcases hK' with ⟨rfl, hm⟩ | hge
    · rw [hKK hm]
      exact hK hm
    · have := hR.rL
      omega
  · have e := h.rest
    rw [linesFrom_step S pos hpos] at e
    have := congrArg List.tail e
    simpa using this
  · unfold Mine
    rintro ((h1 | h1 | ⟨h0, h1⟩) | h1)
    · omega
    · omega
    · rcases hK2 with hm | hge
      · rw [hKK hm] at h1
        have := hK hm
        omega
      · omega
    · omega

/-- Next at the end. -/
theorem RA.last (h : RA S b w0 W S.size cnt vn nn vt nt) (b0 : Addr) (g0 : w0.cell? ⟨0, 0, none⟩ = some (.iface 54 (.pointer (some b0)))) :
    Calls Tryf.prog 20 #[.pointer (some ⟨w0.heap.size + 2, 0, none⟩)] W fun e w' => e = .returned (.tuple #[.int .i64 0, .string ⟨#[]⟩, .bool false]) ∧ RA S b w0 w' S.size cnt vn nn vt nt := by
  obtain ⟨K, i, st, en, m, err, hR, herr, hK, hn, ht⟩ := h.rd
  have hle := h.le
  have key : ∃ K2, Rd (w0.heap.size + 2) (w0.heap.size + 1) w0.heap.size K2 S W S.size i st en m cnt err ∧ (0 < m ∨ W.heap.size ≤ K2) ∧ (0 < m → K2 = K) := by
    by_cases hm : m = 0
    · exact ⟨W.heap.size, hR.rek hm _, Or.inr (Nat.le_refl _), fun h0 => by omega⟩
    · exact ⟨K, hR, Or.inl (by omega), fun _ => rfl⟩
  obtain ⟨K2, hR2, hK2, hKK⟩ := key
  have g0W : W.cell? ⟨0, 0, none⟩ = some (.iface 54 (.pointer (some b0))) := (h.ap.cell (p := ⟨0, 0, none⟩) (Lib.lt_of_cell g0) (fun x => x)).trans g0
  refine (next_false _ _ _ K2 S i st en m cnt err b b0 W hR2 h.g4W g0W (scan_c _ _ K2 S S.size i st en m err b W hR2.sc hK2 herr h.g4W)).mono ?_
  rintro e w' ⟨rfl, K', i', st', en', m', hK', hA, hi', hR'⟩
  have hoff : ∀ (v : Value), (∀ k, v.ownBlock = some k → w0.heap.size + 3 ≤ k) → (∀ k, v.ownBlock = some k → 0 < m → k ≠ K) → ∀ k, v.ownBlock = some k → ¬ Mine (w0.heap.size + 1) w0.heap.size K2 m k := fun v h1 h2 k hk => by
    have := h1 k hk
    unfold Mine
    rintro (h | h | ⟨h0, h⟩)
    · omega
    · omega
    · exact h2 k hk h0 (h.trans (hKK h0))
  have hsz := h.ap.size
  have hlt : ∀ (v : Value) e sz n xs, W.ownsRow w0.heap.size e sz v n xs → ∀ k, v.ownBlock = some k → k < W.heap.size := fun v e sz n xs ho k hk => (ho.lt k hk).2
  have hnew : ∀ (v : Value), (∀ k, v.ownBlock = some k → k < W.heap.size) → (∀ k, v.ownBlock = some k → 0 < m → k ≠ K) → ∀ k, v.ownBlock = some k → 0 < m' → k ≠ K' := fun v h1 h2 k hk h0 => by
    have := h1 k hk
    rcases hK' with ⟨rfl, hm⟩ | hge
    · rw [hKK hm]
      exact h2 k hk hm
    · omega
  refine ⟨rfl, {
    rd := ⟨K', i', st', en', m', _, hR', Or.inr ⟨rfl, hi'⟩, fun h0 => ?_, hnew vn (hlt _ _ _ _ _ h.on) hn, hnew vt (hlt _ _ _ _ _ h.ot) ht⟩
    on := own_kept h.on hA (hoff vn h.bn hn)
    ot := own_kept h.ot hA (hoff vt (fun k hk => (h.bt k hk).1) ht)
    bn := h.bn
    bt := h.bt
    rest := h.rest
    le := h.le
    ap := h.ap.trans hA (fun k hk _ => ?_)
    h6 := h.h6
    g4 := h.g4 }⟩
  · rcases hK' with ⟨rfl, hm⟩ | hge
    · rw [hKK hm]
      exact hK hm
    · have := hR.rL
      omega
  · unfold Mine
    rintro (h1 | h1 | ⟨h0, h1⟩)
    · omega
    · omega
    · rcases hK2 with hm | hge
      · rw [hKK hm] at h1
        have := hK hm
        omega
      · omega

theorem RA.l2 (h : RA S b w0 W pos cnt vn nn vt nt) : W.cell? ⟨w0.heap.size + 2, 2, none⟩ = some .nilIface := by
  obtain ⟨K, i, st, en, m, err, hR, _⟩ := h.rd
  exact hR.l2

/-- nums = append(nums, n). -/
theorem RA.pushN (h : RA S b w0 W pos cnt vn nn vt nt) (hn : nn ≤ 1000000) :
    ∃ v' w', (Builtin.append_ #[25, 25] 25 #[vn, .slice (some ⟨W.heap.size, 0, none⟩) 1 1]).run Tryf.prog (W.alloc (.cells #[.int .i64 ((nn : Int) + 1)] 3)) = .ok v' w' ∧ RA S b w0 w' pos cnt v' (nn + 1) vt nt := by
  have hsz := h.ap.size
  obtain ⟨K, i, st, en, m, err, hR, herr, hK, h1, h2⟩ := h.rd
  obtain ⟨v', w', hr, ho, hA, hat⟩ := push25 w0.heap.size vn nn (nums nn) W (.int .i64 ((nn : Int) + 1)) h.on rfl hn hsz
  have hR3 : w0.heap.size + 2 < W.heap.size := hR.rL
  have hM : ∀ k, k < w0.heap.size + 3 → ¬ (vn.ownBlock = some k) := fun k hk e => by have := h.bn k e; omega
  refine ⟨v', w', hr, {
    rd := ⟨K, i, st, en, m, err, hR.keep hA (hM _ (by omega)) (hM _ (by omega)) (hM _ (by omega)) (fun h0 e => h1 K e h0 rfl), herr, hK, fun k hk h0 => ?_, h2⟩
    on := by rw [nums_succ]; exact ho
    ot := own_kept h.ot hA (fun k hk => (h.bt k hk).2)
    bn := fun k hk => ?_
    bt := fun k hk => ⟨(h.bt k hk).1, fun e => ?_⟩
    rest := h.rest
    le := h.le
    ap := h.ap.trans hA (fun k hk _ => hM k (by omega))
    h6 := h.h6
    g4 := h.g4 }⟩
  · rcases hat with e | ⟨g, e, hg⟩
    · exact h1 k (e ▸ hk) h0
    · rw [e] at hk
      cases hk
      have := (hR.sc.bK h0).2.2
      omega
  · rcases hat with e | ⟨g, e, hg⟩
    · exact h.bn k (e ▸ hk)
    · rw [e] at hk
      cases hk
      omega
  · rcases hat with e2 | ⟨g, e2, hg⟩
    · exact (h.bt k hk).2 (e2 ▸ e)
    · rw [e2] at e
      cases e
      have := (h.ot.lt k hk).2
      omega

/-- texts = append(texts, line). -/
theorem RA.pushT (h : RA S b w0 W pos cnt vn nn vt nt) (hn : nt ≤ 1000000) (x : ByteArray) (hx : (linesFrom S 0)[nt]? = some x) :
    ∃ v' w', (Builtin.append_ #[23, 23] 23 #[vt, .slice (some ⟨W.heap.size, 0, none⟩) 1 1]).run Tryf.prog (W.alloc (.cells #[.string x] 9)) = .ok v' w' ∧ RA S b w0 w' pos cnt vn nn v' (nt + 1) := by
  have hsz := h.ap.size
  obtain ⟨K, i, st, en, m, err, hR, herr, hK, h1, h2⟩ := h.rd
  obtain ⟨v', w', hr, ho, hA, hat⟩ := push23 w0.heap.size vt nt _ W (.string x) h.ot rfl hn hsz
  have hR3 : w0.heap.size + 2 < W.heap.size := hR.rL
  have hM : ∀ k, k < w0.heap.size + 3 → ¬ (vt.ownBlock = some k) := fun k hk e => by have := (h.bt k e).1; omega
  refine ⟨v', w', hr, {
    rd := ⟨K, i, st, en, m, err, hR.keep hA (hM _ (by omega)) (hM _ (by omega)) (hM _ (by omega)) (fun h0 e => h2 K e h0 rfl), herr, hK, h1, fun k hk h0 => ?_⟩
    on := own_kept h.on hA (fun k hk e => (h.bt k e).2 hk)
    ot := by
      rw [List.take_add_one, hx]
      simpa using ho
    bn := h.bn
    bt := fun k hk => ?_
    rest := h.rest
    le := h.le
    ap := h.ap.trans hA (fun k hk _ => hM k (by omega))
    h6 := h.h6
    g4 := h.g4 }⟩
  · rcases hat with e | ⟨g, e, hg⟩
    · exact h2 k (e ▸ hk) h0
    · rw [e] at hk
      cases hk
      have := (hR.sc.bK h0).2.2
      omega
  · rcases hat with e | ⟨g, e, hg⟩
    · exact h.bt k (e ▸ hk)
    · rw [e] at hk
      cases hk
      refine ⟨by omega, fun e2 => ?_⟩
      have := (h.on.lt k e2).2
      omega
end
end Go.Proofs.Qxb6613145aFmt
