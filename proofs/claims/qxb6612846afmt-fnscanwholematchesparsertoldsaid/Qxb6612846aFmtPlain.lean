/- Seat b6612846aF: the plain layer: no Go in sight. The bytes of the file are told by 'g : Nat → Int' below 'n'. -/
import Derived.Lib.IndexMore
import Derived.Lib.IndexLaws
import Derived.Lib.Bytes
namespace Go.Proofs.Qxb6612846aFmt
open Go.Lib

/-- Two zero bytes stand at j. -/
def Pair (g : Nat → Int) (j : Nat) : Prop := g j = 0 ∧ g (j + 1) = 0

/-- The row of m bytes from h. -/
def row (h : Nat → Int) (m : Nat) : List Int := (List.range m).map h

theorem row_length (h : Nat → Int) (m : Nat) : (row h m).length = m := by simp [row]
theorem row_getD (h : Nat → Int) (m i : Nat) (hi : i < m) : (row h m).getD i 0 = h i := by simp [row, List.getD, hi]
theorem row_mem (h : Nat → Int) (m : Nat) (hb : ∀ i, i < m → 0 ≤ h i ∧ h i < 256) : ∀ x ∈ row h m, 0 ≤ x ∧ x < 256 := by
  intro x hx
  obtain ⟨i, hi, rfl⟩ := List.mem_map.1 hx
  exact hb i (List.mem_range.1 hi)

theorem bytes_row_get (h : Nat → Int) (m i : Nat) (hi : i < m) : (bytesOf (row h m))[i]? = some (UInt8.ofNat (h i).toNat) := by
  simp [bytesOf, row, hi]

theorem byte_zero {z : Int} (h0 : 0 ≤ z) (h1 : z < 256) : UInt8.ofNat z.toNat = 0 ↔ z = 0 := by
  constructor
  · intro h
    have := congrArg UInt8.toNat h
    simp at this
    omega
  · intro h
    subst h
    rfl

theorem occ_pair (h : Nat → Int) (m j : Nat) (hb : ∀ i, i < m → 0 ≤ h i ∧ h i < 256) : occAt (bytesOf (row h m)) [0, 0] j = true ↔ j + 1 < m ∧ Pair h j := by
  have hl : (bytesOf (row h m)).length = m := by simp [bytesOf, row_length]
  constructor
  · intro ho
    have hr := occAt_room ho
    rw [hl] at hr
    have hj : j + 1 < m := by
      rcases hr with hr | hr
      · simp at hr; omega
      · cases hr
    have e1 := occAt_head rfl ho
    have e2 := occAt_second rfl ho
    rw [bytes_row_get h m j (by omega)] at e1
    rw [bytes_row_get h m (j + 1) hj] at e2
    exact ⟨hj, (byte_zero (hb j (by omega)).1 (hb j (by omega)).2).1 (Option.some.inj e1), (byte_zero (hb _ hj).1 (hb _ hj).2).1 (Option.some.inj e2)⟩
  · rintro ⟨hj, h0, h1⟩
    have e1 := bytes_row_get h m j (by omega)
    have e2 := bytes_row_get h m (j + 1) hj
    rw [h0] at e1
    rw [h1] at e2
    unfold occAt
    have d1 : (bytesOf (row h m)).drop j = 0 :: 0 :: (bytesOf (row h m)).drop (j + 2) := by
      obtain ⟨l1, g1⟩ := List.getElem?_eq_some_iff.1 e1
      obtain ⟨l2, g2⟩ := List.getElem?_eq_some_iff.1 e2
      rw [List.drop_eq_getElem_cons l1, List.drop_eq_getElem_cons l2, g1, g2]
      rfl
    rw [d1]
    rfl

/-- What bytes.Index(row, {0, 0}) is. -/
theorem index_pair (h : Nat → Int) (m : Nat) (hb : ∀ i, i < m → 0 ≤ h i ∧ h i < 256) :
    (Lib.index (bytesOf (row h m)) (bytesOf [0, 0]) = -1 ∧ ∀ j, j + 1 < m → ¬ Pair h j) ∨
    ∃ i : Nat, Lib.index (bytesOf (row h m)) (bytesOf [0, 0]) = i ∧ i + 1 < m ∧ Pair h i ∧ ∀ j, j < i → ¬ Pair h j := by
  have e0 : bytesOf [0, 0] = [0, 0] := by decide
  rw [e0]
  rcases index_spec (bytesOf (row h m)) [0, 0] with ⟨h1, h2⟩ | ⟨i, h1, h2, h3, h4⟩
  · refine Or.inl ⟨h1, fun j hj hp => ?_⟩
    have := h2 j (by simp [bytesOf, row_length]; omega)
    rw [(occ_pair h m j hb).2 ⟨hj, hp⟩] at this
    cases this
  · obtain ⟨hi, hp⟩ := (occ_pair h m i hb).1 h3
    refine Or.inr ⟨i, h1, hi, hp, fun j hj hq => ?_⟩
    have := h4 j hj
    rw [(occ_pair h m j hb).2 ⟨by omega, hq⟩] at this
    cases this

/-- The first pair at i, i + 2, i + 4, ..: just past it; -1 where there is none. -/
def nulF (g : Nat → Int) (n : Nat) : Nat → Nat → Int
  | 0, _ => -1
  | f + 1, i => if i + 1 < n then (if g i = 0 ∧ g (i + 1) = 0 then ((i + 2 : Nat) : Int) else nulF g n f (i + 2)) else -1
def nul (g : Nat → Int) (n i : Nat) : Int := nulF g n n i

theorem nulF_none (g : Nat → Int) (n : Nat) : ∀ f i, (∀ j, i ≤ j → (j - i) % 2 = 0 → j + 1 < n → ¬ Pair g j) → nulF g n f i = -1
  | 0, _, _ => rfl
  | f + 1, i, h => by
    unfold nulF
    split
    · rename_i hi
      rw [if_neg (show ¬ (g i = 0 ∧ g (i + 1) = 0) from h i (Nat.le_refl _) (by simp) hi)]
      exact nulF_none g n f (i + 2) (fun j h1 h2 h3 => h j (by omega) (by omega) h3)
    · rfl

theorem nulF_some (g : Nat → Int) (n : Nat) : ∀ f i j, i ≤ j → (j - i) % 2 = 0 → j + 1 < n → Pair g j → (∀ k, i ≤ k → (k - i) % 2 = 0 → k < j → ¬ Pair g k) → n - i ≤ f → nulF g n f i = ((j + 2 : Nat) : Int)
  | 0, i, j, h1, h2, h3, h4, h5, h6 => by omega
  | f + 1, i, j, h1, h2, h3, h4, h5, h6 => by
    unfold nulF
    rw [if_pos (by omega)]
    by_cases e : j = i
    · subst e
      rw [if_pos (show g j = 0 ∧ g (j + 1) = 0 from h4)]
    · rw [if_neg (show ¬ (g i = 0 ∧ g (i + 1) = 0) from h5 i (Nat.le_refl _) (by simp) (by omega))]
      exact nulF_some g n f (i + 2) j (by omega) (by omega) h3 h4 (fun k h1 h2 h3 => h5 k (by omega) (by omega) h3) (by omega)

theorem nul_none (g : Nat → Int) (n i : Nat) (h : ∀ j, i ≤ j → (j - i) % 2 = 0 → j + 1 < n → ¬ Pair g j) : nul g n i = -1 := nulF_none g n n i h
theorem nul_some (g : Nat → Int) (n i j : Nat) (h1 : i ≤ j) (h2 : (j - i) % 2 = 0) (h3 : j + 1 < n) (h4 : Pair g j) (h5 : ∀ k, i ≤ k → (k - i) % 2 = 0 → k < j → ¬ Pair g k) : nul g n i = ((j + 2 : Nat) : Int) :=
  nulF_some g n n i j h1 h2 h3 h4 h5 (by omega)

theorem nulF_range (g : Nat → Int) (n : Nat) : ∀ f i, nulF g n f i = -1 ∨ ∃ j : Nat, nulF g n f i = j ∧ i + 2 ≤ j ∧ j ≤ n
  | 0, _ => Or.inl rfl
  | f + 1, i => by
    unfold nulF
    split
    · split
      · exact Or.inr ⟨i + 2, rfl, Nat.le_refl _, by omega⟩
      · rcases nulF_range g n f (i + 2) with h | ⟨j, h1, h2, h3⟩
        · exact Or.inl h
        · exact Or.inr ⟨j, h1, by omega, h3⟩
    · exact Or.inl rfl
theorem nul_range (g : Nat → Int) (n i : Nat) : nul g n i = -1 ∨ ∃ j : Nat, nul g n i = j ∧ i + 2 ≤ j ∧ j ≤ n := nulF_range g n n i
theorem nul_end (g : Nat → Int) (n i : Nat) (h : n ≤ i + 1) : nul g n i = -1 := nul_none g n i (fun j h1 _ h3 => by omega)

/-- The number that four bytes spell, the least first. -/
def le4 (g : Nat → Int) (i : Nat) : Nat := (g i + g (i + 1) * 256 + g (i + 2) * 65536 + g (i + 3) * 16777216).toNat

/-- The mark of a field. -/
def markOf (fld : Nat) : Int := if fld = 1 then 91 else if fld = 11 then 93 else 59

/-- What the parser answers: is a part unreadable, where, how many instructions are whole, does it end between two. -/
structure Res where
  bad : Bool
  off : Int
  cnt : Nat
  whole : Bool

/-- The parser, a field a step: 'fld' the field at which it stands, 'i' the place, 'st' where the instruction began, 'cn' how many are whole, 'lf' the size of the data. -/
def M (g : Nat → Int) (n : Nat) : Nat → Nat → Nat → Nat → Nat → Nat → Res
  | 0, _, _, st, cn, _ => ⟨false, st, cn, false⟩
  | f + 1, fld, i, st, cn, lf =>
    if n ≤ i then ⟨false, st, cn, fld == 1⟩
    else if fld = 2 ∨ fld = 4 then
      if nul g n i < 0 then ⟨false, st, cn, false⟩ else M g n f (fld + 1) (nul g n i).toNat st cn lf
    else if fld = 6 then
      if n < i + 4 then ⟨false, st, cn, false⟩ else M g n f 7 (i + 4) st cn lf
    else if fld = 8 then
      if n < i + 4 then ⟨false, st, cn, false⟩ else M g n f 9 (i + 4) st cn (le4 g i)
    else if fld = 10 then
      if n < i + lf then ⟨false, st, cn, false⟩ else M g n f 11 (i + lf) st cn 0
    else if n < i + 2 then ⟨false, st, cn, false⟩
    else if g i ≠ markOf fld ∨ g (i + 1) ≠ 0 then ⟨true, st, cn, false⟩
    else if fld = 11 then M g n f 1 (i + 2) (i + 2) (cn + 1) lf
    else M g n f (fld + 1) (i + 2) st cn lf

section steps
variable {g : Nat → Int} {n f i st cn lf : Nat}

theorem M_end (h : n ≤ i) (fld : Nat) : M g n (f + 1) fld i st cn lf = ⟨false, st, cn, fld == 1⟩ := by
  unfold M
  rw [if_pos h]

theorem M_name_no {fld : Nat} (hf : fld = 2 ∨ fld = 4) (h : nul g n i = -1) : M g n (f + 1) fld i st cn lf = ⟨false, st, cn, false⟩ := by
  unfold M
  by_cases h1 : n ≤ i
  · rw [if_pos h1]
    rcases hf with rfl | rfl <;> rfl
  · rw [if_neg h1, if_pos hf, if_pos (by omega)]

theorem M_name_yes {fld j : Nat} (hf : fld = 2 ∨ fld = 4) (h : nul g n i = (j : Int)) : M g n (f + 1) fld i st cn lf = M g n f (fld + 1) j st cn lf := by
  have h1 : ¬ n ≤ i := fun hn => by have := nul_end g n i (by omega); omega
  conv => lhs; unfold M
  rw [if_neg h1, if_pos hf, if_neg (by omega), h]
  rfl

theorem M_type_no (h : n < i + 4) : M g n (f + 1) 6 i st cn lf = ⟨false, st, cn, false⟩ := by
  unfold M
  by_cases h1 : n ≤ i
  · rw [if_pos h1]; rfl
  · rw [if_neg h1, if_neg (by omega), if_pos rfl, if_pos h]

theorem M_type_yes (h : i + 4 ≤ n) : M g n (f + 1) 6 i st cn lf = M g n f 7 (i + 4) st cn lf := by
  conv => lhs; unfold M
  rw [if_neg (by omega), if_neg (by omega), if_pos rfl, if_neg (by omega)]

theorem M_size_no (h : n < i + 4) : M g n (f + 1) 8 i st cn lf = ⟨false, st, cn, false⟩ := by
  unfold M
  by_cases h1 : n ≤ i
  · rw [if_pos h1]; rfl
  · rw [if_neg h1, if_neg (by omega), if_neg (by omega), if_pos rfl, if_pos h]

theorem M_size_yes (h : i + 4 ≤ n) : M g n (f + 1) 8 i st cn lf = M g n f 9 (i + 4) st cn (le4 g i) := by
  conv => lhs; unfold M
  rw [if_neg (by omega), if_neg (by omega), if_neg (by omega), if_pos rfl, if_neg (by omega)]

theorem M_data_no (h : n < i + lf) : M g n (f + 1) 10 i st cn lf = ⟨false, st, cn, false⟩ := by
  unfold M
  by_cases h1 : n ≤ i
  · rw [if_pos h1]; rfl
  · rw [if_neg h1, if_neg (by omega), if_neg (by omega), if_neg (by omega), if_pos rfl, if_pos h]

theorem M_data_yes (h : i + lf ≤ n) (h0 : 0 < f) : M g n (f + 1) 10 i st cn lf = M g n f 11 (i + lf) st cn 0 := by
  by_cases h1 : n ≤ i
  · obtain ⟨f', rfl⟩ : ∃ f', f = f' + 1 := ⟨f - 1, by omega⟩
    rw [M_end h1, M_end (by omega)]
    rfl
  · conv => lhs; unfold M
    rw [if_neg h1, if_neg (by omega), if_neg (by omega), if_neg (by omega), if_pos rfl, if_neg (by omega)]

/-- The fields that are marks. -/
def IsMark (fld : Nat) : Prop := fld = 1 ∨ fld = 3 ∨ fld = 5 ∨ fld = 7 ∨ fld = 9 ∨ fld = 11

theorem IsMark.not {fld : Nat} (h : IsMark fld) : ¬ (fld = 2 ∨ fld = 4) ∧ fld ≠ 6 ∧ fld ≠ 8 ∧ fld ≠ 10 := by
  unfold IsMark at h
  omega

theorem M_mark_short {fld : Nat} (hm : IsMark fld) (h : n < i + 2) (h0 : i < n ∨ fld ≠ 1) : M g n (f + 1) fld i st cn lf = ⟨false, st, cn, false⟩ := by
  obtain ⟨h1, h2, h3, h4⟩ := hm.not
  unfold M
  by_cases hi : n ≤ i
  · rw [if_pos hi]
    have : (fld == 1) = false := by rw [beq_eq_false_iff_ne]; omega
    rw [this]
  · rw [if_neg hi, if_neg h1, if_neg h2, if_neg h3, if_neg h4, if_pos h]

theorem M_mark_bad {fld : Nat} (hm : IsMark fld) (h : i + 2 ≤ n) (hb : g i ≠ markOf fld ∨ g (i + 1) ≠ 0) : M g n (f + 1) fld i st cn lf = ⟨true, st, cn, false⟩ := by
  obtain ⟨h1, h2, h3, h4⟩ := hm.not
  unfold M
  rw [if_neg (by omega), if_neg h1, if_neg h2, if_neg h3, if_neg h4, if_neg (by omega), if_pos hb]

theorem M_mark_on {fld : Nat} (hm : IsMark fld) (h : i + 2 ≤ n) (hb : ¬ (g i ≠ markOf fld ∨ g (i + 1) ≠ 0)) (h11 : fld ≠ 11) : M g n (f + 1) fld i st cn lf = M g n f (fld + 1) (i + 2) st cn lf := by
  obtain ⟨h1, h2, h3, h4⟩ := hm.not
  conv => lhs; unfold M
  rw [if_neg (by omega), if_neg h1, if_neg h2, if_neg h3, if_neg h4, if_neg (by omega), if_neg hb, if_neg h11]

theorem M_mark_close (h : i + 2 ≤ n) (hb : ¬ (g i ≠ markOf 11 ∨ g (i + 1) ≠ 0)) : M g n (f + 1) 11 i st cn lf = M g n f 1 (i + 2) (i + 2) (cn + 1) lf := by
  conv => lhs; unfold M
  rw [if_neg (by omega), if_neg (by omega), if_neg (by omega), if_neg (by omega), if_neg (by omega), if_neg (by omega), if_neg hb, if_pos rfl]
end steps

/-- The whole file: the header, then the instructions. -/
def P (g : Nat → Int) (n : Nat) : Res :=
  if (0 < n ∧ g 0 ≠ 80) ∨ (1 < n ∧ g 1 ≠ 82) ∨ (2 < n ∧ g 2 ≠ 101) ∨ (3 < n ∧ g 3 ≠ 103) then ⟨true, 0, 0, false⟩
  else if n < 8 then ⟨false, 0, 0, false⟩
  else if g 4 ≠ 1 ∨ g 5 ≠ 0 ∨ g 6 ≠ 0 ∨ g 7 ≠ 0 then ⟨true, 4, 0, false⟩
  else M g n (16 * n + 16) 1 8 8 0 0
end Go.Proofs.Qxb6612846aFmt
