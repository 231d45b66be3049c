/- Seat b6613145aF: the plain layer: the lines of a text. No Go in sight. -/
import Derived.Lib.Bytes
import Derived.Lib.IndexMore
import Derived.Lib.IndexLaws
namespace Go.Proofs.Qxb6613145aFmt
open Go.Lib

/-- The byte at j, 0 behind the end. -/
def gB (S : ByteArray) (j : Nat) : Int := ((S.data.getD j 0).toNat : Int)

theorem gB_range (S : ByteArray) (j : Nat) : 0 ≤ gB S j ∧ gB S j < 256 := by
  unfold gB
  have := (S.data.getD j 0).toNat_lt
  omega

/-- The first newline at or behind i, else the text's end. -/
def endF (S : ByteArray) : Nat → Nat → Nat
  | 0, i => i
  | f + 1, i => if i < S.size then (if gB S i = 10 then i else endF S f (i + 1)) else i
def lend (S : ByteArray) (i : Nat) : Nat := endF S S.size i

/-- e is where the line that begins at i ends. -/
def IsEnd (S : ByteArray) (i e : Nat) : Prop := i ≤ e ∧ e ≤ S.size ∧ (∀ j, i ≤ j → j < e → gB S j ≠ 10) ∧ (e < S.size → gB S e = 10)

theorem endF_is (S : ByteArray) : ∀ f i, i ≤ S.size → S.size - i ≤ f → IsEnd S i (endF S f i)
  | 0, i, h, hf => by
    have : i = S.size := by omega
    exact ⟨Nat.le_refl _, h, fun j h1 h2 => by unfold endF at h2; omega, fun h2 => by unfold endF at h2; omega⟩
  | f + 1, i, h, hf => by
    unfold endF
    by_cases hi : i < S.size
    · rw [if_pos hi]
      by_cases hg : gB S i = 10
      · rw [if_pos hg]
        exact ⟨Nat.le_refl _, h, fun j h1 h2 => by omega, fun _ => hg⟩
      · rw [if_neg hg]
        obtain ⟨h1, h2, h3, h4⟩ := endF_is S f (i + 1) hi (by omega)
        refine ⟨by omega, h2, fun j h5 h6 => ?_, h4⟩
        by_cases e : j = i
        · subst e; exact hg
        · exact h3 j (by omega) h6
    · rw [if_neg hi]
      exact ⟨Nat.le_refl _, h, fun j h1 h2 => by omega, fun h2 => by omega⟩

theorem lend_is (S : ByteArray) (i : Nat) (h : i ≤ S.size) : IsEnd S i (lend S i) := endF_is S _ i h (by omega)

theorem isEnd_unique {S : ByteArray} {i e e' : Nat} (h : IsEnd S i e) (h' : IsEnd S i e') : e = e' := by
  obtain ⟨a1, a2, a3, a4⟩ := h
  obtain ⟨b1, b2, b3, b4⟩ := h'
  rcases Nat.lt_trichotomy e e' with h | h | h
  · exact absurd (a4 (by omega)) (b3 e a1 h)
  · exact h
  · exact absurd (b4 (by omega)) (a3 e' b1 h)

theorem lend_eq {S : ByteArray} {i e : Nat} (h : IsEnd S i e) : lend S i = e := isEnd_unique (lend_is S i (Nat.le_trans h.1 h.2.1)) h

/-- Where the line from a to e ends without a CR at its end. -/
def crop (h : Nat → Int) (a e : Nat) : Nat := if a < e ∧ h (e - 1) = 13 then e - 1 else e
theorem crop_le (h : Nat → Int) (a e : Nat) : crop h a e ≤ e := by unfold crop; split <;> omega
theorem le_crop (h : Nat → Int) (a e : Nat) (hae : a ≤ e) : a ≤ crop h a e := by unfold crop; split <;> omega

/-- The line that begins at i. -/
def lineAt (S : ByteArray) (i : Nat) : ByteArray := S.extract i (crop (gB S) i (lend S i))
/-- Where the next line begins. -/
def after (S : ByteArray) (i : Nat) : Nat := if lend S i < S.size then lend S i + 1 else S.size

theorem after_range (S : ByteArray) (i : Nat) (h : i < S.size) : i < after S i ∧ after S i ≤ S.size := by
  have := lend_is S i (by omega)
  unfold after
  split <;> have h1 := this.1 <;> have h2 := this.2.1 <;> omega

def linesF (S : ByteArray) : Nat → Nat → List ByteArray
  | 0, _ => []
  | f + 1, i => if i < S.size then lineAt S i :: linesF S f (after S i) else []
def linesFrom (S : ByteArray) (i : Nat) : List ByteArray := linesF S (S.size - i) i

theorem linesF_more (S : ByteArray) : ∀ f f' i, S.size - i ≤ f → S.size - i ≤ f' → linesF S f i = linesF S f' i
  | 0, 0, _, _, _ => rfl
  | 0, f' + 1, i, h, _ => by
    unfold linesF
    rw [if_neg (by omega)]
  | f + 1, 0, i, _, h => by
    unfold linesF
    rw [if_neg (by omega)]
  | f + 1, f' + 1, i, h, h' => by
    unfold linesF
    by_cases hi : i < S.size
    · rw [if_pos hi, if_pos hi]
      have := after_range S i hi
      rw [linesF_more S f f' (after S i) (by omega) (by omega)]
    · rw [if_neg hi, if_neg hi]

theorem linesFrom_end (S : ByteArray) (i : Nat) (h : S.size ≤ i) : linesFrom S i = [] := by
  unfold linesFrom
  rw [show S.size - i = 0 by omega]
  rfl

theorem linesFrom_step (S : ByteArray) (i : Nat) (h : i < S.size) : linesFrom S i = lineAt S i :: linesFrom S (after S i) := by
  unfold linesFrom
  obtain ⟨f, hf⟩ : ∃ f, S.size - i = f + 1 := ⟨S.size - i - 1, by omega⟩
  have := after_range S i h
  rw [hf]
  conv => lhs; unfold linesF
  rw [if_pos h, linesF_more S f (S.size - after S i) (after S i) (by omega) (by omega)]

theorem linesFrom_length (S : ByteArray) : ∀ f i, S.size - i ≤ f → (linesFrom S i).length ≤ S.size - i
  | 0, i, h => by
    rw [linesFrom_end S i (by omega)]
    exact Nat.zero_le _
  | f + 1, i, h => by
    by_cases hi : i < S.size
    · rw [linesFrom_step S i hi]
      have := after_range S i hi
      have := linesFrom_length S f (after S i) (by omega)
      simp
      omega
    · rw [linesFrom_end S i (by omega)]
      exact Nat.zero_le _

/-- The bytes of a part, out of their numbers. -/
theorem nums_extract (S : ByteArray) (a m : Nat) (h : a + m ≤ S.size) : strOfNums ((List.range m).map fun j => gB S (a + j)) = S.extract a (a + m) := by
  apply ByteArray.ext
  rw [← Array.toList_inj]
  rw [extract_data]
  show (strOfNums _).data.toList = _
  rw [← toList_data, strOfNums_toList]
  apply List.ext_getElem?
  intro j
  have hs : S.data.size = S.size := rfl
  by_cases hj : j < m
  · have h1 : a + j < S.data.toList.length := by simp; omega
    simp [bytesOf, hj, gB, Array.getD, show a + j < S.size by omega]
  · simp [bytesOf, hj]
    omega
end Go.Proofs.Qxb6613145aFmt
