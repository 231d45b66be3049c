/- Seat b6613145aF: the plain layer of the join: lines of a, newline, b; the lines counted. -/
import Derived.Test.Qxb6613145aFmtPlain
namespace Go.Proofs.Qxb6613145aFmt
open Go.Lib
set_option linter.unusedVariables false

theorem gB_at (t : ByteArray) (j : Nat) (h : j < t.size) : ((t[j].toNat : Nat) : Int) = gB t j := by
  unfold gB
  have h2 : j < t.data.size := h
  rw [Array.getD_eq_getD_getElem?, Array.getElem?_eq_getElem h2]
  rfl

theorem ext_gB {x y : ByteArray} (hs : x.size = y.size) (h : ∀ j, j < x.size → gB x j = gB y j) : x = y := by
  apply ByteArray.ext
  apply Array.ext
  · exact hs
  · intro j h1 h2
    have := h j h1
    rw [← gB_at x j h1, ← gB_at y j h2] at this
    have h3 : x[j].toNat = y[j].toNat := by omega
    exact UInt8.toNat_inj.1 h3

theorem gB_part (S : ByteArray) (a e j : Nat) (h : e ≤ S.size) (hj : a + j < e) : gB (S.extract a e) j = gB S (a + j) := by
  have h1 : j < (S.extract a e).size := by simp; omega
  rw [← gB_at _ _ h1, ← gB_at _ _ (show a + j < S.size by omega), ByteArray.getElem_extract]

/-- A text that lies in another from p on, up to that one's end or further. -/
structure Within (b J : ByteArray) (p : Nat) : Prop where
  size : p + b.size ≤ J.size
  same : ∀ j, j < b.size → gB J (p + j) = gB b j

theorem Within.part {b J : ByteArray} {p : Nat} (h : Within b J p) (x y : Nat) (hy : y ≤ b.size) : J.extract (p + x) (p + y) = b.extract x y := by
  have := h.size
  apply ext_gB
  · simp; omega
  · intro j hj
    have hj2 : j < (p + y) - (p + x) := by
      simp at hj
      omega
    rw [gB_part J _ _ j (by omega) (by omega), gB_part b _ _ j (by omega) (by omega), ← h.same (x + j) (by omega), Nat.add_assoc]

theorem Within.crop {b J : ByteArray} {p : Nat} (h : Within b J p) (i e : Nat) (he : e ≤ b.size) : crop (gB J) (p + i) (p + e) = p + Qxb6613145aFmt.crop (gB b) i e := by
  unfold Qxb6613145aFmt.crop
  by_cases hlt : i < e
  · rw [show p + e - 1 = p + (e - 1) by omega, h.same (e - 1) (by omega)]
    by_cases hg : gB b (e - 1) = 13
    · rw [if_pos ⟨by omega, hg⟩, if_pos ⟨hlt, hg⟩]
    · rw [if_neg (fun x => hg x.2), if_neg (fun x => hg x.2)]
  · rw [if_neg (by omega), if_neg (by omega)]

/-- b is J's end: the lines are the same. -/
theorem Within.lines {b J : ByteArray} {p : Nat} (h : Within b J p) (hs : J.size = p + b.size) : ∀ f i, b.size - i ≤ f → i ≤ b.size → linesFrom J (p + i) = linesFrom b i
  | 0, i, hf, hi => by rw [linesFrom_end J _ (by omega), linesFrom_end b _ (by omega)]
  | f + 1, i, hf, hi => by
    by_cases hlt : i < b.size
    · obtain ⟨h1, h2, h3, h4⟩ := lend_is b i hi
      have hl : lend J (p + i) = p + lend b i := lend_eq ⟨by omega, by omega, fun j hj1 hj2 => by
          obtain ⟨t, rfl⟩ : ∃ t, j = p + t := ⟨j - p, by omega⟩
          rw [h.same t (by omega)]
          exact h3 t (by omega) (by omega), fun hlt2 => by rw [h.same _ (by omega)]; exact h4 (by omega)⟩
      have har := after_range b i hlt
      have ha : after J (p + i) = p + after b i := by
        unfold after
        rw [hl]
        by_cases hc : lend b i < b.size
        · rw [if_pos (by omega), if_pos hc]; omega
        · rw [if_neg (by omega), if_neg hc]; omega
      have hline : lineAt J (p + i) = lineAt b i := by
        unfold lineAt
        rw [hl, h.crop i _ h2, h.part i _ (Nat.le_trans (crop_le _ _ _) h2)]
      rw [linesFrom_step J _ (by omega), linesFrom_step b _ hlt, hline, ha, Within.lines h hs f (after b i) (by omega) har.2]
    · rw [linesFrom_end J _ (by omega), linesFrom_end b _ (by omega)]

/-- The lines of a, newline, b. -/
theorem lines_join {a b J : ByteArray} (ha : Within a J 0) (hb : Within b J (a.size + 1)) (hs : J.size = a.size + 1 + b.size) (hn : gB J a.size = 10) : ∀ f i, a.size - i ≤ f → i ≤ a.size →
    linesFrom J i = linesFrom a i ++ (if i = a.size ∨ gB a (a.size - 1) = 10 then [⟨#[]⟩] else []) ++ linesFrom b 0 := by
  have hsame : ∀ j, j < a.size → gB J j = gB a j := fun j hj => by have := ha.same j hj; rwa [Nat.zero_add] at this
  have atEnd : linesFrom J a.size = [⟨#[]⟩] ++ linesFrom b 0 := by
    have hl : lend J a.size = a.size := lend_eq ⟨Nat.le_refl _, by omega, fun j h1 h2 => by omega, fun _ => hn⟩
    have haf : after J a.size = a.size + 1 + 0 := by unfold after; rw [hl, if_pos (by omega)]
    have hline : lineAt J a.size = ⟨#[]⟩ := by
      unfold lineAt crop
      rw [hl, if_neg (by omega)]
      apply ext_gB
      · simp; rfl
      · intro j hj
        simp at hj
    rw [linesFrom_step J _ (by omega), hline, haf, hb.lines hs b.size 0 (by omega) (Nat.zero_le _)]
    rfl
  intro f
  induction f with
  | zero =>
    intro i hf hi
    obtain rfl : i = a.size := by omega
    rw [linesFrom_end a _ (Nat.le_refl _), if_pos (Or.inl rfl), atEnd]
    rfl
  | succ f ih =>
    intro i hf hi
    by_cases hlt : i < a.size
    · obtain ⟨h1, h2, h3, h4⟩ := lend_is a i hi
      have hl : lend J i = lend a i := lend_eq ⟨h1, by omega, fun j hj1 hj2 => by rw [hsame j (by omega)]; exact h3 j hj1 hj2, fun _ => by
        by_cases hc : lend a i < a.size
        · rw [hsame _ hc]; exact h4 hc
        · rw [show lend a i = a.size by omega]; exact hn⟩
      have hcr : crop (gB J) i (lend a i) = crop (gB a) i (lend a i) := by
        have := ha.crop i (lend a i) h2
        simpa using this
      have hline : lineAt J i = lineAt a i := by
        unfold lineAt
        rw [hl, hcr]
        have := ha.part i (crop (gB a) i (lend a i)) (Nat.le_trans (crop_le _ _ _) h2)
        simpa using this
      rw [linesFrom_step J _ (by omega), linesFrom_step a _ hlt, hline]
      by_cases hc : lend a i < a.size
      · have haJ : after J i = lend a i + 1 := by unfold after; rw [hl, if_pos (by omega)]
        have haa : after a i = lend a i + 1 := by unfold after; rw [if_pos hc]
        rw [haJ, haa, ih (lend a i + 1) (by omega) (by omega)]
        have hiff : (lend a i + 1 = a.size ∨ gB a (a.size - 1) = 10) ↔ (i = a.size ∨ gB a (a.size - 1) = 10) := by
          constructor
          · rintro (h | h)
            · right
              have := h4 hc
              rwa [show lend a i = a.size - 1 by omega] at this
            · exact Or.inr h
          · rintro (h | h)
            · omega
            · exact Or.inr h
        simp only [hiff, List.cons_append]
      · have haJ : after J i = a.size + 1 + 0 := by unfold after; rw [hl, if_pos (by omega)]; omega
        have haa : after a i = a.size := by unfold after; rw [if_neg hc]
        have hlast : gB a (a.size - 1) ≠ 10 := h3 _ (by omega) (by omega)
        rw [haJ, haa, hb.lines hs b.size 0 (by omega) (Nat.zero_le _), linesFrom_end a _ (Nat.le_refl _), if_neg (by rintro (h | h); omega; exact hlast h)]
        rfl
    · obtain rfl : i = a.size := by omega
      rw [linesFrom_end a _ (Nat.le_refl _), if_pos (Or.inl rfl), atEnd]
      rfl

/-- The newlines from i on. -/
def nlF (S : ByteArray) : Nat → Nat → Nat
  | 0, _ => 0
  | f + 1, i => if i < S.size then (if gB S i = 10 then 1 else 0) + nlF S f (i + 1) else 0
def nl (S : ByteArray) (i : Nat) : Nat := nlF S (S.size - i) i
theorem nl_end (S : ByteArray) (i : Nat) (h : S.size ≤ i) : nl S i = 0 := by
  unfold nl
  rw [show S.size - i = 0 by omega]
  rfl
theorem nl_step (S : ByteArray) (i : Nat) (h : i < S.size) : nl S i = (if gB S i = 10 then 1 else 0) + nl S (i + 1) := by
  unfold nl
  obtain ⟨f, hf⟩ : ∃ f, S.size - i = f + 1 := ⟨S.size - i - 1, by omega⟩
  rw [hf, show S.size - (i + 1) = f by omega]
  conv => lhs; unfold nlF
  rw [if_pos h]
theorem nl_skip (S : ByteArray) (e : Nat) (he : e ≤ S.size) : ∀ f i, e - i ≤ f → i ≤ e → (∀ j, i ≤ j → j < e → gB S j ≠ 10) → nl S i = nl S e
  | 0, i, hf, hi, _ => by rw [show i = e by omega]
  | f + 1, i, hf, hi, hno => by
    by_cases h : i < e
    · rw [nl_step S i (by omega), if_neg (hno i (Nat.le_refl _) h), nl_skip S e he f (i + 1) (by omega) (by omega) (fun j h1 h2 => hno j (by omega) h2), Nat.zero_add]
    · rw [show i = e by omega]

theorem lines_count (S : ByteArray) : ∀ f i, S.size - i ≤ f → i ≤ S.size → (linesFrom S i).length = nl S i + (if i < S.size ∧ gB S (S.size - 1) ≠ 10 then 1 else 0) := by
  intro f
  induction f with
  | zero =>
    intro i hf hi
    rw [linesFrom_end S _ (by omega), nl_end S _ (by omega), if_neg (by omega)]
    rfl
  | succ f ih =>
    intro i hf hi
    by_cases hlt : i < S.size
    · obtain ⟨h1, h2, h3, h4⟩ := lend_is S i hi
      rw [linesFrom_step S _ hlt, List.length_cons, nl_skip S (lend S i) h2 S.size i (by omega) h1 h3]
      by_cases hc : lend S i < S.size
      · have haf : after S i = lend S i + 1 := by unfold after; rw [if_pos hc]
        have h10 := h4 hc
        rw [haf, ih _ (by omega) (by omega), nl_step S _ hc, if_pos h10]
        by_cases hq : gB S (S.size - 1) = 10
        · rw [if_neg (fun x => x.2 hq), if_neg (fun x => x.2 hq)]
          omega
        · have : lend S i + 1 < S.size := by
            rcases Nat.lt_or_ge (lend S i + 1) S.size with h | h
            · exact h
            · exact absurd (by rwa [show lend S i = S.size - 1 by omega] at h10) hq
          rw [if_pos ⟨this, hq⟩, if_pos ⟨hlt, hq⟩]
          omega
      · have haf : after S i = S.size := by unfold after; rw [if_neg hc]
        have hlast : gB S (S.size - 1) ≠ 10 := h3 _ (by omega) (by omega)
        rw [haf, linesFrom_end S _ (Nat.le_refl _), nl_end S _ (by omega), if_pos ⟨hlt, hlast⟩]
        rfl
    · rw [linesFrom_end S _ (by omega), nl_end S _ (by omega), if_neg (by omega)]
      rfl
theorem nl_le (S : ByteArray) : ∀ f i, S.size - i ≤ f → nl S i ≤ S.size - i
  | 0, i, h => by rw [nl_end S _ (by omega)]; exact Nat.zero_le _
  | f + 1, i, h => by
    by_cases hi : i < S.size
    · rw [nl_step S i hi]
      have := nl_le S f (i + 1) (by omega)
      split <;> omega
    · rw [nl_end S _ (by omega)]; exact Nat.zero_le _
end Go.Proofs.Qxb6613145aFmt
