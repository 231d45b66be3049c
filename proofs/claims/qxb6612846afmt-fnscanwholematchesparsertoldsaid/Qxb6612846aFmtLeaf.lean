/- Seat b6612846aF: the leaves' walks: zzb1PolMark, zzb1PolNul, utf16le.IndexUnit, IndexNUL, zzBytes. -/
import Derived.Test.Qxb6612846aFmtShelf
import Derived.Test.Qxb6612846aFmtPlain
import Derived.WalkKit
import Derived.Outline
import Derived.WalkLawsBesides
import Derived.WalkSpells
import Derived.Deep.QuietTactic
import Derived.BigQuiet
import Derived.Deep.RegionWith
import Derived.Lib.Hide
import Derived.Lib.Walk
import Derived.Lib.AtoiErrMem
namespace Go.Proofs.Qxb6612846aFmt
open Go.RowKit
set_option linter.unusedVariables false

/-- The bytes g below n lie in block b. -/
def Lies (w : World) (b n : Nat) (g : Nat → Int) : Prop := ∀ j, j < n → w.cell? ⟨b, j, none⟩ = some (.int .u8 (g j))

theorem mark_short (b n cp k : Nat) (z c : Int) (w : World) (hz : z = k) (h : n < k + 2) (hk : k ≤ n) (hn : n ≤ 1048576) :
    Calls Tryf.prog 12 #[.slice (some ⟨b, 0, none⟩) n cp, .int .i64 z, .int .u8 c] w fun e w' => e = .returned (.int .i64 1) ∧ w = w' := by
  subst hz
  go_enter Tryf.func12, Tryf.ntmps12
  go_wp2
  go_ret
  exact ⟨rfl, rfl⟩

theorem mark_bad (b n cp k : Nat) (z c : Int) (g : Nat → Int) (w : World) (hz : z = k) (h : k + 2 ≤ n) (hn : n ≤ 1048576) (hl : Lies w b n g) (hb : g k ≠ c ∨ g (k + 1) ≠ 0) :
    Calls Tryf.prog 12 #[.slice (some ⟨b, 0, none⟩) n cp, .int .i64 z, .int .u8 c] w fun e w' => e = .returned (.int .i64 2) ∧ w = w' := by
  subst hz
  have h0 := hl k (by omega)
  have h1 := hl (k + 1) (by omega)
  by_cases e : g k = c
  · have t0 : (g k != c) = false := by simp [e]
    have t1 : (g (k + 1) != 0) = true := by simp; rcases hb with h | h; exact absurd e h; exact h
    clear hb e
    go_enter Tryf.func12, Tryf.ntmps12
    go_wp2
    go_ret
    exact ⟨rfl, rfl⟩
  · have t0 : (g k != c) = true := by simp [e]
    clear hb e
    go_enter Tryf.func12, Tryf.ntmps12
    go_wp2
    go_ret
    exact ⟨rfl, rfl⟩

theorem mark_ok (b n cp k : Nat) (z c : Int) (g : Nat → Int) (w : World) (hz : z = k) (h : k + 2 ≤ n) (hn : n ≤ 1048576) (hl : Lies w b n g) (hb : ¬ (g k ≠ c ∨ g (k + 1) ≠ 0)) :
    Calls Tryf.prog 12 #[.slice (some ⟨b, 0, none⟩) n cp, .int .i64 z, .int .u8 c] w fun e w' => e = .returned (.int .i64 0) ∧ w = w' := by
  subst hz
  have h0 := hl k (by omega)
  have h1 := hl (k + 1) (by omega)
  have t0 : (g k != c) = false := by simp; omega
  have t1 : (g (k + 1) != 0) = false := by simp; omega
  clear hb
  go_enter Tryf.func12, Tryf.ntmps12
  go_wp2
  go_ret
  exact ⟨rfl, rfl⟩

set_option maxHeartbeats 1000000 in
theorem polNul_c (b n cp k : Nat) (z : Int) (g : Nat → Int) (w : World) (hz : z = k) (hk : k ≤ n) (hn : n ≤ 1048576) (hl : Lies w b n g) :
    Calls Tryf.prog 13 #[.slice (some ⟨b, 0, none⟩) n cp, .int .i64 z] w fun e w' => e = .returned (.int .i64 (nul g n k)) ∧ w = w' := by
  subst hz
  go_enter Tryf.func13, Tryf.ntmps13
  go_wp2
  go_loop [5] (fun vj => ∃ j : Nat, k ≤ j ∧ j ≤ n + 1 ∧ (j - k) % 2 = 0 ∧ vj = .int .i64 j ∧ Hid (∀ i, k ≤ i → (i - k) % 2 = 0 → i < j → ¬ Pair g i)) (fun vj => n + 2 - (intOf vj).toNat)
  case atStart => exact ⟨k, Nat.le_refl _, by omega, by simp, rfl, Lib.hid (fun i h1 _ h3 => by omega)⟩
  case round =>
    obtain ⟨j, hkj, hjn, hpar, rfl, hp⟩ := hrel
    by_cases hlt : j + 1 < n
    · have h0 := hl j (by omega)
      have h1 := hl (j + 1) (by omega)
      by_cases e0 : g j = 0
      · by_cases e1 : g (j + 1) = 0
        · have hr : Hid (nul g n k = ((j + 2 : Nat) : Int)) := Lib.hid (nul_some g n k j hkj hpar hlt ⟨e0, e1⟩ hp.out)
          have t0 : (g j == 0) = true := by simp [e0]
          have t1 : (g (j + 1) == 0) = true := by simp [e1]
          clear e0 e1
          go_wp2
          go_ret
          exact ⟨by rw [hr.out]; rfl, rfl⟩
        · have t0 : (g j == 0) = true := by simp [e0]
          have t1 : (g (j + 1) == 0) = false := by simp [e1]
          have hp' : Hid (∀ i, k ≤ i → (i - k) % 2 = 0 → i < j + 2 → ¬ Pair g i) := Lib.hid (fun i h1 h2 h3 h4 => by
            by_cases h : i < j
            · exact hp.out i h1 h2 h h4
            · have : i = j ∨ i = j + 1 := by omega
              rcases this with rfl | rfl
              · exact e1 h4.2
              · omega)
          clear e0 e1
          go_wp2
          go_round
          case rel => exact ⟨j + 2, by omega, by omega, by omega, by go_num, hp'⟩
          case measure => simp [intOf]; omega
      · have t0 : (g j == 0) = false := by simp [e0]
        have hp' : Hid (∀ i, k ≤ i → (i - k) % 2 = 0 → i < j + 2 → ¬ Pair g i) := Lib.hid (fun i h1 h2 h3 h4 => by
            by_cases h : i < j
            · exact hp.out i h1 h2 h h4
            · have : i = j ∨ i = j + 1 := by omega
              rcases this with rfl | rfl
              · exact e0 h4.1
              · omega)
        clear e0
        go_wp2
        go_round
        case rel => exact ⟨j + 2, by omega, by omega, by omega, by go_num, hp'⟩
        case measure => simp [intOf]; omega
    · have hr : Hid (nul g n k = -1) := Lib.hid (nul_none g n k (fun i h1 h2 h3 => hp.out i h1 h2 (by omega)))
      go_wp2
      go_ret
      exact ⟨by rw [hr.out]; rfl, rfl⟩

theorem drewN_drewN (w : World) (a b : Nat) : (w.drewN a).drewN b = w.drewN (a + b) := by simp [World.drewN, Nat.add_assoc]
theorem below_drewN {B : Nat} {w w1 : World} (h : Below B w w1) (n : Nat) : Below B w (w1.drewN n) := h.trans ⟨rfl, rfl, rfl, Nat.le_refl _, fun _ _ => rfl⟩

theorem addr_add (b o i : Nat) : (⟨b, o, none⟩ : Addr).add i = ⟨b, o + i, none⟩ := by simp [Addr.add]

set_option maxHeartbeats 1000000 in
/-- utf16le.IndexUnit(b, 0): the first pair of zero bytes at an even place of the slice. -/
theorem indexUnit_c (b o m cp : Nat) (g : Nat → Int) (mx : Int) (w : World) (hm : m ≤ 1048576) (hcap : m ≤ cp) (hl : ∀ j, j < m → w.cell? ⟨b, o + j, none⟩ = some (.int .u8 (g (o + j)))) (hg : ∀ j, 0 ≤ g j ∧ g j < 256) (hM : w.cell? ⟨2, 0, none⟩ = some (.int .i64 mx)) :
    Calls Tryf.prog 24 #[.slice (some ⟨b, o, none⟩) m cp, .int .u16 0] w fun e w' =>
      ((e = .returned (.int .i64 (-1)) ∧ ∀ j, j % 2 = 0 → j + 1 < m → ¬ Pair g (o + j)) ∨
       ∃ i : Nat, e = .returned (.int .i64 i) ∧ i % 2 = 0 ∧ i + 1 < m ∧ Pair g (o + i) ∧ ∀ j, j % 2 = 0 → j < i → ¬ Pair g (o + j)) ∧ Below w.heap.size w w' := by
  have hb0 : b < w.heap.size ∨ m = 0 := by
    rcases Nat.eq_zero_or_pos m with h | h
    · exact Or.inr h
    · exact Or.inl (Lib.lt_of_cell (hl 0 h))
  have hG2 : 2 < w.heap.size := Lib.lt_of_cell hM
  have HL : Hid (∀ j, j < m → w.cell? ⟨b, o + j, none⟩ = some (.int .u8 (g (o + j)))) := Lib.hid hl
  clear hl
  go_enter Tryf.func24, Tryf.ntmps24
  go_wp2
  obtain ⟨W1, hW1⟩ : ∃ W1, W1 = w.alloc (.cells #[.int .u8 0, .int .u8 0] 5) := ⟨_, rfl⟩
  have hb1 : Below w.heap.size w W1 := by rw [hW1]; exact (Below.refl _ w).alloc (Nat.le_refl _) _
  have hu0 : W1.cell? ⟨w.heap.size, 0, none⟩ = some (.int .u8 0) := by rw [hW1]; unfold World.cell?; rw [heap_alloc_new]; rfl
  have hu1 : W1.cell? ⟨w.heap.size, 1, none⟩ = some (.int .u8 0) := by rw [hW1]; unfold World.cell?; rw [heap_alloc_new]; rfl
  have hM1 : W1.cell? ⟨2, 0, none⟩ = some (.int .i64 mx) := (hb1.cell (show (⟨2, 0, none⟩ : Addr).block < w.heap.size from hG2)).trans hM
  have HL1 : Hid (∀ j, j < m → W1.cell? ⟨b, o + j, none⟩ = some (.int .u8 (g (o + j)))) := Lib.hid (fun j hj => (hb1.cell (show (⟨b, o + j, none⟩ : Addr).block < w.heap.size from by rcases hb0 with h | h; exact h; omega)).trans (HL.out j hj))
  rw [← hW1]
  clear hW1 HL hM
  go_loopw [6] (fun vi wr => ∃ k q : Nat, k ≤ m ∧ vi = .int .i64 k ∧ wr = W1.drewN q ∧ Hid (∀ j, j % 2 = 0 → j < k → ¬ Pair g (o + j))) (fun vi _ => m - (intOf vi).toNat)
  case atStart => exact ⟨0, 0, Nat.zero_le _, rfl, rfl, Lib.hid (fun j _ h => by omega)⟩
  case round =>
    obtain ⟨k, q, hk, rfl, rfl, hp⟩ := hrel
    by_cases hlt : k + 1 < m
    · have i1 : (k : Int) < (m : Int) - 1 := by omega
      have i2 : (0 : Int) ≤ (k : Int) := by omega
      have i3 : (k : Int) ≤ (m : Int) := by omega
      have hX := index_c ⟨b, o + k, none⟩ ⟨w.heap.size, 0, none⟩ (m - k) (cp - k) 2 2 (row (fun i => g (o + k + i)) (m - k)) [0, 0] mx (W1.drewN q) (row_length _ _) rfl
        (row_mem _ _ (fun i _ => hg _)) (by intro y hy; simp at hy; subst hy; decide)
        (fun i hi => by rw [addr_add, row_getD _ _ _ hi]; have := HL1.out (k + i) (by omega); rw [show o + k + i = o + (k + i) by omega]; exact this)
        (fun i hi => by rw [addr_add]; rcases (show i = 0 ∨ i = 1 by omega) with rfl | rfl; exact hu0; exact hu1)
        (by omega) (by omega) (by decide) hM1
      have hI := index_pair (fun i => g (o + k + i)) (m - k) (fun i _ => hg _)
      generalize Lib.index (Lib.bytesOf (row (fun i => g (o + k + i)) (m - k))) (Lib.bytesOf [0, 0]) = r at hX hI
      have HX := Lib.hid hX
      clear hX
      go_wp2_with (go_at_call 25; refine (HX.out).mono ?_)
      rintro e w2 ⟨rfl, q2, rfl⟩
      rw [drewN_drewN]
      rcases hI with ⟨rfl, hno⟩ | ⟨i, rfl, hi, hpr, hbf⟩
      · have hfin : Hid (∀ j, j % 2 = 0 → j + 1 < m → ¬ Pair g (o + j)) := Lib.hid (fun j h1 h2 h3 => by
          by_cases h : j < k
          · exact hp.out j h1 h h3
          · refine hno (j - k) (by omega) ?_
            have e1 : o + k + (j - k) = o + j := by omega
            have e2 : o + k + (j - k + 1) = o + j + 1 := by omega
            exact ⟨by show g (o + k + (j - k)) = 0; rw [e1]; exact h3.1, by show g (o + k + (j - k + 1)) = 0; rw [e2]; exact h3.2⟩)
        clear hno
        go_wp2
        go_ret
        exact ⟨Or.inl ⟨rfl, hfin.out⟩, below_drewN hb1 _⟩
      · have e1 : o + k + i = o + (k + i) := by omega
        have hpr' : Hid (Pair g (o + (k + i))) := Lib.hid ⟨by have := hpr.1; rw [← e1]; exact this, by have := hpr.2; rw [← e1]; exact this⟩
        have hbf' : Hid (∀ j, j % 2 = 0 → j < k + i → ¬ Pair g (o + j)) := Lib.hid (fun j h1 h2 h3 => by
          by_cases h : j < k
          · exact hp.out j h1 h h3
          · refine hbf (j - k) (by omega) ?_
            have e1 : o + k + (j - k) = o + j := by omega
            have e2 : o + k + (j - k + 1) = o + j + 1 := by omega
            exact ⟨by show g (o + k + (j - k)) = 0; rw [e1]; exact h3.1, by show g (o + k + (j - k + 1)) = 0; rw [e2]; exact h3.2⟩)
        clear hpr hbf e1
        by_cases hev : (k + i) % 2 = 0
        · have t0 : (((k : Int) + (i : Int)) % 2 == 0) = true := by rw [beq_iff_eq]; omega
          go_wp2
          go_ret
          exact ⟨Or.inr ⟨k + i, by simp, hev, by omega, hpr'.out, hbf'.out⟩, below_drewN hb1 _⟩
        · have t0 : (((k : Int) + (i : Int)) % 2 == 0) = false := by rw [beq_eq_false_iff_ne]; omega
          go_wp2
          go_roundw
          case rel => exact ⟨k + i + 1, _, by omega, by go_num, rfl, Lib.hid (fun j h1 h2 h3 => by
            by_cases h : j < k + i
            · exact hbf'.out j h1 h h3
            · omega)⟩
          case measure => simp [intOf]; omega
    · have i1 : ¬ (k : Int) < (m : Int) - 1 := by omega
      go_wp2
      go_ret
      exact ⟨Or.inl ⟨rfl, fun j h1 h2 => hp.out j h1 (by omega)⟩, below_drewN hb1 q⟩
end Go.Proofs.Qxb6612846aFmt
