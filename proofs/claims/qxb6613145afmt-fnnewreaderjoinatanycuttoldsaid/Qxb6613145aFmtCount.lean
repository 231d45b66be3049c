/- Seat b6613145aF: zzCountLines, the joined text, the rows that are gathered. -/
import Derived.Test.Qxb6613145aFmtJoin
import Derived.Test.Qxb6613145aFmtLawA
namespace Go.Proofs.Qxb6613145aFmt
open Go.RowKit
set_option linter.unusedVariables false

theorem gB_left (a b : ByteArray) (j : Nat) (h : j < a.size) : gB (a ++ b) j = gB a j := by
  have h2 : j < a.data.size := h
  unfold gB
  rw [ByteArray.data_append, Array.getD_eq_getD_getElem?, Array.getD_eq_getD_getElem?, Array.getElem?_append_left h2]
theorem gB_right (a b : ByteArray) (j : Nat) : gB (a ++ b) (a.size + j) = gB b j := by
  have h2 : a.data.size = a.size := rfl
  unfold gB
  rw [ByteArray.data_append, Array.getD_eq_getD_getElem?, Array.getD_eq_getD_getElem?, Array.getElem?_append_right (by omega), h2, Nat.add_sub_cancel_left]

/-- a, newline, b. -/
theorem joined (a b : ByteArray) : Within a (a ++ ⟨#[10]⟩ ++ b) 0 ∧ Within b (a ++ ⟨#[10]⟩ ++ b) (a.size + 1) ∧ (a ++ ⟨#[10]⟩ ++ b).size = a.size + 1 + b.size ∧ gB (a ++ ⟨#[10]⟩ ++ b) a.size = 10 := by
  have h1 : (⟨#[10]⟩ : ByteArray).size = 1 := rfl
  have hs : (a ++ ⟨#[10]⟩ ++ b).size = a.size + 1 + b.size := by rw [ByteArray.size_append, ByteArray.size_append, h1]
  have hs1 : (a ++ ⟨#[10]⟩).size = a.size + 1 := by rw [ByteArray.size_append, h1]
  refine ⟨⟨by omega, fun j hj => ?_⟩, ⟨by omega, fun j hj => ?_⟩, hs, ?_⟩
  · rw [Nat.zero_add, gB_left _ _ _ (by omega), gB_left _ _ _ hj]
  · have := gB_right (a ++ ⟨#[10]⟩) b j
    rwa [hs1] at this
  · rw [gB_left _ _ _ (by omega)]
    have := gB_right a ⟨#[10]⟩ 0
    rw [Nat.add_zero] at this
    rw [this]
    rfl

theorem bytesB_c (a b : ByteArray) (w : World) : Calls Tryf.prog 10 #[.string a, .string b] w fun e w' => e = .returned (.bool (decide (a.size + b.size ≤ 1048576))) ∧ w = w' := by
  by_cases ha : a.size ≤ 1048576
  · have y0 : ¬ (1048576 : Int) < (a.size : Int) := by omega
    by_cases hb : b.size ≤ 1048576
    · have y1 : ¬ (1048576 : Int) < (b.size : Int) := by omega
      by_cases h : a.size + b.size ≤ 1048576
      · rw [decide_eq_true h]
        have y2 : ¬ (1048576 : Int) < (a.size : Int) + (b.size : Int) := by omega
        go_enter Tryf.func10, Tryf.ntmps10
        go_wp2
        go_ret
        exact ⟨rfl, rfl⟩
      · rw [decide_eq_false h]
        have y2 : (1048576 : Int) < (a.size : Int) + (b.size : Int) := by omega
        go_enter Tryf.func10, Tryf.ntmps10
        go_wp2
        go_ret
        exact ⟨rfl, rfl⟩
    · rw [decide_eq_false (by omega)]
      have y1 : (1048576 : Int) < (b.size : Int) := by omega
      go_enter Tryf.func10, Tryf.ntmps10
      go_wp2
      go_ret
      exact ⟨rfl, rfl⟩
  · rw [decide_eq_false (by omega)]
    have y0 : (1048576 : Int) < (a.size : Int) := by omega
    go_enter Tryf.func10, Tryf.ntmps10
    go_wp2
    go_ret
    exact ⟨rfl, rfl⟩

set_option maxHeartbeats 2000000 in
set_option maxRecDepth 100000 in
theorem count_c (S : ByteArray) (w : World) (hS : S.size ≤ 140000) : Calls Tryf.prog 11 #[.string S] w fun e w' => e = .returned (.int .i64 ((linesFrom S 0).length : Int)) ∧ w = w' := by
  have HC := Lib.hid (lines_count S S.size 0 (by omega) (Nat.zero_le _))
  have HLe := Lib.hid (nl_le S S.size 0 (by omega))
  obtain ⟨N, hN⟩ : ∃ N, N = (linesFrom S 0).length := ⟨_, rfl⟩
  rw [← hN] at HC ⊢
  clear hN
  go_enter Tryf.func11, Tryf.ntmps11
  go_wp2
  go_loopg [3, 4] (S.size + 1) (fun gz s3 s4 wr => ∃ (c i : Nat), s3 = .int .i64 (c : Int) ∧ s4 = .int .i64 (i : Int) ∧ wr = w ∧ c + nl S i = nl S 0 ∧ c ≤ i ∧ i ≤ S.size ∧ S.size - i + 1 ≤ gz)
  case atStart => exact ⟨0, 0, rfl, rfl, rfl, Nat.zero_add _, Nat.le_refl _, Nat.zero_le _, by omega⟩
  case round =>
    obtain ⟨c, i, rfl, rfl, rfl, hc, hci, hi, hg⟩ := hrel
    by_cases hlt : i < S.size
    · have y0 : (i : Int) < (S.size : Int) := by omega
      have hgg := gB_get S i hlt
      have hst := nl_step S i hlt
      by_cases h10 : gB S i = 10
      · rw [if_pos h10] at hst
        have HH := Lib.hid (show c + 1 + nl S (i + 1) = nl S 0 by omega)
        rw [h10] at hgg
        clear hst h10 hc
        go_wp2_with fail
        go_roundg (S.size - (i + 1) + 1)
        case measure => omega
        case rel => exact ⟨c + 1, i + 1, by simp, by simp, rfl, HH.out, by omega, by omega, Nat.le_refl _⟩
      · rw [if_neg h10] at hst
        have HH := Lib.hid (show c + nl S (i + 1) = nl S 0 by omega)
        have z : ((S[i].toNat : Int) == 10) = false := by rw [beq_eq_false_iff_ne, hgg]; exact h10
        clear hst h10 hgg hc
        go_wp2_with fail
        go_roundg (S.size - (i + 1) + 1)
        case measure => omega
        case rel => exact ⟨c, i + 1, rfl, by simp, rfl, HH.out, by omega, by omega, Nat.le_refl _⟩
    · obtain rfl : i = S.size := by omega
      have hcc : c = nl S 0 := by rw [nl_end S S.size (Nat.le_refl _)] at hc; omega
      have hC := HC.out
      by_cases h0 : S.size = 0
      · have y1 : ¬ (0 : Int) < (S.size : Int) := by omega
        rw [if_neg (by omega)] at hC
        obtain rfl : c = N := by omega
        clear hC hcc hc hlt HC HLe
        go_wp2_with fail
        go_ret
        exact ⟨rfl, rfl⟩
      · have y1 : (0 : Int) < (S.size : Int) := by omega
        have hgg := gB_get S (S.size - 1) (by omega)
        by_cases h10 : gB S (S.size - 1) = 10
        · rw [if_neg (fun x => x.2 h10)] at hC
          obtain rfl : c = N := by omega
          rw [h10] at hgg
          clear hC hcc hc hlt HC HLe h10
          go_wp2_with fail
          go_ret
          exact ⟨rfl, rfl⟩
        · rw [if_pos ⟨by omega, h10⟩] at hC
          obtain rfl : N = c + 1 := by omega
          have z : (((S[S.size - 1]'(by omega)).toNat : Int) == 10) = false := by rw [beq_eq_false_iff_ne, hgg]; exact h10
          clear hC hcc hc hlt HC HLe h10 hgg
          go_wp2_with fail
          go_ret
          exact ⟨by simp, rfl⟩

/-- The row that is gathered from nil behind the world w3. -/
def WB (w3 W : World) (v : Value) (n : Nat) (xs : List ByteArray) : Prop := W.ownsRow w3.heap.size 9 1 v n (xs.map .string) ∧ Apart (fun _ => False) w3 W
theorem WB.start (w : World) : WB w w (.slice none 0 0) 0 [] := ⟨World.ownsRow_nil _ _ _ _, Apart.refl _ _⟩
theorem WB.push {w3 W : World} {v : Value} {n : Nat} {xs : List ByteArray} (h : WB w3 W v n xs) (x : ByteArray) (hn : n ≤ 1000000) :
    ∃ v' w', (Builtin.append_ #[23, 23] 23 #[v, .slice (some ⟨W.heap.size, 0, none⟩) 1 1]).run Tryf.prog (W.alloc (.cells #[.string x] 9)) = .ok v' w' ∧ WB w3 w' v' (n + 1) (xs ++ [x]) := by
  obtain ⟨v', w', hr, ho, hA, _⟩ := push23 w3.heap.size v n _ W (.string x) h.1 rfl hn h.2.size
  refine ⟨v', w', hr, by simpa using ho, h.2.trans hA (fun k hk _ e => ?_)⟩
  have := (h.1.lt k e).1
  omega
end Go.Proofs.Qxb6613145aFmt
