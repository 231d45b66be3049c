/- The shared walks of seat b6608749aF, first part: strings.Cut at the one byte '#', hasHash, zzBytes. -/
import Derived.Test.Qxb6608749aFmtProg
import Derived.WalkKit
import Derived.Outline
import Derived.WalkLawsBesides
import Derived.WalkSpells
import Derived.Lib.Bytealg
import Derived.Lib.IndexLaws
import Derived.Lib.IndexBytes
import Derived.Deep.QuietTactic
import Derived.BigQuiet
namespace Go.Proofs.Qxb6608749aFmt
open Go.RowKit

/-- internal/stringslite.IndexByte. -/
theorem indexByte_c (s : ByteArray) (c : Int) (w : World) :
    Calls Tryf.prog 25 #[.string s, .int .u8 c] w fun e w' => e = .returned (.int .i64 (Lib.indexByte s.data.toList c.toNat.toUInt8)) ∧ w' = w := by
  go_enter Tryf.func25, Tryf.ntmps25
  go_wp2
  rw [run_callFunc_extern Tryf.func31 (by kernel_rfl) (by kernel_rfl) (by kernel_rfl) (e := Extern.BytealgIndexByte.indexByte) (by kernel_rfl), Lib.run_indexByteString]
  simp only [Result.andThen]
  rw [Oper.upon_value]
  go_wp2
  go_ret
  exact ⟨rfl, rfl⟩

set_option maxHeartbeats 1000000 in
/-- internal/stringslite.Index at a substr of the one byte '#'. -/
theorem index_c (s : ByteArray) (w : World) :
    Calls Tryf.prog 18 #[.string s, .string ⟨#[35]⟩] w fun e w' => e = .returned (.int .i64 (Lib.indexByte s.data.toList 35)) ∧ w' = w := by
  go_enter Tryf.func18, Tryf.ntmps18
  go_wp2_with (go_at_call 25; refine (indexByte_c _ _ _).mono ?_; rintro e w' ⟨rfl, rfl⟩)
  · have h : ([35] == s.toList) = true := by assumption
    go_ret
    refine ⟨?_, rfl⟩
    have e : s.data.toList = [35] := by rw [← Lib.toList_data]; exact (beq_iff_eq.1 h).symm
    rw [e]
    simp [Lib.indexByte]
  · go_ret
    exact ⟨rfl, rfl⟩

/-- The first '#' of s stands at i. -/
def At (s : ByteArray) (i : Nat) : Prop := Lib.indexByte s.data.toList 35 = (i : Int)
/-- s holds no '#'. -/
def Nowhere (s : ByteArray) : Prop := Lib.indexByte s.data.toList 35 = -1

theorem at_or (s : ByteArray) : Nowhere s ∨ ∃ i, At s i := by
  have h := Lib.indexByte_ge s.data.toList 35
  unfold Nowhere At
  by_cases e : Lib.indexByte s.data.toList 35 = -1
  · exact Or.inl e
  · exact Or.inr ⟨(Lib.indexByte s.data.toList 35).toNat, by omega⟩

theorem At.lt {s : ByteArray} {i : Nat} (h : At s i) : i < s.size := by
  have := (Lib.indexByte_some h).1
  have := (List.getElem?_eq_some_iff.1 this).1
  simpa using this

set_option maxHeartbeats 1000000 in
theorem scut_miss (s : ByteArray) (h : Nowhere s) (w : World) :
    Calls Tryf.prog 13 #[.string s, .string ⟨#[35]⟩] w fun e w' => e = .returned (.tuple #[.string s, .string ⟨#[]⟩, .bool false]) ∧ ∃ n, w' = w.drewN n := by

  go_enter Tryf.func13, Tryf.ntmps13
  go_wp2_with (go_at_call 18; refine (index_c _ _).mono ?_; rintro e w' ⟨rfl, rfl⟩; rw [show Lib.indexByte s.data.toList 35 = _ from h])
  go_ret3
  exact ⟨rfl, 0, rfl⟩

set_option maxHeartbeats 1000000 in
theorem scut_hit (s : ByteArray) (i : Nat) (h : At s i) (hs : s.size ≤ maxLen) (w : World) :
    Calls Tryf.prog 13 #[.string s, .string ⟨#[35]⟩] w fun e w' => e = .returned (.tuple #[.string (s.extract 0 i), .string (s.extract (i + 1) s.size), .bool true]) ∧ ∃ n, w' = w.drewN n := by
  unfold maxLen at hs
  have hl := h.lt
  have c1 : (0 : Int) ≤ ↑i := by omega
  have c2 : (↑i : Int) ≤ ↑s.size := by omega
  have c3 : (0 : Int) ≤ ↑i + 1 := by omega
  have c4 : (↑i + 1 : Int) ≤ ↑s.size := by omega

  go_enter Tryf.func13, Tryf.ntmps13
  go_wp2_with (go_at_call 18; refine (index_c _ _).mono ?_; rintro e w' ⟨rfl, rfl⟩; rw [show Lib.indexByte s.data.toList 35 = _ from h])
  go_region
  go_wp2
  go_ret3
  exact ⟨rfl, 1, rfl⟩

set_option maxHeartbeats 1000000 in
theorem cut_miss (s : ByteArray) (h : Nowhere s) (w : World) :
    Calls Tryf.prog 10 #[.string s, .string ⟨#[35]⟩] w fun e w' => e = .returned (.tuple #[.string s, .string ⟨#[]⟩, .bool false]) ∧ ∃ n, w' = w.drewN n := by
  go_enter Tryf.func10, Tryf.ntmps10
  go_wp2_with (go_at_call 13; refine (scut_miss _ h _).mono ?_; rintro e w' ⟨rfl, n, rfl⟩)
  go_ret3
  exact ⟨rfl, n, rfl⟩

set_option maxHeartbeats 1000000 in
theorem cut_hit (s : ByteArray) (i : Nat) (h : At s i) (hs : s.size ≤ maxLen) (w : World) :
    Calls Tryf.prog 10 #[.string s, .string ⟨#[35]⟩] w fun e w' => e = .returned (.tuple #[.string (s.extract 0 i), .string (s.extract (i + 1) s.size), .bool true]) ∧ ∃ n, w' = w.drewN n := by
  go_enter Tryf.func10, Tryf.ntmps10
  go_wp2_with (go_at_call 13; refine (scut_hit _ i h hs _).mono ?_; rintro e w' ⟨rfl, n, rfl⟩)
  go_ret3
  exact ⟨rfl, n, rfl⟩

theorem At.byte {s : ByteArray} {i : Nat} (h : At s i) : s[i]'h.lt = 35 := by
  have := (Lib.indexByte_some h).1
  have := (List.getElem?_eq_some_iff.1 this).2
  show s.data[i]'h.lt = 35
  simpa using this

theorem At.before {s : ByteArray} {i : Nat} (h : At s i) (k : Nat) (hk : k < i) : s[k]'(Nat.lt_trans hk h.lt) ≠ 35 := by
  intro e
  have := (Lib.indexByte_some h).2 k hk
  apply this
  rw [List.getElem?_eq_some_iff]
  exact ⟨by have := h.lt; simp; omega, by simpa using (show s.data[k]'(Nat.lt_trans hk h.lt) = 35 from e)⟩

theorem Nowhere.byte {s : ByteArray} (h : Nowhere s) (k : Nat) (hk : k < s.size) : s[k] ≠ 35 := by
  intro e
  have := Lib.indexByte_none h k
  apply this
  rw [List.getElem?_eq_some_iff]
  exact ⟨by simpa using hk, by simpa using (show s.data[k]'hk = 35 from e)⟩

theorem nowhere_of {s : ByteArray} (h : ∀ k (hk : k < s.size), s[k] ≠ 35) : Nowhere s := by
  rcases at_or s with h' | ⟨i, hi⟩
  · exact h'
  · exact absurd hi.byte (h i hi.lt)

theorem at_of {s : ByteArray} {i : Nat} (hi : i < s.size) (h : s[i] = 35) (hn : ∀ k (hk : k < i), s[k]'(Nat.lt_trans hk hi) ≠ 35) : At s i := by
  rcases at_or s with h' | ⟨j, hj⟩
  · exact absurd h (h'.byte i hi)
  · have : j = i := by
      rcases Nat.lt_trichotomy i j with h1 | h1 | h1
      · exact absurd h (hj.before i h1)
      · exact h1.symm
      · exact absurd hj.byte (hn j h1)
    exact this ▸ hj

theorem byte_int {b : UInt8} : (((b.toNat : Int) == 35) = true) ↔ b = 35 := by
  rw [beq_iff_eq]
  constructor
  · intro h
    apply UInt8.toNat_inj.1
    have : (35 : UInt8).toNat = 35 := rfl
    omega
  · intro h
    subst h
    rfl

set_option maxHeartbeats 1000000 in
/-- hasHash. -/
theorem has_no (s : ByteArray) (h : Nowhere s) (hs : s.size ≤ maxLen) (w : World) :
    Calls Tryf.prog 6 #[.string s] w fun e w' => e = .returned (.bool false) ∧ w = w' := by
  unfold maxLen at hs
  go_enter Tryf.func6, Tryf.ntmps6
  go_wp2
  go_loop [3] (fun vi => ∃ k : Nat, k ≤ s.size ∧ vi = .int .i64 k) (fun vi => s.size - (intOf vi).toNat)
  case atStart => exact ⟨0, Nat.zero_le _, rfl⟩
  case round =>
    obtain ⟨k, hk, rfl⟩ := hrel
    by_cases hlt : k < s.size
    · have hb : ((s[k].toNat : Int) == 35) = false := by
        rw [Bool.eq_false_iff]
        intro h'
        exact h.byte k hlt (byte_int.1 h')
      go_wp2
      go_round
      case rel => exact ⟨k + 1, by omega, by go_num⟩
      case measure => simp [intOf]; omega
    · go_wp2
      go_ret
      exact ⟨rfl, rfl⟩

set_option maxHeartbeats 1000000 in
theorem has_yes (s : ByteArray) (i : Nat) (h : At s i) (hs : s.size ≤ maxLen) (w : World) :
    Calls Tryf.prog 6 #[.string s] w fun e w' => e = .returned (.bool true) ∧ w = w' := by
  unfold maxLen at hs
  have hil := h.lt
  go_enter Tryf.func6, Tryf.ntmps6
  go_wp2
  go_loop [3] (fun vi => ∃ k : Nat, k ≤ i ∧ vi = .int .i64 k) (fun vi => s.size - (intOf vi).toNat)
  case atStart => exact ⟨0, Nat.zero_le _, rfl⟩
  case round =>
    obtain ⟨k, hk, rfl⟩ := hrel
    by_cases hlt : k < i
    · have hb : ((s[k].toNat : Int) == 35) = false := by
        rw [Bool.eq_false_iff]
        intro h'
        exact h.before k hlt (byte_int.1 h')
      go_wp2
      go_round
      case rel => exact ⟨k + 1, by omega, by go_num⟩
      case measure => simp [intOf]; omega
    · obtain rfl : k = i := by omega
      have hb : ((s[k].toNat : Int) == 35) = true := byte_int.2 h.byte
      go_wp2
      go_ret
      exact ⟨rfl, rfl⟩

theorem zb_any (a b : ByteArray) (ha : a.size ≤ maxLen) (hb : b.size ≤ maxLen) (w : World) :
    Calls Tryf.prog 5 #[.string a, .string b] w fun e w' => (∃ r, e = .returned (.bool r) ∧ (r = true → a.size + b.size ≤ 1048576)) ∧ w = w' := by
  unfold maxLen at ha hb
  by_cases h1 : a.size ≤ 1048576
  · by_cases h2 : b.size ≤ 1048576
    · by_cases h3 : a.size + b.size ≤ 1048576
      all_goals
        go_enter Tryf.func5, Tryf.ntmps5
        go_wp2
        go_ret
        exact ⟨⟨_, rfl, by simp; try omega⟩, rfl⟩
    · go_enter Tryf.func5, Tryf.ntmps5
      go_wp2
      go_ret
      exact ⟨⟨_, rfl, by simp⟩, rfl⟩
  · go_enter Tryf.func5, Tryf.ntmps5
    go_wp2
    go_ret
    exact ⟨⟨_, rfl, by simp⟩, rfl⟩

/-! ### What a text joined at '#' is -/
theorem size_join (a b : ByteArray) : (a ++ ⟨#[35]⟩ ++ b).size = a.size + 1 + b.size := by
  simp [ByteArray.size_append]; rfl
theorem get_left (a b : ByteArray) (k : Nat) (hk : k < a.size) : (a ++ ⟨#[35]⟩ ++ b)[k]'(by rw [size_join]; omega) = a[k] := by
  rw [ByteArray.getElem_append_left (by simp [ByteArray.size_append]; omega), ByteArray.getElem_append_left hk]
theorem get_mid (a b : ByteArray) : (a ++ ⟨#[35]⟩ ++ b)[a.size]'(by rw [size_join]; omega) = 35 := by
  rw [ByteArray.getElem_append_left (by simp [ByteArray.size_append]; decide), ByteArray.getElem_append_right (by simp)]
  simp
  rfl
theorem get_right (a b : ByteArray) (k : Nat) (hk : k < b.size) : (a ++ ⟨#[35]⟩ ++ b)[a.size + 1 + k]'(by rw [size_join]; omega) = b[k] := by
  have hz : (a ++ (⟨#[35]⟩ : ByteArray)).size = a.size + 1 := by simp [ByteArray.size_append]; rfl
  rw [ByteArray.getElem_append_right (by omega)]
  congr 1
  omega
theorem take_join (a b : ByteArray) : (a ++ ⟨#[35]⟩ ++ b).extract 0 a.size = a := by
  apply ByteArray.ext
  simp
theorem drop_join (a b : ByteArray) : (a ++ ⟨#[35]⟩ ++ b).extract (a.size + 1) (a ++ ⟨#[35]⟩ ++ b).size = b := by
  have hz : (a ++ (⟨#[35]⟩ : ByteArray)).size = a.size + 1 := by simp [ByteArray.size_append]; rfl
  have hs := size_join a b
  rw [hs, ByteArray.extract_append, hz]
  have e1 : (a ++ (⟨#[35]⟩ : ByteArray)).extract (a.size + 1) (a.size + 1 + b.size) = ByteArray.empty := by
    apply ByteArray.extract_eq_empty_iff.2
    omega
  rw [e1]
  have e2 : a.size + 1 - (a.size + 1) = 0 := by omega
  have e3 : a.size + 1 + b.size - (a.size + 1) = b.size := by omega
  rw [e2, e3, ByteArray.extract_zero_size]
  simp
theorem at_join (a b : ByteArray) (h : Nowhere a) : At (a ++ ⟨#[35]⟩ ++ b) a.size := by
  refine at_of (by rw [size_join]; omega) (get_mid a b) fun k hk => ?_
  rw [get_left a b k hk]
  exact h.byte k hk
end Go.Proofs.Qxb6608749aFmt
