/- The shared walks of seat b6605495a: strings.Cut and strings.LastIndex at the one byte '/', Datatype, Split, zzHasSlash. -/
import Derived.Test.Qxb6605495aProg
import Derived.WalkKit
import Derived.Outline
import Derived.WalkLawsBesides
import Derived.WalkSpells
import Derived.Lib.Bytealg
import Derived.Lib.IndexLaws
import Derived.Lib.IndexBytes
import Derived.Lib.LastIndexByte
import Derived.Deep.QuietTactic
import Derived.BigQuiet
namespace Go.Proofs.Qxb6605495a
open Go.RowKit

/-- internal/stringslite.IndexByte. -/
theorem indexByte_c (s : ByteArray) (c : Int) (w : World) :
    Calls Try.prog 21 #[.string s, .int .u8 c] w fun e w' => e = .returned (.int .i64 (Lib.indexByte s.data.toList c.toNat.toUInt8)) ∧ w' = w := by
  go_enter Try.func21, Try.ntmps21
  go_wp2
  rw [run_callFunc_extern Try.func25 (by kernel_rfl) (by kernel_rfl) (by kernel_rfl) (e := Extern.BytealgIndexByte.indexByte) (by kernel_rfl), Lib.run_indexByteString]
  simp only [Result.andThen]
  rw [Oper.upon_value]
  go_wp2
  go_ret
  exact ⟨rfl, rfl⟩

set_option maxHeartbeats 1000000 in
/-- internal/stringslite.Index at a substr of the one byte '/'. -/
theorem index_c (s : ByteArray) (w : World) :
    Calls Try.prog 19 #[.string s, .string ⟨#[47]⟩] w fun e w' => e = .returned (.int .i64 (Lib.indexByte s.data.toList 47)) ∧ w' = w := by
  go_enter Try.func19, Try.ntmps19
  go_wp2_with (go_at_call 21; refine (indexByte_c _ _ _).mono ?_; rintro e w' ⟨rfl, rfl⟩)
  · have h : ([47] == s.toList) = true := by assumption
    go_ret
    refine ⟨?_, rfl⟩
    have e : s.data.toList = [47] := by rw [← Lib.toList_data]; exact (beq_iff_eq.1 h).symm
    rw [e]
    simp [Lib.indexByte]
  · go_ret
    exact ⟨rfl, rfl⟩

/-- The first '/' of s stands at i. -/
def At (s : ByteArray) (i : Nat) : Prop := Lib.indexByte s.data.toList 47 = (i : Int)
/-- s holds no '/'. -/
def Nowhere (s : ByteArray) : Prop := Lib.indexByte s.data.toList 47 = -1

theorem at_or (s : ByteArray) : Nowhere s ∨ ∃ i, At s i := by
  have h := Lib.indexByte_ge s.data.toList 47
  unfold Nowhere At
  by_cases e : Lib.indexByte s.data.toList 47 = -1
  · exact Or.inl e
  · exact Or.inr ⟨(Lib.indexByte s.data.toList 47).toNat, by omega⟩

theorem At.lt {s : ByteArray} {i : Nat} (h : At s i) : i < s.size := by
  have := (Lib.indexByte_some h).1
  have := (List.getElem?_eq_some_iff.1 this).1
  simpa using this

set_option maxHeartbeats 1000000 in
theorem scut_miss (s : ByteArray) (h : Nowhere s) (w : World) :
    Calls Try.prog 16 #[.string s, .string ⟨#[47]⟩] w fun e w' => e = .returned (.tuple #[.string s, .string ⟨#[]⟩, .bool false]) ∧ ∃ n, w' = w.drewN n := by

  go_enter Try.func16, Try.ntmps16
  go_wp2_with (go_at_call 19; refine (index_c _ _).mono ?_; rintro e w' ⟨rfl, rfl⟩; rw [show Lib.indexByte s.data.toList 47 = _ from h])
  go_ret3
  exact ⟨rfl, 0, rfl⟩

set_option maxHeartbeats 1000000 in
theorem scut_hit (s : ByteArray) (i : Nat) (h : At s i) (hs : s.size ≤ maxLen) (w : World) :
    Calls Try.prog 16 #[.string s, .string ⟨#[47]⟩] w fun e w' => e = .returned (.tuple #[.string (s.extract 0 i), .string (s.extract (i + 1) s.size), .bool true]) ∧ ∃ n, w' = w.drewN n := by
  unfold maxLen at hs
  have hl := h.lt
  have c1 : (0 : Int) ≤ ↑i := by omega
  have c2 : (↑i : Int) ≤ ↑s.size := by omega
  have c3 : (0 : Int) ≤ ↑i + 1 := by omega
  have c4 : (↑i + 1 : Int) ≤ ↑s.size := by omega

  go_enter Try.func16, Try.ntmps16
  go_wp2_with (go_at_call 19; refine (index_c _ _).mono ?_; rintro e w' ⟨rfl, rfl⟩; rw [show Lib.indexByte s.data.toList 47 = _ from h])
  go_region
  go_wp2
  go_ret3
  exact ⟨rfl, 1, rfl⟩

set_option maxHeartbeats 1000000 in
theorem cut_miss (s : ByteArray) (h : Nowhere s) (w : World) :
    Calls Try.prog 14 #[.string s, .string ⟨#[47]⟩] w fun e w' => e = .returned (.tuple #[.string s, .string ⟨#[]⟩, .bool false]) ∧ ∃ n, w' = w.drewN n := by
  go_enter Try.func14, Try.ntmps14
  go_wp2_with (go_at_call 16; refine (scut_miss _ h _).mono ?_; rintro e w' ⟨rfl, n, rfl⟩)
  go_ret3
  exact ⟨rfl, n, rfl⟩

set_option maxHeartbeats 1000000 in
theorem cut_hit (s : ByteArray) (i : Nat) (h : At s i) (hs : s.size ≤ maxLen) (w : World) :
    Calls Try.prog 14 #[.string s, .string ⟨#[47]⟩] w fun e w' => e = .returned (.tuple #[.string (s.extract 0 i), .string (s.extract (i + 1) s.size), .bool true]) ∧ ∃ n, w' = w.drewN n := by
  go_enter Try.func14, Try.ntmps14
  go_wp2_with (go_at_call 16; refine (scut_hit _ i h hs _).mono ?_; rintro e w' ⟨rfl, n, rfl⟩)
  go_ret3
  exact ⟨rfl, n, rfl⟩

theorem byteBang (s : ByteArray) (j : Nat) (hj : j < s.size) : s.data[j]! = s[j] := by
  rw [getElem!_pos s.data j (by simpa using hj)]; rfl

set_option maxHeartbeats 1000000 in
/-- internal/bytealg.LastIndexByteString. -/
theorem lastIndexByte_c (s : ByteArray) (c : Int) (hs : s.size ≤ maxLen) (w : World) :
    Calls Try.prog 17 #[.string s, .int .u8 c] w fun e w' => e = .returned (.int .i64 (Lib.lastIndexByte s c)) ∧ w' = w := by
  unfold maxLen at hs
  go_enter Try.func17, Try.ntmps17
  go_wp2
  go_loop [5] (fun vi => ∃ k : Nat, k ≤ s.size ∧ vi = .int .i64 ((k : Int) - 1) ∧ Hid (Lib.lastIndexByte s c = Lib.lastIdx s c k)) (fun vi => ((RowKit.intOf vi) + 1).toNat)
  case atStart => exact ⟨s.size, Nat.le_refl _, by first | rfl | go_num | (congr 1; omega), rfl⟩
  case round =>
    obtain ⟨k, hk, rfl, hh⟩ := hrel
    go_wp2
    · have hc : (((s[k - 1]).toNat : Int) == c) = true := by assumption
      have k1 : 1 ≤ k := by omega
      have e1 : Lib.lastIdx s c k = ((k - 1 : Nat) : Int) := by
        have := Lib.lastIdx_hit s c (k - 1) (by rw [byteBang s (k - 1) (by omega)]; simpa using hc)
        rwa [show k - 1 + 1 = k by omega] at this
      have e2 : ((k - 1 : Nat) : Int) = (k : Int) - 1 := by omega
      go_ret
      rw [hh.out, e1, e2]
      exact ⟨rfl, rfl⟩
    · have hc : (((s[k - 1]).toNat : Int) == c) = false := by assumption
      have k1 : 1 ≤ k := by omega
      have e1 : Lib.lastIdx s c k = Lib.lastIdx s c (k - 1) := by
        have := Lib.lastIdx_miss s c (k - 1) (by rw [byteBang s (k - 1) (by omega)]; simpa using hc)
        rwa [show k - 1 + 1 = k by omega] at this
      refine ⟨⟨k - 1, by omega, by congr 1; omega, hh.out.trans e1⟩, ?_⟩
      simp [RowKit.intOf]; omega
    · have k0 : k = 0 := by omega
      subst k0
      go_ret
      rw [hh.out]
      exact ⟨rfl, rfl⟩

set_option maxHeartbeats 1000000 in
/-- strings.LastIndex at a substr of the one byte '/'. -/
theorem lastIndex_c (s : ByteArray) (hs : s.size ≤ maxLen) (w : World) :
    Calls Try.prog 15 #[.string s, .string ⟨#[47]⟩] w fun e w' => e = .returned (.int .i64 (Lib.lastIndexByte s 47)) ∧ w' = w := by
  go_enter Try.func15, Try.ntmps15
  go_wp2_with (go_at_call 17; refine (lastIndexByte_c _ _ hs _).mono ?_; rintro e w' ⟨rfl, rfl⟩)
  go_ret
  exact ⟨rfl, rfl⟩

/-- objkey.Datatype. -/
theorem dt_empty (w : World) :
    Calls Try.prog 8 #[.string ⟨#[]⟩] w fun e w' => e = .returned (.string ⟨#[114, 111, 111, 116]⟩) ∧ ∃ n, w' = w.drewN n := by
  go_enter Try.func8, Try.ntmps8
  go_wp2
  go_ret
  exact ⟨rfl, 0, rfl⟩

set_option maxHeartbeats 1000000 in
theorem dt_miss (s : ByteArray) (he : s.toList.isEmpty = false) (h : Nowhere s) (w : World) :
    Calls Try.prog 8 #[.string s] w fun e w' => e = .returned (.string s) ∧ ∃ n, w' = w.drewN n := by
  go_enter Try.func8, Try.ntmps8
  go_wp2_with (go_at_call 14; refine (cut_miss _ h _).mono ?_; rintro e w' ⟨rfl, n, rfl⟩)
  go_ret
  exact ⟨rfl, n, rfl⟩

set_option maxHeartbeats 1000000 in
theorem dt_hit (s : ByteArray) (i : Nat) (he : s.toList.isEmpty = false) (h : At s i) (hs : s.size ≤ maxLen) (w : World) :
    Calls Try.prog 8 #[.string s] w fun e w' => e = .returned (.string (s.extract 0 i)) ∧ ∃ n, w' = w.drewN n := by
  go_enter Try.func8, Try.ntmps8
  go_wp2_with (go_at_call 14; refine (cut_hit _ i h hs _).mono ?_; rintro e w' ⟨rfl, n, rfl⟩)
  go_ret
  exact ⟨rfl, n, rfl⟩

set_option maxHeartbeats 1000000 in
/-- objkey.Split. -/
theorem sp_miss (s : ByteArray) (h : Nowhere s) (w : World) :
    Calls Try.prog 12 #[.string s] w fun e w' => e = .returned (.tuple #[.string ⟨#[]⟩, .string ⟨#[]⟩, .bool false]) ∧ ∃ n, w' = w.drewN n := by
  go_enter Try.func12, Try.ntmps12
  go_wp2_with (go_at_call 14; refine (cut_miss _ h _).mono ?_; rintro e w' ⟨rfl, n, rfl⟩)
  go_ret3
  exact ⟨rfl, n, rfl⟩

set_option maxHeartbeats 1000000 in
theorem sp_one (s : ByteArray) (i : Nat) (h : At s i) (hs : s.size ≤ maxLen) (hl : Hid (Lib.lastIndexByte (s.extract (i + 1) s.size) 47 = -1)) (w : World) :
    Calls Try.prog 12 #[.string s] w fun e w' => e = .returned (.tuple #[.string (s.extract 0 i), .string ⟨#[]⟩, .bool true]) ∧ ∃ n, w' = w.drewN n := by
  have hz : (s.extract (i + 1) s.size).size ≤ maxLen := by simp; omega
  go_enter Try.func12, Try.ntmps12
  go_wp2_with (first | (go_at_call 14; refine (cut_hit _ i h hs _).mono ?_; rintro e w' ⟨rfl, n, rfl⟩) | (go_at_call 15; refine (lastIndex_c _ hz _).mono ?_; rintro e w' ⟨rfl, rfl⟩; rw [hl.out]))
  go_ret3
  exact ⟨rfl, n, rfl⟩

set_option maxHeartbeats 1000000 in
theorem sp_two (s : ByteArray) (i j : Nat) (h : At s i) (hs : s.size ≤ maxLen) (hl : Hid (Lib.lastIndexByte (s.extract (i + 1) s.size) 47 = (j : Int))) (hj : i + 1 + j < s.size) (w : World) :
    Calls Try.prog 12 #[.string s] w fun e w' => e = .returned (.tuple #[.string (s.extract 0 i), .string ((s.extract (i + 1) s.size).extract 0 j), .bool true]) ∧ ∃ n, w' = w.drewN n := by
  have hz : (s.extract (i + 1) s.size).size ≤ maxLen := by simp; omega
  have c1 : (0 : Int) ≤ ↑j := by omega
  have c2 : (j : Int) ≤ ((s.extract (i + 1) s.size).size : Int) := by simp; omega
  go_enter Try.func12, Try.ntmps12
  go_wp2_with (first | (go_at_call 14; refine (cut_hit _ i h hs _).mono ?_; rintro e w' ⟨rfl, n, rfl⟩) | (go_at_call 15; refine (lastIndex_c _ hz _).mono ?_; rintro e w' ⟨rfl, rfl⟩; rw [hl.out]))
  go_ret3
  exact ⟨rfl, n, rfl⟩

theorem At.byte {s : ByteArray} {i : Nat} (h : At s i) : s[i]'h.lt = 47 := by
  have := (Lib.indexByte_some h).1
  have := (List.getElem?_eq_some_iff.1 this).2
  show s.data[i]'h.lt = 47
  simpa using this

theorem At.before {s : ByteArray} {i : Nat} (h : At s i) (k : Nat) (hk : k < i) : s[k]'(Nat.lt_trans hk h.lt) ≠ 47 := by
  intro e
  have := (Lib.indexByte_some h).2 k hk
  apply this
  rw [List.getElem?_eq_some_iff]
  exact ⟨by have := h.lt; simp; omega, by simpa using (show s.data[k]'(Nat.lt_trans hk h.lt) = 47 from e)⟩

theorem Nowhere.byte {s : ByteArray} (h : Nowhere s) (k : Nat) (hk : k < s.size) : s[k] ≠ 47 := by
  intro e
  have := Lib.indexByte_none h k
  apply this
  rw [List.getElem?_eq_some_iff]
  exact ⟨by simpa using hk, by simpa using (show s.data[k]'hk = 47 from e)⟩

theorem nowhere_of {s : ByteArray} (h : ∀ k (hk : k < s.size), s[k] ≠ 47) : Nowhere s := by
  rcases at_or s with h' | ⟨i, hi⟩
  · exact h'
  · exact absurd hi.byte (h i hi.lt)

theorem at_of {s : ByteArray} {i : Nat} (hi : i < s.size) (h : s[i] = 47) (hn : ∀ k (hk : k < i), s[k]'(Nat.lt_trans hk hi) ≠ 47) : At s i := by
  rcases at_or s with h' | ⟨j, hj⟩
  · exact absurd h (h'.byte i hi)
  · have : j = i := by
      rcases Nat.lt_trichotomy i j with h1 | h1 | h1
      · exact absurd h (hj.before i h1)
      · exact h1.symm
      · exact absurd hj.byte (hn j h1)
    exact this ▸ hj

theorem byte_int {b : UInt8} : (((b.toNat : Int) == 47) = true) ↔ b = 47 := by
  rw [beq_iff_eq]
  constructor
  · intro h
    apply UInt8.toNat_inj.1
    have : (47 : UInt8).toNat = 47 := rfl
    omega
  · intro h
    subst h
    rfl

set_option maxHeartbeats 1000000 in
/-- zzHasSlash. -/
theorem has_no (s : ByteArray) (h : Nowhere s) (hs : s.size ≤ maxLen) (w : World) :
    Calls Try.prog 10 #[.string s] w fun e w' => e = .returned (.bool false) ∧ w = w' := by
  unfold maxLen at hs
  go_enter Try.func10, Try.ntmps10
  go_wp2
  go_loop [3] (fun vi => ∃ k : Nat, k ≤ s.size ∧ vi = .int .i64 k) (fun vi => s.size - (intOf vi).toNat)
  case atStart => exact ⟨0, Nat.zero_le _, rfl⟩
  case round =>
    obtain ⟨k, hk, rfl⟩ := hrel
    by_cases hlt : k < s.size
    · have hb : ((s[k].toNat : Int) == 47) = false := by
        rw [Bool.eq_false_iff]
        intro h'
        exact h.byte k hlt (byte_int.1 h')
      go_wp2
      go_round
      case rel => exact ⟨k + 1, by omega, by go_num⟩
      case measure => simp [intOf]; omega
    · go_wp2
      go_ret
      exact ⟨rfl, rfl⟩

set_option maxHeartbeats 1000000 in
theorem has_yes (s : ByteArray) (i : Nat) (h : At s i) (hs : s.size ≤ maxLen) (w : World) :
    Calls Try.prog 10 #[.string s] w fun e w' => e = .returned (.bool true) ∧ w = w' := by
  unfold maxLen at hs
  have hil := h.lt
  go_enter Try.func10, Try.ntmps10
  go_wp2
  go_loop [3] (fun vi => ∃ k : Nat, k ≤ i ∧ vi = .int .i64 k) (fun vi => s.size - (intOf vi).toNat)
  case atStart => exact ⟨0, Nat.zero_le _, rfl⟩
  case round =>
    obtain ⟨k, hk, rfl⟩ := hrel
    by_cases hlt : k < i
    · have hb : ((s[k].toNat : Int) == 47) = false := by
        rw [Bool.eq_false_iff]
        intro h'
        exact h.before k hlt (byte_int.1 h')
      go_wp2
      go_round
      case rel => exact ⟨k + 1, by omega, by go_num⟩
      case measure => simp [intOf]; omega
    · obtain rfl : k = i := by omega
      have hb : ((s[k].toNat : Int) == 47) = true := byte_int.2 h.byte
      go_wp2
      go_ret
      exact ⟨rfl, rfl⟩

theorem zb7_yes (a : ByteArray) (h : a.size ≤ 1048576) (w : World) : Calls Try.prog 7 #[.string a] w fun e w' => e = .returned (.bool true) ∧ w = w' := by
  go_enter Try.func7, Try.ntmps7
  go_wp2
  go_ret
  exact ⟨rfl, rfl⟩
theorem zb7_no (a : ByteArray) (h : 1048576 < a.size) (w : World) : Calls Try.prog 7 #[.string a] w fun e w' => e = .returned (.bool false) ∧ w = w' := by
  go_enter Try.func7, Try.ntmps7
  go_wp2
  go_ret
  exact ⟨rfl, rfl⟩
theorem zb11_yes (a : ByteArray) (h : a.size ≤ 1048576) (w : World) : Calls Try.prog 11 #[.string a] w fun e w' => e = .returned (.bool true) ∧ w = w' := by
  go_enter Try.func11, Try.ntmps11
  go_wp2
  go_ret
  exact ⟨rfl, rfl⟩
theorem zb11_no (a : ByteArray) (h : 1048576 < a.size) (w : World) : Calls Try.prog 11 #[.string a] w fun e w' => e = .returned (.bool false) ∧ w = w' := by
  go_enter Try.func11, Try.ntmps11
  go_wp2
  go_ret
  exact ⟨rfl, rfl⟩
theorem zb9_any (a b : ByteArray) (ha : a.size ≤ maxLen) (hb : b.size ≤ maxLen) (w : World) :
    Calls Try.prog 9 #[.string a, .string b] w fun e w' => (∃ r, e = .returned (.bool r) ∧ (r = true → a.size + b.size ≤ 1048576)) ∧ w = w' := by
  unfold maxLen at ha hb
  by_cases h1 : a.size ≤ 1048576
  · by_cases h2 : b.size ≤ 1048576
    · by_cases h3 : a.size + b.size ≤ 1048576
      all_goals
        go_enter Try.func9, Try.ntmps9
        go_wp2
        go_ret
        exact ⟨⟨_, rfl, by simp; try omega⟩, rfl⟩
    · go_enter Try.func9, Try.ntmps9
      go_wp2
      go_ret
      exact ⟨⟨_, rfl, by simp⟩, rfl⟩
  · go_enter Try.func9, Try.ntmps9
    go_wp2
    go_ret
    exact ⟨⟨_, rfl, by simp⟩, rfl⟩

/-! ### What a text joined at '/' is -/
theorem size_join (a b : ByteArray) : (a ++ ⟨#[47]⟩ ++ b).size = a.size + 1 + b.size := by
  simp [ByteArray.size_append]; rfl
theorem get_left (a b : ByteArray) (k : Nat) (hk : k < a.size) : (a ++ ⟨#[47]⟩ ++ b)[k]'(by rw [size_join]; omega) = a[k] := by
  rw [ByteArray.getElem_append_left (by simp [ByteArray.size_append]; omega), ByteArray.getElem_append_left hk]
theorem get_mid (a b : ByteArray) : (a ++ ⟨#[47]⟩ ++ b)[a.size]'(by rw [size_join]; omega) = 47 := by
  rw [ByteArray.getElem_append_left (by simp [ByteArray.size_append]; decide), ByteArray.getElem_append_right (by simp)]
  simp
  rfl
theorem get_right (a b : ByteArray) (k : Nat) (hk : k < b.size) : (a ++ ⟨#[47]⟩ ++ b)[a.size + 1 + k]'(by rw [size_join]; omega) = b[k] := by
  have hz : (a ++ (⟨#[47]⟩ : ByteArray)).size = a.size + 1 := by simp [ByteArray.size_append]; rfl
  rw [ByteArray.getElem_append_right (by omega)]
  congr 1
  omega
theorem take_join (a b : ByteArray) : (a ++ ⟨#[47]⟩ ++ b).extract 0 a.size = a := by
  apply ByteArray.ext
  simp
theorem drop_join (a b : ByteArray) : (a ++ ⟨#[47]⟩ ++ b).extract (a.size + 1) (a ++ ⟨#[47]⟩ ++ b).size = b := by
  have hz : (a ++ (⟨#[47]⟩ : ByteArray)).size = a.size + 1 := by simp [ByteArray.size_append]; rfl
  have hs := size_join a b
  rw [hs, ByteArray.extract_append, hz]
  have e1 : (a ++ (⟨#[47]⟩ : ByteArray)).extract (a.size + 1) (a.size + 1 + b.size) = ByteArray.empty := by
    apply ByteArray.extract_eq_empty_iff.2
    omega
  rw [e1]
  have e2 : a.size + 1 - (a.size + 1) = 0 := by omega
  have e3 : a.size + 1 + b.size - (a.size + 1) = b.size := by omega
  rw [e2, e3, ByteArray.extract_zero_size]
  simp
theorem at_join (a b : ByteArray) (h : Nowhere a) : At (a ++ ⟨#[47]⟩ ++ b) a.size := by
  refine at_of (by rw [size_join]; omega) (get_mid a b) fun k hk => ?_
  rw [get_left a b k hk]
  exact h.byte k hk
theorem last_none (a : ByteArray) (h : Nowhere a) : Lib.lastIndexByte a 47 = -1 := by
  rcases Lib.lastIndexByte_spec a 47 with ⟨e, _⟩ | ⟨i, hi, _, hc, _⟩
  · exact e
  · rw [byteBang a i hi] at hc
    exact absurd (byte_int.1 (by simpa using hc)) (h.byte i hi)
theorem last_join (a b : ByteArray) (h : Nowhere b) : Lib.lastIndexByte (a ++ ⟨#[47]⟩ ++ b) 47 = (a.size : Int) := by
  have hs := size_join a b
  rcases Lib.lastIndexByte_spec (a ++ ⟨#[47]⟩ ++ b) 47 with ⟨_, hn⟩ | ⟨i, hi, e, hc, hn⟩
  · have := hn a.size (by omega)
    rw [byteBang _ a.size (by omega), get_mid] at this
    exact absurd rfl this
  · rw [e]
    rcases Nat.lt_trichotomy i a.size with h1 | h1 | h1
    · have := hn a.size h1 (by omega)
      rw [byteBang _ a.size (by omega), get_mid] at this
      exact absurd rfl this
    · rw [h1]
    · obtain ⟨k, rfl⟩ : ∃ k, i = a.size + 1 + k := ⟨i - (a.size + 1), by omega⟩
      rw [byteBang _ _ hi, get_right a b k (by omega)] at hc
      exact absurd (byte_int.1 (by simpa using hc)) (h.byte k _)
end Go.Proofs.Qxb6605495a
