/- Seat b6613145aF: the leaves' walks: bytes.IndexByte, dropCR, ScanLines. -/
import Derived.Test.Qxb6613145aFmtPlain
import Derived.Test.Qxb6613145aFmtProg
import Derived.WalkKit
import Derived.Outline
import Derived.WalkLawsBesides
import Derived.WalkSpells
import Derived.Deep.QuietTactic
import Derived.BigQuiet
import Derived.Deep.RegionWith
import Derived.Lib.Hide
import Derived.Lib.Walk
import Derived.Lib.AtoiErrMem
import Derived.Lib.BytesEntry
import Derived.KernelRfl
namespace Go.Proofs.Qxb6613145aFmt
open Go.RowKit
set_option linter.unusedVariables false

/-- The row of m numbers from h. -/
def row (h : Nat → Int) (m : Nat) : List Int := (List.range m).map h
theorem row_length (h : Nat → Int) (m : Nat) : (row h m).length = m := by simp [row]
theorem row_getD (h : Nat → Int) (m i : Nat) (hi : i < m) : (row h m).getD i 0 = h i := by simp [row, List.getD, hi]
theorem row_get (h : Nat → Int) (m i : Nat) (hi : i < m) : (Lib.bytesOf (row h m))[i]? = some (UInt8.ofNat (h i).toNat) := by simp [Lib.bytesOf, row, hi]

theorem byte_ten {z : Int} (h0 : 0 ≤ z) (h1 : z < 256) : UInt8.ofNat z.toNat = 10 ↔ z = 10 := by
  constructor
  · intro h
    have := congrArg UInt8.toNat h
    simp at this
    omega
  · intro h
    subst h
    rfl

/-- The cells of n bytes from ⟨b, o⟩ on hold h. -/
def Lies (w : World) (b o n : Nat) (h : Nat → Int) : Prop := ∀ j, j < n → w.cell? ⟨b, o + j, none⟩ = some (.int .u8 (h j))

theorem index_row (h : Nat → Int) (n : Nat) (hb : ∀ j, 0 ≤ h j ∧ h j < 256) :
    (Lib.indexByte (Lib.bytesOf (row h n)) 10 = -1 ∧ ∀ j, j < n → h j ≠ 10) ∨ ∃ e : Nat, Lib.indexByte (Lib.bytesOf (row h n)) 10 = e ∧ e < n ∧ h e = 10 ∧ ∀ j, j < e → h j ≠ 10 := by
  have hge := Lib.indexByte_ge (Lib.bytesOf (row h n)) 10
  by_cases hm : Lib.indexByte (Lib.bytesOf (row h n)) 10 = -1
  · refine Or.inl ⟨hm, fun j hj he => ?_⟩
    exact Lib.indexByte_none hm j (by rw [row_get h n j hj, he]; rfl)
  · obtain ⟨e, he⟩ : ∃ e : Nat, Lib.indexByte (Lib.bytesOf (row h n)) 10 = e := ⟨(Lib.indexByte (Lib.bytesOf (row h n)) 10).toNat, by omega⟩
    obtain ⟨h1, h2⟩ := Lib.indexByte_some he
    have hlt : e < n := by
      have := (List.getElem?_eq_some_iff.1 h1).1
      simpa [Lib.bytesOf, row] using this
    rw [row_get h n e hlt] at h1
    refine Or.inr ⟨e, he, hlt, (byte_ten (hb e).1 (hb e).2).1 (Option.some.inj h1), fun j hj hj10 => ?_⟩
    exact h2 j hj (by rw [row_get h n j (by omega), hj10]; rfl)

set_option maxHeartbeats 1000000 in
theorem index_c (b o n c : Nat) (h : Nat → Int) (w : World) (hl : Lies w b o n h) :
    Calls Tryf.prog 40 #[.slice (some ⟨b, o, none⟩) n c, .int .u8 10] w fun e w' => e = .returned (.int .i64 (Lib.indexByte (Lib.bytesOf (row h n)) 10)) ∧ w = w' := by
  go_enter Tryf.func40, Tryf.ntmps40
  go_wp2
  rw [run_callFunc_extern Tryf.func42 (by kernel_rfl) (by kernel_rfl) (by kernel_rfl) (e := Extern.BytealgIndexByte.indexByte) (by kernel_rfl), Lib.run_indexByteSlice w b o n c (row h n) (row_length _ _) (fun i hi => by rw [row_getD _ _ _ hi]; exact hl i hi) 10]
  simp only [Result.andThen]
  rw [Oper.upon_value]
  go_wp2
  go_ret
  exact ⟨rfl, rfl⟩

theorem dropCR_c (b o n c : Nat) (h : Nat → Int) (w : World) (hn : n ≤ 1048576) (hnc : n ≤ c) (hl : Lies w b o n h) :
    Calls Tryf.prog 41 #[.slice (some ⟨b, o, none⟩) n c] w fun e w' => e = .returned (.slice (some ⟨b, o, none⟩) (crop h 0 n) c) ∧ w = w' := by
  by_cases h0 : 0 < n
  · have hc := hl (n - 1) (by omega)
    have e0 : ((n - 1 : Nat) : Int) = (n : Int) - 1 := by omega
    have i0 : (0 : Int) < (n : Int) := by omega
    have i1 : (n : Int) - 1 < (n : Int) := by omega
    have i2 : (0 : Int) ≤ (n : Int) - 1 := by omega
    have i3 : ((n : Int) - 1).toNat = n - 1 := by omega
    by_cases h13 : h (n - 1) = 13
    · have t : (h (n - 1) == 13) = true := by simp [h13]
      have hcr : crop h 0 n = n - 1 := by unfold crop; rw [if_pos ⟨h0, h13⟩]
      rw [hcr]
      clear h13 hcr
      have i4 : (n : Int) - 1 ≤ (c : Int) := by omega
      go_enter Tryf.func41, Tryf.ntmps41
      go_wp2
      go_ret
      exact ⟨by simp, rfl⟩
    · have t : (h (n - 1) == 13) = false := by simp [h13]
      have hcr : crop h 0 n = n := by unfold crop; rw [if_neg (fun x => h13 x.2)]
      rw [hcr]
      clear h13 hcr
      go_enter Tryf.func41, Tryf.ntmps41
      go_wp2
      go_ret
      exact ⟨rfl, rfl⟩
  · obtain rfl : n = 0 := by omega
    go_enter Tryf.func41, Tryf.ntmps41
    go_wp2
    go_ret
    exact ⟨rfl, rfl⟩

/-- ScanLines, a newline in the data. -/
theorem scanLines_hit (b o n c e : Nat) (h : Nat → Int) (eof : Bool) (w : World) (hn : n ≤ 1048576) (hnc : n ≤ c) (hb : ∀ j, 0 ≤ h j ∧ h j < 256) (hl : Lies w b o n h) (he : e < n) (h10 : h e = 10) (hno : ∀ j, j < e → h j ≠ 10) :
    Calls Tryf.prog 39 #[.slice (some ⟨b, o, none⟩) n c, .bool eof] w fun r w' => r = .returned (.tuple #[.int .i64 ((e + 1 : Nat) : Int), .slice (some ⟨b, o, none⟩) (crop h 0 e) c, .nilIface]) ∧ w = w' := by
  have hI := index_c b o n c h w hl
  rcases index_row h n hb with ⟨_, hn0⟩ | ⟨e', h1, h2, h3, h4⟩
  · exact absurd h10 (hn0 e he)
  obtain rfl : e = e' := by
    rcases Nat.lt_trichotomy e e' with x | x | x
    · exact absurd h10 (h4 e x)
    · exact x
    · exact absurd h3 (hno e' x)
  rw [h1] at hI
  have HI := Lib.hid hI
  have HD := Lib.hid (dropCR_c b o e c h w (by omega) (by omega) (fun j hj => hl j (by omega)))
  have t0 : ((n : Int) == 0) = false := by rw [beq_eq_false_iff_ne]; omega
  have i1 : (e : Int) ≤ (c : Int) := by omega
  clear hI hl h1 h2 h3 h4 hno h10
  cases eof
  all_goals
    go_enter Tryf.func39, Tryf.ntmps39
    go_wp2_with (first | (go_at_call 40; refine (HI.out).mono ?_; rintro r w1 ⟨rfl, rfl⟩) | (go_at_call 41; refine (HD.out).mono ?_; rintro r w1 ⟨rfl, rfl⟩))
    exact bodyPost_ret (v := .tuple #[.int .i64 ((e : Int) + 1), .slice (some ⟨b, o, none⟩) (crop h 0 e) c, .nilIface]) (by simp [results, Tryf.results39, go_sem]) rfl ⟨rfl, rfl⟩

/-- ScanLines, no newline, more to come. -/
theorem scanLines_more (b o n c : Nat) (h : Nat → Int) (w : World) (hn : n ≤ 1048576) (h0 : 0 < n) (hb : ∀ j, 0 ≤ h j ∧ h j < 256) (hl : Lies w b o n h) (hno : ∀ j, j < n → h j ≠ 10) :
    Calls Tryf.prog 39 #[.slice (some ⟨b, o, none⟩) n c, .bool false] w fun r w' => r = .returned (.tuple #[.int .i64 0, .slice none 0 0, .nilIface]) ∧ w = w' := by
  have hI := index_c b o n c h w hl
  rcases index_row h n hb with ⟨h1, _⟩ | ⟨e', h1, h2, h3, h4⟩
  · rw [h1] at hI
    have HI := Lib.hid hI
    clear hI hl h1 hno
    go_enter Tryf.func39, Tryf.ntmps39
    go_wp2_with (go_at_call 40; refine (HI.out).mono ?_; rintro r w1 ⟨rfl, rfl⟩)
    exact bodyPost_ret (v := .tuple #[.int .i64 0, .slice none 0 0, .nilIface]) (by simp [results, Tryf.results39, go_sem]) rfl ⟨rfl, rfl⟩
  · exact absurd h3 (hno e' h2)

/-- ScanLines at the end, nothing left. -/
theorem scanLines_end (a : Option Addr) (c : Nat) (w : World) :
    Calls Tryf.prog 39 #[.slice a 0 c, .bool true] w fun r w' => r = .returned (.tuple #[.int .i64 0, .slice none 0 0, .nilIface]) ∧ w = w' := by
  go_enter Tryf.func39, Tryf.ntmps39
  go_wp2
  exact bodyPost_ret (v := .tuple #[.int .i64 0, .slice none 0 0, .nilIface]) (by simp [results, Tryf.results39, go_sem]) rfl ⟨rfl, rfl⟩

/-- ScanLines at the end, a last line without a newline. -/
theorem scanLines_last (b o n c : Nat) (h : Nat → Int) (w : World) (hn : n ≤ 1048576) (hnc : n ≤ c) (h0 : 0 < n) (hb : ∀ j, 0 ≤ h j ∧ h j < 256) (hl : Lies w b o n h) (hno : ∀ j, j < n → h j ≠ 10) :
    Calls Tryf.prog 39 #[.slice (some ⟨b, o, none⟩) n c, .bool true] w fun r w' => r = .returned (.tuple #[.int .i64 (n : Int), .slice (some ⟨b, o, none⟩) (crop h 0 n) c, .nilIface]) ∧ w = w' := by
  have hI := index_c b o n c h w hl
  rcases index_row h n hb with ⟨h1, _⟩ | ⟨e', h1, h2, h3, h4⟩
  · rw [h1] at hI
    have HI := Lib.hid hI
    have HD := Lib.hid (dropCR_c b o n c h w hn hnc hl)
    have t0 : ((n : Int) == 0) = false := by rw [beq_eq_false_iff_ne]; omega
    clear hI hl h1 hno
    go_enter Tryf.func39, Tryf.ntmps39
    go_wp2_with (first | (go_at_call 40; refine (HI.out).mono ?_; rintro r w1 ⟨rfl, rfl⟩) | (go_at_call 41; refine (HD.out).mono ?_; rintro r w1 ⟨rfl, rfl⟩))
    exact bodyPost_ret (v := .tuple #[.int .i64 (n : Int), .slice (some ⟨b, o, none⟩) (crop h 0 n) c, .nilIface]) (by simp [results, Tryf.results39, go_sem]) rfl ⟨rfl, rfl⟩
  · exact absurd h3 (hno e' h2)
end Go.Proofs.Qxb6613145aFmt
