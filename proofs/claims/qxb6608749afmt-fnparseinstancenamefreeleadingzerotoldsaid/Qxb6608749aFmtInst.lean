/- Seat b6608749aF, fifth part: trace.ParseInstance of a text a + "#" + b, a without '#'. -/
import Derived.Test.Qxb6608749aFmtErrorf
namespace Go.Proofs.Qxb6608749aFmt
open Go.RowKit Go.Extern.Stop Go.Stop Go.Extern

theorem cut_join (a b : ByteArray) (h : Nowhere a) (hs : (a ++ ⟨#[35]⟩ ++ b).size ≤ maxLen) (w : World) :
    Calls Tryf.prog 10 #[.string (a ++ ⟨#[35]⟩ ++ b), .string ⟨#[35]⟩] w fun e w' => e = .returned (.tuple #[.string a, .string b, .bool true]) ∧ ∃ n, w' = w.drewN n := by
  have := cut_hit (a ++ ⟨#[35]⟩ ++ b) a.size (at_join a b h) hs w
  rw [take_join, drop_join] at this
  exact this

theorem pu_bound : ∀ (l : List UInt8) (acc n : Nat), acc ≤ 9223372036854775807 → pu acc l = some (some n) → n ≤ 9223372036854775807
  | [], acc, n, h, e => by simp [pu] at e; omega
  | c :: r, acc, n, h, e => by
    unfold pu at e
    by_cases h1 : 48 ≤ c.toNat ∧ c.toNat ≤ 57
    · rw [if_pos h1] at e
      by_cases h2 : 9223372036854775807 < acc * 10 + (c.toNat - 48)
      · rw [if_pos h2] at e
        cases e
      · rw [if_neg h2] at e
        exact pu_bound r _ n (by omega) e
    · rw [if_neg h1] at e
      cases e

theorem num_bound {l : List UInt8} {n : Nat} (h : num l = some n) : n ≤ 9223372036854775807 := by
  unfold num at h
  by_cases h1 : l = []
  · rw [if_pos h1] at h; cases h
  · rw [if_neg h1] at h
    cases hp : pu 0 l with
    | none => rw [hp] at h; cases h
    | some o =>
      cases o with
      | none => rw [hp] at h; cases h
      | some m =>
        rw [hp] at h
        cases h
        exact pu_bound l 0 _ (by omega) hp

/-- What ParseInstance(a + "#" + b) comes to. -/
def inst (a b : ByteArray) : Option Nat :=
  if a.size = 0 then none else
    match num b.data.toList with
    | some u => if u = 0 then none else some u
    | none => none

theorem below_drewN (w : World) (n : Nat) : Below w.heap.size w (w.drewN n) := ⟨rfl, rfl, rfl, Nat.le_refl _, fun _ _ => rfl⟩

theorem isEmpty_size {a : ByteArray} (h : a.size ≠ 0) : a.toList.isEmpty = false := by
  rw [← decide_eq_emptyBytes]
  exact decide_eq_false (fun e => h (by rw [e]; rfl))

theorem cell_alloc_new {x : Value} {t : TypeId} (w : World) : (w.alloc (.cells #[x] t)).cell? ⟨w.heap.size, 0, none⟩ = some x := by
  unfold World.cell?
  rw [heap_alloc_new]
  rfl

set_option maxHeartbeats 4000000 in
set_option maxRecDepth 100000 in
theorem inst_c (F : Interp) (a b : ByteArray) (t1 t2 : TypeId) (p1 p2 : Value) (w : World) (hn : Nowhere a) (hs : (a ++ ⟨#[35]⟩ ++ b).size ≤ 281474976710656) (hF : F.answers w.tape)
    (hv1 : w.cell? ⟨1, 0, none⟩ = some (.iface t1 p1)) (hv2 : w.cell? ⟨2, 0, none⟩ = some (.iface t2 p2)) :
    Calls Tryf.prog 7 #[.string (a ++ ⟨#[35]⟩ ++ b)] w fun e w' =>
      ((∃ u : Nat, inst a b = some u ∧ e = .returned (.tuple #[.string a, .int .i64 u, .nilIface])) ∨ (inst a b = none ∧ ∃ p, e = .returned (.tuple #[.string ⟨#[]⟩, .int .i64 0, .iface 48 (.pointer (some p))]))) ∧ Below w.heap.size w w' := by
  have hz : (a ++ ⟨#[35]⟩ ++ b).size ≤ maxLen := by unfold maxLen; omega
  have hbz : b.size ≤ 281474976710656 := by have := size_join a b; omega
  have hG1 : 1 < w.heap.size := Lib.lt_of_cell hv1
  have hG2 : 2 < w.heap.size := Lib.lt_of_cell hv2
  go_enter Tryf.func7, Tryf.ntmps7
  go_wp2_with (go_at_call 10; refine (cut_join a b hn hz _).mono ?_)
  rintro e w' ⟨rfl, n, rfl⟩
  have hb0 := below_drewN w n
  go_wp2_with (go_at_call 11; refine (parse_c b t1 t2 p1 p2 _ hbz ?_ ?_).mono ?_)
  · exact hv1
  · exact hv2
  rintro e W1 ⟨he, hb1⟩
  have hb1' : Below w.heap.size w W1 := hb0.trans hb1
  have hF1 : F.answers W1.tape := by rw [hb1'.tape]; exact hF
  have hbA : ∀ o, Below w.heap.size w (W1.alloc o) := fun o => hb1'.alloc hb1'.size o
  clear hb0 hb1
  rcases he with ⟨u, hu, rfl⟩ | ⟨hu, v, N, rfl⟩
  · have hub := num_bound hu
    by_cases ha : a.size = 0
    · have hi : Hid (inst a b = none) := by show inst a b = none; unfold inst; rw [if_pos ha]
      have hae : a.toList.isEmpty = true := by
        rw [← decide_eq_emptyBytes]
        exact decide_eq_true (by apply ByteArray.ext; exact Array.eq_empty_of_size_eq_zero ha)
      clear hu ha
      go_wp2_with (go_at_call 12; refine (errorf_A F (a ++ ⟨#[35]⟩ ++ b) _ _ ?_ ?_).mono ?_)
      · exact hF1
      · exact cell_alloc_new _
      rintro e W2 ⟨⟨q, rfl⟩, hb2⟩
      go_wp2
      go_ret3
      exact ⟨Or.inr ⟨hi.out, q, rfl⟩, (hbA _).trans (hb2.mono (hbA _).size)⟩
    · have hae := isEmpty_size ha
      by_cases h0 : u = 0
      · have hi : Hid (inst a b = none) := by show inst a b = none; unfold inst; rw [if_neg ha, hu]; simp [h0]
        subst h0
        clear hu ha
        go_wp2_with (go_at_call 12; refine (errorf_B F (a ++ ⟨#[35]⟩ ++ b) _ _ ?_ ?_).mono ?_)
        · exact hF1
        · exact cell_alloc_new _
        rintro e W2 ⟨⟨q, rfl⟩, hb2⟩
        go_wp2
        go_ret3
        exact ⟨Or.inr ⟨hi.out, q, rfl⟩, (hbA _).trans (hb2.mono (hbA _).size)⟩
      · have hi : Hid (inst a b = some u) := by show inst a b = some u; unfold inst; rw [if_neg ha, hu]; simp [h0]
        have hq : ((u : Int) == 0) = false := by rw [beq_eq_false_iff_ne]; omega
        clear hu ha
        go_wp2
        go_ret3
        exact ⟨Or.inl ⟨u, hi.out, rfl⟩, hb1'⟩
  · have hi : Hid (inst a b = none) := by
      show inst a b = none
      unfold inst
      rw [hu]
      split <;> rfl
    clear hu
    by_cases ha : a.size = 0
    · have hae : a.toList.isEmpty = true := by
        rw [← decide_eq_emptyBytes]
        exact decide_eq_true (by apply ByteArray.ext; exact Array.eq_empty_of_size_eq_zero ha)
      clear ha
      go_wp2_with (go_at_call 12; refine (errorf_A F (a ++ ⟨#[35]⟩ ++ b) _ _ ?_ ?_).mono ?_)
      · exact hF1
      · exact cell_alloc_new _
      rintro e W2 ⟨⟨q, rfl⟩, hb2⟩
      go_wp2
      go_ret3
      exact ⟨Or.inr ⟨hi.out, q, rfl⟩, (hbA _).trans (hb2.mono (hbA _).size)⟩
    · have hae := isEmpty_size ha
      clear ha
      go_wp2_with (go_at_call 12; refine (errorf_A F (a ++ ⟨#[35]⟩ ++ b) _ _ ?_ ?_).mono ?_)
      · exact hF1
      · exact cell_alloc_new _
      rintro e W2 ⟨⟨q, rfl⟩, hb2⟩
      go_wp2
      go_ret3
      exact ⟨Or.inr ⟨hi.out, q, rfl⟩, (hbA _).trans (hb2.mono (hbA _).size)⟩
end Go.Proofs.Qxb6608749aFmt
