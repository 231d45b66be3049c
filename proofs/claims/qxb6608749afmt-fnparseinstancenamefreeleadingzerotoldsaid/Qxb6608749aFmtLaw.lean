/- Seat b6608749aF, sixth part: the law's own walk. -/
import Derived.Test.Qxb6608749aFmtInst
namespace Go.Proofs.Qxb6608749aFmt
open Go.RowKit Go.Extern.Stop Go.Stop Go.Extern

/-- What stands behind '#' comes to: a number from 1 on, or none. -/
def core (b : ByteArray) : Option Nat :=
  match num b.data.toList with
  | some u => if u = 0 then none else some u
  | none => none

theorem core_pos {b : ByteArray} {u : Nat} (h : core b = some u) : 1 ≤ u := by
  unfold core at h
  cases hn : num b.data.toList with
  | none => rw [hn] at h; cases h
  | some v =>
    rw [hn] at h
    by_cases h0 : v = 0
    · simp [h0] at h
    · simp [h0] at h
      omega

theorem inst_some (a b : ByteArray) (ha : a.size ≠ 0) : inst a b = core b := by
  unfold inst core
  rw [if_neg ha]
  rfl
theorem inst_none (a b : ByteArray) (ha : a.size = 0) : inst a b = none := by
  unfold inst
  rw [if_pos ha]

theorem pu_zero (l : List UInt8) : pu 0 (48 :: l) = pu 0 l := by
  have h : (48 : UInt8).toNat = 48 := rfl
  simp [pu, h]

theorem num_zero (l : List UInt8) : num (48 :: l) = if l = [] then some 0 else num l := by
  unfold num
  rw [if_neg (by simp), pu_zero]
  by_cases h : l = []
  · subst h
    rfl
  · rw [if_neg h, if_neg h]

/-- A leading zero turns nothing. -/
theorem core_zero (b : ByteArray) : core (⟨#[48]⟩ ++ b) = core b := by
  have e : (⟨#[48]⟩ ++ b : ByteArray).data.toList = 48 :: b.data.toList := by simp
  unfold core
  rw [e, num_zero]
  by_cases h : b.data.toList = []
  · rw [if_pos h, h]
    rfl
  · rw [if_neg h]

theorem p_join (b : ByteArray) : (⟨#[112, 35, 48]⟩ : ByteArray) ++ b = ⟨#[112]⟩ ++ ⟨#[35]⟩ ++ (⟨#[48]⟩ ++ b) := by
  apply ByteArray.ext
  simp

theorem p_nowhere : Nowhere ⟨#[112]⟩ := by
  apply nowhere_of
  intro k hk
  have hk' : k < 1 := hk
  obtain rfl : k = 0 := by omega
  show (112 : UInt8) ≠ 35
  decide

theorem inst_p (F : Interp) (b : ByteArray) (t1 t2 : TypeId) (p1 p2 : Value) (w : World) (hs : b.size ≤ 281474976710000) (hF : F.answers w.tape)
    (hv1 : w.cell? ⟨1, 0, none⟩ = some (.iface t1 p1)) (hv2 : w.cell? ⟨2, 0, none⟩ = some (.iface t2 p2)) :
    Calls Tryf.prog 7 #[.string (⟨#[112, 35, 48]⟩ ++ b)] w fun e w' =>
      ((∃ u : Nat, core b = some u ∧ e = .returned (.tuple #[.string ⟨#[112]⟩, .int .i64 u, .nilIface])) ∨ (core b = none ∧ ∃ p, e = .returned (.tuple #[.string ⟨#[]⟩, .int .i64 0, .iface 48 (.pointer (some p))]))) ∧ Below w.heap.size w w' := by
  rw [p_join]
  have hz := size_join ⟨#[112]⟩ (⟨#[48]⟩ ++ b)
  have hz2 : (⟨#[48]⟩ ++ b : ByteArray).size = 1 + b.size := by rw [ByteArray.size_append]; rfl
  have hz3 : (⟨#[112]⟩ : ByteArray).size = 1 := rfl
  have h := inst_c F ⟨#[112]⟩ (⟨#[48]⟩ ++ b) t1 t2 p1 p2 w p_nowhere (by omega) hF hv1 hv2
  rw [inst_some _ _ (by decide), core_zero] at h
  exact h

set_option maxHeartbeats 4000000 in
set_option maxRecDepth 100000 in
theorem walk (F : Interp) (a0 a1 : ByteArray) (w0 : a0.size ≤ maxLen) (w1 : a1.size ≤ maxLen) (t1 t2 : TypeId) (p1 p2 : Value) (w : World) (hF : F.answers w.tape)
    (hv1 : w.cell? ⟨1, 0, none⟩ = some (.iface t1 p1)) (hv2 : w.cell? ⟨2, 0, none⟩ = some (.iface t2 p2)) :
    Calls Tryf.prog 3 #[.string a0, .string a1] w fun e w' => e = .returned (.bool true) ∧ Below w.heap.size w w' := by
  have hG1 : 1 < w.heap.size := Lib.lt_of_cell hv1
  have hG2 : 2 < w.heap.size := Lib.lt_of_cell hv2
  rcases at_or a0 with hn | ⟨i, hi⟩
  · go_enter Tryf.func3, Tryf.ntmps3
    go_wp2_with (first | (go_at_call 5; refine (zb_any _ _ w0 w1 _).mono ?_; rintro e w' ⟨⟨r, rfl, hr⟩, rfl⟩; cases r) | (go_at_call 6; refine (has_no _ hn w0 _).mono ?_; rintro e w' ⟨rfl, rfl⟩) | (go_at_call 7; fail))
    · go_ret
      exact ⟨rfl, Below.refl _ _⟩
    · go_ret
      exact ⟨rfl, Below.refl _ _⟩
    · have hz : (a0 ++ ⟨#[35]⟩ ++ a1).size ≤ 281474976710656 := by
        rw [size_join]
        omega
      refine (inst_c F a0 a1 t1 t2 p1 p2 _ hn hz hF hv1 hv2).mono ?_
      rintro e W1 ⟨he, hb1⟩
      have hF1 : F.answers W1.tape := by rw [hb1.tape]; exact hF
      have hw1 : W1.cell? ⟨1, 0, none⟩ = some (.iface t1 p1) := (hb1.cell (show (⟨1, 0, none⟩ : Addr).block < w.heap.size from hG1)).trans hv1
      have hw2 : W1.cell? ⟨2, 0, none⟩ = some (.iface t2 p2) := (hb1.cell (show (⟨2, 0, none⟩ : Addr).block < w.heap.size from hG2)).trans hv2
      have hP := inst_p F a1 t1 t2 p1 p2 W1 (by omega) hF1 hw1 hw2
      by_cases ha : a0.size = 0
      · have hae : a0.toList.isEmpty = true := by
          rw [← decide_eq_emptyBytes]
          exact decide_eq_true (by apply ByteArray.ext; exact Array.eq_empty_of_size_eq_zero ha)
        rw [inst_none _ _ ha] at he
        rcases he with ⟨u, hu, _⟩ | ⟨_, q, rfl⟩
        · cases hu
        have HP := hP
        clear ha hP
        go_wp2_with (go_at_call 7; refine HP.mono ?_)
        rintro e W2 ⟨he2, hb2⟩
        rcases he2 with ⟨u, hu, rfl⟩ | ⟨_, q2, rfl⟩
        · have hp := core_pos hu
          have c1 : ¬ (u : Int) < 1 := by omega
          clear hu HP
          go_wp2
          go_ret
          exact ⟨rfl, hb1.trans (hb2.mono hb1.size)⟩
        · clear HP
          go_wp2
          go_ret
          exact ⟨rfl, hb1.trans (hb2.mono hb1.size)⟩
      · have hae := isEmpty_size ha
        rw [inst_some _ _ ha] at he
        have HP := hP
        clear ha hP
        rcases he with ⟨u, hu, rfl⟩ | ⟨hu, q, rfl⟩
        · have hp := core_pos hu
          have c1 : ¬ (u : Int) < 1 := by omega
          rw [hu] at HP
          clear hu
          go_wp2_with (go_at_call 7; refine HP.mono ?_)
          rintro e W2 ⟨he2, hb2⟩
          rcases he2 with ⟨u2, hu2, rfl⟩ | ⟨hu2, _⟩
          · cases hu2
            clear HP
            go_wp2
            go_region
            go_wp2
            go_ret
            exact ⟨rfl, (hb1.trans (hb2.mono hb1.size)).drew⟩
          · cases hu2
        · rw [hu] at HP
          clear hu
          go_wp2_with (go_at_call 7; refine HP.mono ?_)
          rintro e W2 ⟨he2, hb2⟩
          rcases he2 with ⟨u2, hu2, _⟩ | ⟨_, q2, rfl⟩
          · cases hu2
          · clear HP
            go_wp2
            go_region
            go_wp2
            go_ret
            exact ⟨rfl, (hb1.trans (hb2.mono hb1.size)).drew⟩
    · go_ret
      exact ⟨rfl, Below.refl _ _⟩
  · go_enter Tryf.func3, Tryf.ntmps3
    go_wp2_with (first | (go_at_call 5; refine (zb_any _ _ w0 w1 _).mono ?_; rintro e w' ⟨⟨r, rfl, hr⟩, rfl⟩; cases r) | (go_at_call 6; refine (has_yes _ i hi w0 _).mono ?_; rintro e w' ⟨rfl, rfl⟩) | (go_at_call 7; fail))
    all_goals go_ret
    all_goals exact ⟨rfl, Below.refl _ _⟩
end Go.Proofs.Qxb6608749aFmt
