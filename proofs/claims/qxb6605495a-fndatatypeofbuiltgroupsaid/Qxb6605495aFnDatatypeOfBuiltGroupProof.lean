/-
  A proof of 'Rows.FnDatatypeOfBuiltGroupSaid'. The frame is the guide's shell; the walk is ours.
-/
import Derived.Test.Qxb6605495aRows
import Derived.WalkKit
import Derived.ProofKit
import Derived.OpenShut
import Derived.ShutString
import Derived.Test.Qxb6605495aBase
namespace Go.Proofs.Qxb6605495a.fnDatatypeOfBuiltGroup
open Go.ChangeShapes Go.WideShapes Go.ChangeAt Go.RowKit
open Go.ChangeMaps (open_string shut_string)
set_option linter.unusedVariables false      -- a walk need not use every 'w<i>' (that an integer argument fits its kind)

theorem own : ownKnob Try.prog.godebug = none := by kernel_rfl

/-! ### The walk: the Go text returns true. -/
theorem grown_drewN (w : World) (n : Nat) : Grown w (w.drewN n) := Grown.refl w

theorem dt_join (a b : ByteArray) (h : Nowhere a) (hs : (a ++ ⟨#[47]⟩ ++ b).size ≤ maxLen) (w : World) :
    Calls Try.prog 8 #[.string (a ++ ⟨#[47]⟩ ++ b)] w fun e w' => e = .returned (.string a) ∧ ∃ n, w' = w.drewN n := by
  have he : (a ++ ⟨#[47]⟩ ++ b).toList.isEmpty = false := by
    have hz := size_join a b
    rw [Lib.toList_data]
    cases h' : (a ++ ⟨#[47]⟩ ++ b).data.toList with
    | nil =>
      have : (a ++ ⟨#[47]⟩ ++ b).data.toList.length = 0 := by rw [h']; rfl
      have e : (a ++ ⟨#[47]⟩ ++ b).data.toList.length = (a ++ ⟨#[47]⟩ ++ b).size := (Lib.size_eq _).symm
      omega
    | cons x l => rfl
  have := dt_hit _ _ he (at_join a b h) hs w
  rw [take_join] at this
  exact this

set_option maxHeartbeats 1000000 in
theorem walk (a0 : ByteArray) (a1 : ByteArray) (w0 : a0.size ≤ maxLen) (w1 : a1.size ≤ maxLen) (w : World) :
    Calls Try.prog 4 #[.string a0, .string a1] w fun e w' => e = .returned (.bool true) ∧ Grown w w' := by
  rcases at_or a0 with hn | ⟨i, hi⟩
  · by_cases he : a0.toList.isEmpty = true
    · obtain rfl : a0 = ⟨#[]⟩ := by
        have : a0.data.toList = [] := by rw [← Lib.toList_data]; simpa using he
        cases a0 with | mk d => cases d with | mk l => simp at this; subst this; rfl
      go_enter Try.func4, Try.ntmps4
      go_wp2_with (first | (go_at_call 9; refine (zb9_any _ _ w0 w1 _).mono ?_; rintro e w' ⟨⟨r, rfl, hr⟩, rfl⟩; cases r) | (go_at_call 10; refine (has_no _ hn w0 _).mono ?_; rintro e w' ⟨rfl, rfl⟩) | (go_at_call 8; fail))
      · go_ret
        exact ⟨rfl, Grown.refl _⟩
      · go_ret
        exact ⟨rfl, Grown.refl _⟩
      · have hz : ((⟨#[]⟩ : ByteArray) ++ ⟨#[47]⟩ ++ a1).size ≤ maxLen := by
          rw [size_join]
          unfold maxLen
          have : (⟨#[]⟩ : ByteArray).size = 0 := rfl
          omega
        refine (dt_join _ _ hn hz _).mono ?_
        rintro e w' ⟨rfl, n, rfl⟩
        go_wp2_with (go_at_call 8; refine (dt_empty _).mono ?_; rintro e w' ⟨rfl, n', rfl⟩)
        go_ret
        exact ⟨rfl, grown_drewN _ _⟩
    · have he : a0.toList.isEmpty = false := by simpa using he
      go_enter Try.func4, Try.ntmps4
      go_wp2_with (first | (go_at_call 9; refine (zb9_any _ _ w0 w1 _).mono ?_; rintro e w' ⟨⟨r, rfl, hr⟩, rfl⟩; cases r) | (go_at_call 10; refine (has_no _ hn w0 _).mono ?_; rintro e w' ⟨rfl, rfl⟩) | (go_at_call 8; fail))
      · go_ret
        exact ⟨rfl, Grown.refl _⟩
      · go_ret
        exact ⟨rfl, Grown.refl _⟩
      · have hz : (a0 ++ ⟨#[47]⟩ ++ a1).size ≤ maxLen := by
          rw [size_join]
          unfold maxLen
          omega
        refine (dt_join _ _ hn hz _).mono ?_
        rintro e w' ⟨rfl, n, rfl⟩
        go_wp2_with (go_at_call 8; refine (dt_miss _ he hn _).mono ?_; rintro e w' ⟨rfl, n', rfl⟩)
        go_ret
        exact ⟨rfl, grown_drewN _ _⟩
      · go_ret
        exact ⟨rfl, Grown.refl _⟩
  · go_enter Try.func4, Try.ntmps4
    go_wp2_with (first | (go_at_call 9; refine (zb9_any _ _ w0 w1 _).mono ?_; rintro e w' ⟨⟨r, rfl, hr⟩, rfl⟩; cases r) | (go_at_call 10; refine (has_yes _ i hi w0 _).mono ?_; rintro e w' ⟨rfl, rfl⟩) | (go_at_call 8; fail))
    all_goals go_ret
    all_goals exact ⟨rfl, Grown.refl _⟩

/-! ### THE ROW's STEP: WRITTEN OUT: LEAVE IT -/
set_option maxRecDepth 100000 in
theorem lifted (os : Os) (started : os.Started) (H : Type) (enc : TypeId × Value → H) :
    ReturnsInHanded {} Try.checked os 4 .any (Rows.fnDatatypeOfBuiltGroupSpec.pre6 enc Try.prog Try.f4 Rows.fnDatatypeOfBuiltGroupRow.domain false) (Rows.fnDatatypeOfBuiltGroupSpec.post enc Try.prog Try.f4 false true false false) := by
  refine returnsInHanded_of_change (C := Try.checked) own started (by kernel_rfl) Try.func4
    (ChangeSpec.witness6 (enc := enc) (C := Try.checked) false ⟨#[], #[.string ByteArray.empty, .string ByteArray.empty], []⟩ 8 (by kernel_rfl) (by kernel_rfl) (by kernel_rfl) (by kernel_rfl)) ?_
  intro W base args ds gs before hval0 hW hcnd _
  have hval : ∀ (j : Nat) t v, Try.f4.params[j]? = some t → args[j]? = some v → Value.okWide Try.prog W .any base t v := hval0
  have hW' := hW
  obtain ⟨p, q, hA0, hV, rfl, hfz, hnd⟩ := hW
  have hA : DataW.TrodAll enc Try.prog W 0 (fun _ => true) true Try.f4.params.toList args.toList ds p := hA0
  rw [Try.params4] at hA hval
  obtain ⟨v0, vs0, d0, ds0, p0, q0, hargs, rfl, rfl, h0, r0⟩ := trodAll_cons hA
  obtain ⟨v1, vs1, d1, ds1, p1, q1, rfl, rfl, rfl, h1, r1⟩ := trodAll_cons r0
  obtain ⟨rfl, rfl, rfl⟩ := trodAll_nil r1
  obtain rfl : args = #[v0, v1] := by cases args; simp_all
  obtain ⟨rfl, rfl⟩ := trodVars_none hV
  obtain ⟨a0, rfl, rfl, rfl, w0⟩ := open_string Try.underlying9 (hval 0 9 v0 rfl rfl) h0
  obtain ⟨a1, rfl, rfl, rfl, w1⟩ := open_string Try.underlying9 (hval 1 9 v1 rfl rfl) h1
  clear hA0 hval0
  simp only [List.append_nil] at hW'
  refine (walk a0 a1 w0 w1 W).mono fun e W' ⟨he, hg⟩ => ?_
  subst he
  exact ⟨_, rfl, post_of_same (pa := []) (pv := []) hW' (fun _ _ _ => (trodAll_cons_mk (shut_bool Try.underlying4 _) trodAll_mk0)) (fun sp _ => (trodAll_cons_mk (shut_string Try.underlying9 w0) (trodAll_cons_mk (shut_string Try.underlying9 w1) trodAll_mk0))) (fun _ _ => rfl) rfl
    (hg.frame _) hg.2.1 (ok_one (by kernel_rfl) rfl (okWide_bool_mk Try.underlying4 _))⟩

theorem over : Rows.fnDatatypeOfBuiltGroupRow.holds Try.pinned (OpenSpec.ofChange Rows.fnDatatypeOfBuiltGroupSpec) :=
  OpenClaim.holds_of_wide 4 Try.f4 rfl rfl rfl rfl rfl rfl rfl ⟨rfl, rfl, rfl, rfl, rfl⟩ rfl rfl rfl rfl rfl (by kernel_rfl) Try.func4 (by kernel_rfl)
    (of_decide_eq_true (by kernel_rfl)) (by unfold Func.isWrapper; first | (rw [if_pos (by decide +kernel)]; kernel_rfl) | (rw [if_neg (by decide +kernel)]; exact ⟨rfl, rfl⟩))
    (fun os started H enc _ => lifted os started H enc)

/-- ████ THE STATEMENT ████ -/
theorem proved : Rows.FnDatatypeOfBuiltGroupSaid :=
  over
end Go.Proofs.Qxb6605495a.fnDatatypeOfBuiltGroup
