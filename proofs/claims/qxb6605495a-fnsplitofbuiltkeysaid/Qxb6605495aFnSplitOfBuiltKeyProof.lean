/-
  A proof of 'Rows.FnSplitOfBuiltKeySaid'. The frame is the guide's shell; the walk is ours.
-/
import Derived.Test.Qxb6605495aRows
import Derived.WalkKit
import Derived.ProofKit
import Derived.OpenShut
import Derived.ShutString
import Derived.Test.Qxb6605495aBase
import Derived.Deep.RegionWith
namespace Go.Proofs.Qxb6605495a.fnSplitOfBuiltKey
open Go.ChangeShapes Go.WideShapes Go.ChangeAt Go.RowKit
open Go.ChangeMaps (open_string shut_string)
set_option linter.unusedVariables false      -- a walk need not use every 'w<i>' (that an integer argument fits its kind)

theorem own : ownKnob Try.prog.godebug = none := by kernel_rfl

/-! ### The walk: the Go text returns true. -/
theorem grown_drewN (w : World) (n : Nat) : Grown w (w.drewN n) := Grown.refl w

theorem zb13_any (a b c : ByteArray) (ha : a.size ≤ maxLen) (hb : b.size ≤ maxLen) (hc : c.size ≤ maxLen) (w : World) :
    Calls Try.prog 13 #[.string a, .string b, .string c] w fun e w' => (∃ r, e = .returned (.bool r) ∧ (r = true → a.size + b.size + c.size ≤ 1048576)) ∧ w = w' := by
  unfold maxLen at ha hb hc
  by_cases h1 : a.size ≤ 1048576
  · by_cases h2 : b.size ≤ 1048576
    · by_cases h3 : a.size + b.size ≤ 1048576
      · by_cases h4 : c.size ≤ 1048576
        · by_cases h5 : a.size + b.size + c.size ≤ 1048576
          all_goals
            go_enter Try.func13, Try.ntmps13
            go_wp2
            go_ret
            exact ⟨⟨_, rfl, by simp; try omega⟩, rfl⟩
        · go_enter Try.func13, Try.ntmps13
          go_wp2
          go_ret
          exact ⟨⟨_, rfl, by simp⟩, rfl⟩
      · go_enter Try.func13, Try.ntmps13
        go_wp2
        go_ret
        exact ⟨⟨_, rfl, by simp⟩, rfl⟩
    · go_enter Try.func13, Try.ntmps13
      go_wp2
      go_ret
      exact ⟨⟨_, rfl, by simp⟩, rfl⟩
  · go_enter Try.func13, Try.ntmps13
    go_wp2
    go_ret
    exact ⟨⟨_, rfl, by simp⟩, rfl⟩

/-- Split(a + "/" + b), b without '/'. -/
theorem split_two (a b : ByteArray) (ha : Nowhere a) (hb : Nowhere b) (hs : (a ++ ⟨#[47]⟩ ++ b).size ≤ maxLen) (w : World) :
    Calls Try.prog 12 #[.string (a ++ ⟨#[47]⟩ ++ b)] w fun e w' => e = .returned (.tuple #[.string a, .string ⟨#[]⟩, .bool true]) ∧ ∃ n, w' = w.drewN n := by
  have := sp_one (a ++ ⟨#[47]⟩ ++ b) a.size (at_join a b ha) hs (by rw [drop_join]; exact last_none b hb) w
  rw [take_join] at this
  exact this

theorem assoc_join (a b c : ByteArray) : a ++ ⟨#[47]⟩ ++ b ++ ⟨#[47]⟩ ++ c = a ++ ⟨#[47]⟩ ++ (b ++ ⟨#[47]⟩ ++ c) := by
  rw [ByteArray.append_assoc, ByteArray.append_assoc, ByteArray.append_assoc, ByteArray.append_assoc, ByteArray.append_assoc]

/-- Split(a + "/" + b + "/" + c), a and c without '/'. -/
theorem split_three (a b c : ByteArray) (ha : Nowhere a) (hc : Nowhere c) (hs : (a ++ ⟨#[47]⟩ ++ b ++ ⟨#[47]⟩ ++ c).size ≤ maxLen) (w : World) :
    Calls Try.prog 12 #[.string (a ++ ⟨#[47]⟩ ++ b ++ ⟨#[47]⟩ ++ c)] w fun e w' => e = .returned (.tuple #[.string a, .string b, .bool true]) ∧ ∃ n, w' = w.drewN n := by
  rw [assoc_join] at hs ⊢
  have hz := size_join a (b ++ ⟨#[47]⟩ ++ c)
  have hz2 := size_join b c
  have := sp_two (a ++ ⟨#[47]⟩ ++ (b ++ ⟨#[47]⟩ ++ c)) a.size b.size (at_join a _ ha) hs (by rw [drop_join]; exact last_join b c hc) (by omega) w
  rw [drop_join, take_join, take_join] at this
  exact this

set_option maxHeartbeats 2000000 in
theorem walk (a0 : ByteArray) (a1 : ByteArray) (a2 : ByteArray) (w0 : a0.size ≤ maxLen) (w1 : a1.size ≤ maxLen) (w2 : a2.size ≤ maxLen) (w : World) :
    Calls Try.prog 6 #[.string a0, .string a1, .string a2] w fun e w' => e = .returned (.bool true) ∧ Grown w w' := by
  rcases at_or a0 with hn | ⟨i, hi⟩
  · rcases at_or a2 with hn2 | ⟨i, hi⟩
    · go_enter Try.func6, Try.ntmps6
      go_wp2_with (first | (go_at_call 13; refine (zb13_any _ _ _ w0 w1 w2 _).mono ?_; rintro e w' ⟨⟨r, rfl, hr⟩, rfl⟩; cases r) | (go_at_call_of 10 (Value.string a0); refine (has_no _ hn w0 _).mono ?_; rintro e w' ⟨rfl, rfl⟩) | (go_at_call_of 10 (Value.string a2); refine (has_no _ hn2 w2 _).mono ?_; rintro e w' ⟨rfl, rfl⟩) | (go_at_call 12; fail))
      · go_ret
        exact ⟨rfl, Grown.refl _⟩
      · go_ret
        exact ⟨rfl, Grown.refl _⟩
      · have hsum := hr (by simp)
        have hz3 : (a0 ++ ⟨#[47]⟩ ++ a1 ++ ⟨#[47]⟩ ++ a2).size ≤ maxLen := by
          rw [size_join, size_join]
          unfold maxLen
          omega
        have hz2 : (a0 ++ ⟨#[47]⟩ ++ a2).size ≤ maxLen := by
          rw [size_join]
          unfold maxLen
          omega
        refine (split_three _ _ _ hn hn2 hz3 _).mono ?_
        rintro e w' ⟨rfl, n, rfl⟩
        go_wp2_with (go_at_call 12; fail)
        refine (split_two _ _ hn hn2 hz2 _).mono ?_
        rintro e w' ⟨rfl, n', rfl⟩
        go_wp2_with (go_at_call 12; fail)
        refine (sp_miss _ hn _).mono ?_
        rintro e w' ⟨rfl, n'', rfl⟩
        go_wp2
        go_ret
        exact ⟨rfl, grown_drewN _ _⟩
      · go_ret
        exact ⟨rfl, Grown.refl _⟩
      · go_ret
        exact ⟨rfl, Grown.refl _⟩
    · go_enter Try.func6, Try.ntmps6
      go_wp2_with (first | (go_at_call 13; refine (zb13_any _ _ _ w0 w1 w2 _).mono ?_; rintro e w' ⟨⟨r, rfl, hr⟩, rfl⟩; cases r) | (go_at_call_of 10 (Value.string a0); refine (has_no _ hn w0 _).mono ?_; rintro e w' ⟨rfl, rfl⟩) | (go_at_call_of 10 (Value.string a2); refine (has_yes _ i hi w2 _).mono ?_; rintro e w' ⟨rfl, rfl⟩) | (go_at_call 12; fail))
      all_goals go_ret
      all_goals exact ⟨rfl, Grown.refl _⟩
  · go_enter Try.func6, Try.ntmps6
    go_wp2_with (first | (go_at_call 13; refine (zb13_any _ _ _ w0 w1 w2 _).mono ?_; rintro e w' ⟨⟨r, rfl, hr⟩, rfl⟩; cases r) | (go_at_call 10; refine (has_yes _ i hi w0 _).mono ?_; rintro e w' ⟨rfl, rfl⟩) | (go_at_call 12; fail))
    all_goals go_ret
    all_goals exact ⟨rfl, Grown.refl _⟩

/-! ### THE ROW's STEP: WRITTEN OUT: LEAVE IT -/
set_option maxRecDepth 100000 in
theorem lifted (os : Os) (started : os.Started) (H : Type) (enc : TypeId × Value → H) :
    ReturnsInHanded {} Try.checked os 6 .any (Rows.fnSplitOfBuiltKeySpec.pre6 enc Try.prog Try.f6 Rows.fnSplitOfBuiltKeyRow.domain false) (Rows.fnSplitOfBuiltKeySpec.post enc Try.prog Try.f6 false true false false) := by
  refine returnsInHanded_of_change (C := Try.checked) own started (by kernel_rfl) Try.func6
    (ChangeSpec.witness6 (enc := enc) (C := Try.checked) false ⟨#[], #[.string ByteArray.empty, .string ByteArray.empty, .string ByteArray.empty], []⟩ 8 (by kernel_rfl) (by kernel_rfl) (by kernel_rfl) (by kernel_rfl)) ?_
  intro W base args ds gs before hval0 hW hcnd _
  have hval : ∀ (j : Nat) t v, Try.f6.params[j]? = some t → args[j]? = some v → Value.okWide Try.prog W .any base t v := hval0
  have hW' := hW
  obtain ⟨p, q, hA0, hV, rfl, hfz, hnd⟩ := hW
  have hA : DataW.TrodAll enc Try.prog W 0 (fun _ => true) true Try.f6.params.toList args.toList ds p := hA0
  rw [Try.params6] at hA hval
  obtain ⟨v0, vs0, d0, ds0, p0, q0, hargs, rfl, rfl, h0, r0⟩ := trodAll_cons hA
  obtain ⟨v1, vs1, d1, ds1, p1, q1, rfl, rfl, rfl, h1, r1⟩ := trodAll_cons r0
  obtain ⟨v2, vs2, d2, ds2, p2, q2, rfl, rfl, rfl, h2, r2⟩ := trodAll_cons r1
  obtain ⟨rfl, rfl, rfl⟩ := trodAll_nil r2
  obtain rfl : args = #[v0, v1, v2] := by cases args; simp_all
  obtain ⟨rfl, rfl⟩ := trodVars_none hV
  obtain ⟨a0, rfl, rfl, rfl, w0⟩ := open_string Try.underlying9 (hval 0 9 v0 rfl rfl) h0
  obtain ⟨a1, rfl, rfl, rfl, w1⟩ := open_string Try.underlying9 (hval 1 9 v1 rfl rfl) h1
  obtain ⟨a2, rfl, rfl, rfl, w2⟩ := open_string Try.underlying9 (hval 2 9 v2 rfl rfl) h2
  clear hA0 hval0
  simp only [List.append_nil] at hW'
  refine (walk a0 a1 a2 w0 w1 w2 W).mono fun e W' ⟨he, hg⟩ => ?_
  subst he
  exact ⟨_, rfl, post_of_same (pa := []) (pv := []) hW' (fun _ _ _ => (trodAll_cons_mk (shut_bool Try.underlying4 _) trodAll_mk0)) (fun sp _ => (trodAll_cons_mk (shut_string Try.underlying9 w0) (trodAll_cons_mk (shut_string Try.underlying9 w1) (trodAll_cons_mk (shut_string Try.underlying9 w2) trodAll_mk0)))) (fun _ _ => rfl) rfl
    (hg.frame _) hg.2.1 (ok_one (by kernel_rfl) rfl (okWide_bool_mk Try.underlying4 _))⟩

theorem over : Rows.fnSplitOfBuiltKeyRow.holds Try.pinned (OpenSpec.ofChange Rows.fnSplitOfBuiltKeySpec) :=
  OpenClaim.holds_of_wide 6 Try.f6 rfl rfl rfl rfl rfl rfl rfl ⟨rfl, rfl, rfl, rfl, rfl⟩ rfl rfl rfl rfl rfl (by kernel_rfl) Try.func6 (by kernel_rfl)
    (of_decide_eq_true (by kernel_rfl)) (by unfold Func.isWrapper; first | (rw [if_pos (by decide +kernel)]; kernel_rfl) | (rw [if_neg (by decide +kernel)]; exact ⟨rfl, rfl⟩))
    (fun os started H enc _ => lifted os started H enc)

/-- ████ THE STATEMENT ████ -/
theorem proved : Rows.FnSplitOfBuiltKeySaid :=
  over
end Go.Proofs.Qxb6605495a.fnSplitOfBuiltKey
