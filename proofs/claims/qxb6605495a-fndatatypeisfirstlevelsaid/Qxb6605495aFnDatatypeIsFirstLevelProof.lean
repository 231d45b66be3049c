/-
  A proof of 'Rows.FnDatatypeIsFirstLevelSaid'. The frame is the guide's shell; the walk is ours.
-/
import Derived.Test.Qxb6605495aRows
import Derived.WalkKit
import Derived.ProofKit
import Derived.OpenShut
import Derived.ShutString
import Derived.Test.Qxb6605495aBase
namespace Go.Proofs.Qxb6605495a.fnDatatypeIsFirstLevel
open Go.ChangeShapes Go.WideShapes Go.ChangeAt Go.RowKit
open Go.ChangeMaps (open_string shut_string)
set_option linter.unusedVariables false      -- a walk need not use every 'w<i>' (that an integer argument fits its kind)

theorem own : ownKnob Try.prog.godebug = none := by kernel_rfl

/-! ### The walk: the Go text returns true. -/
/-- What Datatype hands back of a group that is not empty: a start of it without '/', whole or followed by '/'. -/
structure Start (d s : ByteArray) : Prop where
  le : d.size ≤ s.size
  same : ∀ k (h : k < d.size), d[k] = s[k]'(Nat.lt_of_lt_of_le h le) ∧ d[k] ≠ 47
  follow : d.size = s.size ∨ ∃ h : d.size < s.size, s[d.size] = 47

theorem start_whole (s : ByteArray) (h : Nowhere s) : Start s s :=
  ⟨Nat.le_refl _, fun k hk => ⟨rfl, h.byte k hk⟩, Or.inl rfl⟩

theorem start_cut (s : ByteArray) (i : Nat) (h : At s i) : Start (s.extract 0 i) s := by
  have hl := h.lt
  have hz : (s.extract 0 i).size = i := by simp; omega
  refine ⟨by omega, fun k hk => ?_, Or.inr ⟨by omega, ?_⟩⟩
  · have e : (s.extract 0 i)[k] = s[k]'(by omega) := by simp [ByteArray.getElem_extract]
    refine ⟨e, ?_⟩
    rw [e]
    exact h.before k (by omega)
  · have := h.byte
    simp only [hz]
    exact this

theorem grown_drewN (w : World) : ∀ n, Grown w (w.drewN n)
  | 0 => Grown.refl _
  | n + 1 => Grown.drew (grown_drewN w n)

theorem dt_start (s : ByteArray) (he : s.toList.isEmpty = false) (hs : s.size ≤ maxLen) (w : World) :
    Calls Try.prog 8 #[.string s] w fun e w' => (∃ d, e = .returned (.string d) ∧ Start d s) ∧ ∃ n, w' = w.drewN n := by
  rcases at_or s with h | ⟨i, h⟩
  · exact (dt_miss s he h w).mono fun e w' ⟨h1, h2⟩ => ⟨⟨s, h1, start_whole s h⟩, h2⟩
  · exact (dt_hit s i he h hs w).mono fun e w' ⟨h1, h2⟩ => ⟨⟨_, h1, start_cut s i h⟩, h2⟩

set_option maxHeartbeats 1000000 in
theorem walk (a0 : ByteArray) (w0 : a0.size ≤ maxLen) (w : World) :
    Calls Try.prog 3 #[.string a0] w fun e w' => e = .returned (.bool true) ∧ Grown w w' := by
  by_cases hb : a0.size ≤ 1048576
  · by_cases he : a0.toList.isEmpty = true
    · obtain rfl : a0 = ⟨#[]⟩ := by
        have : a0.data.toList = [] := by rw [← Lib.toList_data]; simpa using he
        cases a0 with | mk d => cases d with | mk l => simp at this; subst this; rfl
      go_enter Try.func3, Try.ntmps3
      go_wp2_with (first | (go_at_call 7; refine (zb7_yes _ hb _).mono ?_; rintro e w' ⟨rfl, rfl⟩) | (go_at_call 8; refine (dt_empty _).mono ?_; rintro e w' ⟨rfl, n, rfl⟩))
      go_ret
      exact ⟨rfl, Grown.refl _⟩
    · have he : a0.toList.isEmpty = false := by simpa using he
      have hbb := hb
      go_enter Try.func3, Try.ntmps3
      go_wp2_with (first | (go_at_call 7; refine (zb7_yes _ hb _).mono ?_; rintro e w' ⟨rfl, rfl⟩) | (go_at_call 8; refine (dt_start _ he w0 _).mono ?_; rintro e w' ⟨⟨d, rfl, hst⟩, n, rfl⟩; have hle := hst.le))
      go_loopw [4] (fun vi wr => ∃ k m : Nat, k ≤ d.size ∧ vi = .int .i64 k ∧ wr = w.drewN m) (fun vi _ => d.size - (intOf vi).toNat)
      case atStart => exact ⟨0, n, Nat.zero_le _, rfl, rfl⟩
      case round =>
        obtain ⟨k, m, hk, rfl, rfl⟩ := hrel
        by_cases hlt : k < d.size
        · have hlt' : k < a0.size := by omega
          have hbn : ((d[k].toNat : Int) != (a0[k].toNat : Int)) = false := by rw [(hst.same k hlt).1]; simp
          have hb7 : ((d[k].toNat : Int) == 47) = false := by
            rw [Bool.eq_false_iff]
            intro h'
            exact (hst.same k hlt).2 (byte_int.1 h')
          go_wp2
          go_quiet (fail)
          go_wp2
          go_roundw
          case rel => exact ⟨k + 1, _, by omega, by go_num, rfl⟩
          case measure => simp [intOf]; omega
        · rcases hst.follow with hn | ⟨hn, hn7⟩
          · have hq : ((d.size : Int) == (a0.size : Int)) = true := by simp [hn]
            go_wp2
            go_ret
            exact ⟨rfl, grown_drewN _ _⟩
          · have hq : ((d.size : Int) == (a0.size : Int)) = false := by rw [beq_eq_false_iff_ne]; omega
            have hq7 := byte_int.2 hn7
            go_wp2
            go_ret
            exact ⟨rfl, grown_drewN _ _⟩
  · have hb' : 1048576 < a0.size := by omega
    go_enter Try.func3, Try.ntmps3
    go_wp2_with (first | (go_at_call 7; refine (zb7_no _ hb' _).mono ?_; rintro e w' ⟨rfl, rfl⟩))
    go_ret
    exact ⟨rfl, Grown.refl _⟩

/-! ### THE ROW's STEP: WRITTEN OUT: LEAVE IT -/
set_option maxRecDepth 100000 in
theorem lifted (os : Os) (started : os.Started) (H : Type) (enc : TypeId × Value → H) :
    ReturnsInHanded {} Try.checked os 3 .any (Rows.fnDatatypeIsFirstLevelSpec.pre6 enc Try.prog Try.f3 Rows.fnDatatypeIsFirstLevelRow.domain false) (Rows.fnDatatypeIsFirstLevelSpec.post enc Try.prog Try.f3 false true false false) := by
  refine returnsInHanded_of_change (C := Try.checked) own started (by kernel_rfl) Try.func3
    (ChangeSpec.witness6 (enc := enc) (C := Try.checked) false ⟨#[], #[.string ByteArray.empty], []⟩ 8 (by kernel_rfl) (by kernel_rfl) (by kernel_rfl) (by kernel_rfl)) ?_
  intro W base args ds gs before hval0 hW hcnd _
  have hval : ∀ (j : Nat) t v, Try.f3.params[j]? = some t → args[j]? = some v → Value.okWide Try.prog W .any base t v := hval0
  have hW' := hW
  obtain ⟨p, q, hA0, hV, rfl, hfz, hnd⟩ := hW
  have hA : DataW.TrodAll enc Try.prog W 0 (fun _ => true) true Try.f3.params.toList args.toList ds p := hA0
  rw [Try.params3] at hA hval
  obtain ⟨v0, vs0, d0, ds0, p0, q0, hargs, rfl, rfl, h0, r0⟩ := trodAll_cons hA
  obtain ⟨rfl, rfl, rfl⟩ := trodAll_nil r0
  obtain rfl : args = #[v0] := by cases args; simp_all
  obtain ⟨rfl, rfl⟩ := trodVars_none hV
  obtain ⟨a0, rfl, rfl, rfl, w0⟩ := open_string Try.underlying9 (hval 0 9 v0 rfl rfl) h0
  clear hA0 hval0
  simp only [List.append_nil] at hW'
  refine (walk a0 w0 W).mono fun e W' ⟨he, hg⟩ => ?_
  subst he
  exact ⟨_, rfl, post_of_same (pa := []) (pv := []) hW' (fun _ _ _ => (trodAll_cons_mk (shut_bool Try.underlying4 _) trodAll_mk0)) (fun sp _ => (trodAll_cons_mk (shut_string Try.underlying9 w0) trodAll_mk0)) (fun _ _ => rfl) rfl
    (hg.frame _) hg.2.1 (ok_one (by kernel_rfl) rfl (okWide_bool_mk Try.underlying4 _))⟩

theorem over : Rows.fnDatatypeIsFirstLevelRow.holds Try.pinned (OpenSpec.ofChange Rows.fnDatatypeIsFirstLevelSpec) :=
  OpenClaim.holds_of_wide 3 Try.f3 rfl rfl rfl rfl rfl rfl rfl ⟨rfl, rfl, rfl, rfl, rfl⟩ rfl rfl rfl rfl rfl (by kernel_rfl) Try.func3 (by kernel_rfl)
    (of_decide_eq_true (by kernel_rfl)) (by unfold Func.isWrapper; first | (rw [if_pos (by decide +kernel)]; kernel_rfl) | (rw [if_neg (by decide +kernel)]; exact ⟨rfl, rfl⟩))
    (fun os started H enc _ => lifted os started H enc)

/-- ████ THE STATEMENT ████ -/
theorem proved : Rows.FnDatatypeIsFirstLevelSaid :=
  over
end Go.Proofs.Qxb6605495a.fnDatatypeIsFirstLevel
