/-
  A proof of 'Rows.FnSplitExactSaid'. The frame is the guide's shell; the walk is ours.
-/
import Derived.Test.Qxb6605495aRows
import Derived.WalkKit
import Derived.ProofKit
import Derived.OpenShut
import Derived.ShutString
import Derived.Test.Qxb6605495aBase
namespace Go.Proofs.Qxb6605495a.fnSplitExact
open Go.ChangeShapes Go.WideShapes Go.ChangeAt Go.RowKit
open Go.ChangeMaps (open_string shut_string)
set_option linter.unusedVariables false      -- a walk need not use every 'w<i>' (that an integer argument fits its kind)

theorem own : ownKnob Try.prog.godebug = none := by kernel_rfl

/-! ### The walk: the Go text returns true. -/
theorem grown_drewN (w : World) (n : Nat) : Grown w (w.drewN n) := Grown.refl w

/-- The last '/' of the whole, off the last '/' of what stands behind the first. -/
theorem last_rest (s : ByteArray) (i : Nat) (h : At s i) :
    (Lib.lastIndexByte (s.extract (i + 1) s.size) 47 = -1 ∧ Lib.lastIndexByte s 47 = (i : Int)) ∨
    ∃ j : Nat, i + 1 + j < s.size ∧ Lib.lastIndexByte (s.extract (i + 1) s.size) 47 = (j : Int) ∧ Lib.lastIndexByte s 47 = ((i + 1 + j : Nat) : Int) := by
  have hl := h.lt
  have hz : (s.extract (i + 1) s.size).size = s.size - (i + 1) := by simp
  have hget : ∀ k, (hk : k < s.size - (i + 1)) → (s.extract (i + 1) s.size).data[k]! = s.data[i + 1 + k]! := by
    intro k hk
    rw [byteBang _ k (by omega), byteBang _ (i + 1 + k) (by omega), ByteArray.getElem_extract]
  have hi7 : ((s.data[i]!).toNat : Int) = 47 := by rw [byteBang s i hl, h.byte]; rfl
  rcases Lib.lastIndexByte_spec (s.extract (i + 1) s.size) 47 with ⟨e, hn⟩ | ⟨j, hj, e, hc, hn⟩
  · refine Or.inl ⟨e, ?_⟩
    rcases Lib.lastIndexByte_spec s 47 with ⟨_, hn2⟩ | ⟨m, hm, e2, hc2, hn2⟩
    · exact absurd hi7 (hn2 i hl)
    · rw [e2]
      rcases Nat.lt_trichotomy m i with h1 | h1 | h1
      · exact absurd hi7 (hn2 i h1 hl)
      · rw [h1]
      · obtain ⟨k, rfl⟩ : ∃ k, m = i + 1 + k := ⟨m - (i + 1), by omega⟩
        rw [← hget k (by omega)] at hc2
        exact absurd hc2 (hn k (by omega))
  · refine Or.inr ⟨j, by omega, e, ?_⟩
    rw [hget j (by omega)] at hc
    rcases Lib.lastIndexByte_spec s 47 with ⟨_, hn2⟩ | ⟨m, hm, e2, hc2, hn2⟩
    · exact absurd hi7 (hn2 i hl)
    · rw [e2]
      rcases Nat.lt_trichotomy m (i + 1 + j) with h1 | h1 | h1
      · exact absurd hc (hn2 _ h1 (by omega))
      · rw [h1]
      · obtain ⟨k, rfl⟩ : ∃ k, m = i + 1 + k := ⟨m - (i + 1), by omega⟩
        rw [← hget k (by omega)] at hc2
        exact absurd hc2 (hn k (by omega) (by omega))

theorem sp_two' (s : ByteArray) (i j : Nat) (h : At s i) (hs : s.size ≤ maxLen) (hl : Hid (Lib.lastIndexByte (s.extract (i + 1) s.size) 47 = (j : Int))) (hj : i + 1 + j < s.size) (w : World) :
    Calls Try.prog 12 #[.string s] w fun e w' => e = .returned (.tuple #[.string (s.extract 0 i), .string (s.extract (i + 1) (i + 1 + j)), .bool true]) ∧ ∃ n, w' = w.drewN n := by
  have := sp_two s i j h hs hl hj w
  rw [ByteArray.extract_extract, show min (i + 1 + j) s.size = i + 1 + j by omega] at this
  exact this

/-- Where the scan's variable f stands behind k rounds, the first '/' being at i. -/
def fAt (i k : Nat) : Int := if k ≤ i then -1 else i

set_option maxHeartbeats 1000000 in
theorem walk_none (a0 : ByteArray) (hb : a0.size ≤ 1048576) (h : Nowhere a0) (w : World) :
    Calls Try.prog 5 #[.string a0] w fun e w' => e = .returned (.bool true) ∧ Grown w w' := by
  go_enter Try.func5, Try.ntmps5
  go_wp2_with (first | (go_at_call 11; refine (zb11_yes _ hb _).mono ?_; rintro e w' ⟨rfl, rfl⟩) | (go_at_call 12; refine (sp_miss _ h _).mono ?_; rintro e w' ⟨rfl, n, rfl⟩))
  go_loop [6, 7, 8] (fun vf vl vi => ∃ k : Nat, k ≤ a0.size ∧ vf = .int .i64 (-1) ∧ vl = .int .i64 (-1) ∧ vi = .int .i64 k) (fun _ _ vi => a0.size - (intOf vi).toNat)
  case atStart => exact ⟨0, Nat.zero_le _, rfl, rfl, rfl⟩
  case round =>
    obtain ⟨k, hk, rfl, rfl, rfl⟩ := hrel
    by_cases hlt : k < a0.size
    · have hb7 : ((a0[k].toNat : Int) == 47) = false := by
        rw [Bool.eq_false_iff]
        intro h'
        exact h.byte k hlt (byte_int.1 h')
      go_wp2
      go_round
      case rel => exact ⟨k + 1, by omega, rfl, rfl, by go_num⟩
      case measure => simp [intOf]; omega
    · go_wp2
      go_ret
      exact ⟨rfl, grown_drewN _ _⟩

theorem fAt_le {i k : Nat} (h : k ≤ i) : fAt i k = -1 := if_pos h
theorem fAt_gt {i k : Nat} (h : i < k) : fAt i k = i := if_neg (by omega)

/-- What the loop comes to, the first '/' being at i. -/
theorem step_other (s : ByteArray) (i k : Nat) (hk : k < s.size) (h : At s i) (hne : ((s[k].toNat : Int) == 47) = false) : Lib.lastIdx s 47 (k + 1) = Lib.lastIdx s 47 k ∧ fAt i (k + 1) = fAt i k := by
  have hki : k ≠ i := by
    rintro rfl
    rw [byte_int.2 h.byte] at hne
    cases hne
  refine ⟨Lib.lastIdx_miss s 47 k ?_, ?_⟩
  · rw [byteBang s k hk]
    simpa using hne
  · unfold fAt
    split <;> split <;> omega
theorem step_slash (s : ByteArray) (i k : Nat) (hk : k < s.size) (h : At s i) (he : ((s[k].toNat : Int) == 47) = true) : Lib.lastIdx s 47 (k + 1) = k ∧ fAt i (k + 1) = i ∧ i ≤ k ∧ (fAt i k = -1 ∨ fAt i k = i) ∧ (fAt i k = -1 → k = i) := by
  have hik : i ≤ k := by
    rcases Nat.lt_or_ge k i with h1 | h1
    · exact absurd (byte_int.1 he) (h.before k h1)
    · exact h1
  refine ⟨Lib.lastIdx_hit s 47 k ?_, fAt_gt (by omega), hik, ?_, ?_⟩
  · rw [byteBang s k hk]
    simpa using he
  · unfold fAt
    split <;> simp
  · unfold fAt
    split <;> omega

set_option maxHeartbeats 2000000 in
/-- The rest of the law, Split's answer known: 'g' is what stands between the first and the last '/'. -/
theorem walk_some (a0 g : ByteArray) (hb : a0.size ≤ 1048576) (i l : Nat) (h : At a0 i) (hl : Hid (Lib.lastIndexByte a0 47 = (l : Int))) (hil : i ≤ l) (hls : l < a0.size)
    (hg : (l = i ∧ g = ⟨#[]⟩) ∨ (i < l ∧ g = a0.extract (i + 1) l))
    (hsp : ∀ w, Calls Try.prog 12 #[.string a0] w fun e w' => e = .returned (.tuple #[.string (a0.extract 0 i), .string g, .bool true]) ∧ ∃ n, w' = w.drewN n) (w : World) :
    Calls Try.prog 5 #[.string a0] w fun e w' => e = .returned (.bool true) ∧ Grown w w' := by
  have hi := h.lt
  have Hsp : Hid (∀ w, Calls Try.prog 12 #[.string a0] w fun e w' => e = .returned (.tuple #[.string (a0.extract 0 i), .string g, .bool true]) ∧ ∃ n, w' = w.drewN n) := hsp
  clear hsp
  have Hg : Hid ((l = i ∧ g = ⟨#[]⟩) ∨ (i < l ∧ g = a0.extract (i + 1) l)) := hg
  clear hg
  go_enter Try.func5, Try.ntmps5
  go_wp2_with (first | (go_at_call 11; refine (zb11_yes _ hb _).mono ?_; rintro e w' ⟨rfl, rfl⟩) | (go_at_call 12; refine (Hsp.out _).mono ?_; rintro e w' ⟨rfl, n, rfl⟩))
  go_loop [6, 7, 8] (fun vf vl vi => ∃ k : Nat, k ≤ a0.size ∧ vf = .int .i64 (fAt i k) ∧ vl = .int .i64 (Lib.lastIdx a0 47 k) ∧ vi = .int .i64 k) (fun _ _ vi => a0.size - (intOf vi).toNat)
  case atStart => exact ⟨0, Nat.zero_le _, rfl, rfl, rfl⟩
  case round =>
    obtain ⟨k, hk, rfl, rfl, rfl⟩ := hrel
    by_cases hlt : k < a0.size
    · by_cases he : ((a0[k].toNat : Int) == 47) = true
      · obtain ⟨s1, s2, s3, s4, s5⟩ := step_slash a0 i k hlt h he
        have S : Hid (Lib.lastIdx a0 47 (k + 1) = k ∧ fAt i (k + 1) = i) := ⟨s1, s2⟩
        clear s1 s2
        by_cases hf : fAt i k < 0
        · have hki : k = i := s5 (by omega)
          clear s4 s5
          have Hki : Hid (k = i) := hki
          clear hki
          go_wp2
          go_round
          case rel => exact ⟨k + 1, by omega, by rw [S.out.2, ← Hki.out], by rw [S.out.1], by go_num⟩
          case measure => simp [intOf]; omega
        · have hfi : Hid (fAt i k = i) := by rcases s4 with e | e; omega; exact e
          clear s4 s5
          go_wp2
          go_round
          case rel => exact ⟨k + 1, by omega, by rw [S.out.2, hfi.out], by rw [S.out.1], by go_num⟩
          case measure => simp [intOf]; omega
      · have he' : ((a0[k].toNat : Int) == 47) = false := by simpa using he
        have S : Hid (Lib.lastIdx a0 47 (k + 1) = Lib.lastIdx a0 47 k ∧ fAt i (k + 1) = fAt i k) := step_other a0 i k hlt h he'
        clear he
        go_wp2
        go_round
        case rel => exact ⟨k + 1, by omega, by rw [S.out.2], by rw [S.out.1], by go_num⟩
        case measure => simp [intOf]; omega
    · obtain rfl : k = a0.size := by omega
      rw [fAt_gt hi, show Lib.lastIdx a0 47 a0.size = l from hl.out]
      rcases Hg.out with ⟨e1, e2⟩ | ⟨e1, e2⟩
      · have hq : ((l : Int) == (i : Int)) = true := by rw [e1]; simp
        have c1 : (0 : Int) ≤ (i : Int) := by omega
        have c2 : (i : Int) ≤ (a0.size : Int) := by omega
        clear e1
        subst e2
        go_wp2
        go_ret
        exact ⟨rfl, grown_drewN _ _⟩
      · have hq : ((l : Int) == (i : Int)) = false := by rw [beq_eq_false_iff_ne]; omega
        have c1 : (0 : Int) ≤ (i : Int) := by omega
        have c2 : (i : Int) ≤ (a0.size : Int) := by omega
        subst e2
        go_wp2
        go_ret
        exact ⟨rfl, grown_drewN _ _⟩

theorem walk (a0 : ByteArray) (w0 : a0.size ≤ maxLen) (w : World) :
    Calls Try.prog 5 #[.string a0] w fun e w' => e = .returned (.bool true) ∧ Grown w w' := by
  by_cases hb : a0.size ≤ 1048576
  · rcases at_or a0 with hn | ⟨i, hi⟩
    · exact walk_none a0 hb hn w
    · have hil := hi.lt
      rcases last_rest a0 i hi with ⟨e1, e2⟩ | ⟨j, hj, e1, e2⟩
      · exact walk_some a0 ⟨#[]⟩ hb i i hi e2 (Nat.le_refl _) hil (Or.inl ⟨rfl, rfl⟩) (fun w => sp_one a0 i hi w0 e1 w) w
      · exact walk_some a0 (a0.extract (i + 1) (i + 1 + j)) hb i (i + 1 + j) hi e2 (by omega) hj (Or.inr ⟨by omega, rfl⟩) (fun w => sp_two' a0 i j hi w0 e1 hj w) w
  · have hb' : 1048576 < a0.size := by omega
    go_enter Try.func5, Try.ntmps5
    go_wp2_with (first | (go_at_call 11; refine (zb11_no _ hb' _).mono ?_; rintro e w' ⟨rfl, rfl⟩))
    go_ret
    exact ⟨rfl, Grown.refl _⟩

/-! ### THE ROW's STEP: WRITTEN OUT: LEAVE IT -/
set_option maxRecDepth 100000 in
theorem lifted (os : Os) (started : os.Started) (H : Type) (enc : TypeId × Value → H) :
    ReturnsInHanded {} Try.checked os 5 .any (Rows.fnSplitExactSpec.pre6 enc Try.prog Try.f5 Rows.fnSplitExactRow.domain false) (Rows.fnSplitExactSpec.post enc Try.prog Try.f5 false true false false) := by
  refine returnsInHanded_of_change (C := Try.checked) own started (by kernel_rfl) Try.func5
    (ChangeSpec.witness6 (enc := enc) (C := Try.checked) false ⟨#[], #[.string ByteArray.empty], []⟩ 8 (by kernel_rfl) (by kernel_rfl) (by kernel_rfl) (by kernel_rfl)) ?_
  intro W base args ds gs before hval0 hW hcnd _
  have hval : ∀ (j : Nat) t v, Try.f5.params[j]? = some t → args[j]? = some v → Value.okWide Try.prog W .any base t v := hval0
  have hW' := hW
  obtain ⟨p, q, hA0, hV, rfl, hfz, hnd⟩ := hW
  have hA : DataW.TrodAll enc Try.prog W 0 (fun _ => true) true Try.f5.params.toList args.toList ds p := hA0
  rw [Try.params5] at hA hval
  obtain ⟨v0, vs0, d0, ds0, p0, q0, hargs, rfl, rfl, h0, r0⟩ := trodAll_cons hA
  obtain ⟨rfl, rfl, rfl⟩ := trodAll_nil r0
  obtain rfl : args = #[v0] := by cases args; simp_all
  obtain ⟨rfl, rfl⟩ := trodVars_none hV
  obtain ⟨a0, rfl, rfl, rfl, w0⟩ := open_string Try.underlying9 (hval 0 9 v0 rfl rfl) h0
  clear hA0 hval0
  simp only [List.append_nil] at hW'
  refine (walk a0 w0 W).mono fun e W' ⟨he, hg⟩ => ?_
  subst he
  exact ⟨_, rfl, post_of_same (pa := []) (pv := []) hW' (fun _ _ _ => (trodAll_cons_mk (shut_bool Try.underlying4 _) trodAll_mk0)) (fun sp _ => (trodAll_cons_mk (shut_string Try.underlying9 w0) trodAll_mk0)) (fun _ _ => rfl) rfl
    (hg.frame _) hg.2.1 (ok_one (by kernel_rfl) rfl (okWide_bool_mk Try.underlying4 _))⟩

theorem over : Rows.fnSplitExactRow.holds Try.pinned (OpenSpec.ofChange Rows.fnSplitExactSpec) :=
  OpenClaim.holds_of_wide 5 Try.f5 rfl rfl rfl rfl rfl rfl rfl ⟨rfl, rfl, rfl, rfl, rfl⟩ rfl rfl rfl rfl rfl (by kernel_rfl) Try.func5 (by kernel_rfl)
    (of_decide_eq_true (by kernel_rfl)) (by unfold Func.isWrapper; first | (rw [if_pos (by decide +kernel)]; kernel_rfl) | (rw [if_neg (by decide +kernel)]; exact ⟨rfl, rfl⟩))
    (fun os started H enc _ => lifted os started H enc)

/-- ████ THE STATEMENT ████ -/
theorem proved : Rows.FnSplitExactSaid :=
  over
end Go.Proofs.Qxb6605495a.fnSplitExact
