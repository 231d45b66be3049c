/- Seat b6613145aF: zzDropCR, zzModelLines. -/
import Derived.Test.Qxb6613145aFmtOwn
import Derived.Deep.LoopGhost
namespace Go.Proofs.Qxb6613145aFmt
open Go.RowKit
set_option linter.unusedVariables false

theorem gB_get (t : ByteArray) (j : Nat) (h : j < t.size) : ((t[j].toNat : Nat) : Int) = gB t j := by
  unfold gB
  have h2 : j < t.data.size := h
  rw [Array.getD_eq_getD_getElem?, Array.getElem?_eq_getElem h2]
  rfl
theorem gB_extract (S : ByteArray) (a e j : Nat) (h : e ≤ S.size) (hj : a + j < e) : gB (S.extract a e) j = gB S (a + j) := by
  have h1 : j < (S.extract a e).size := by simp; omega
  rw [← gB_get _ _ h1, ← gB_get _ _ (show a + j < S.size by omega), ByteArray.getElem_extract]

def dropS (t : ByteArray) : ByteArray := if 0 < t.size ∧ gB t (t.size - 1) = 13 then t.extract 0 (t.size - 1) else t

theorem dropS_extract (S : ByteArray) (a e : Nat) (h : e ≤ S.size) (hae : a ≤ e) : dropS (S.extract a e) = S.extract a (crop (gB S) a e) := by
  have hsz : (S.extract a e).size = e - a := by simp; omega
  unfold dropS crop
  rw [hsz]
  by_cases hlt : a < e
  · rw [gB_extract S a e (e - a - 1) h (by omega), show a + (e - a - 1) = e - 1 by omega]
    by_cases hg : gB S (e - 1) = 13
    · rw [if_pos ⟨by omega, hg⟩, if_pos ⟨hlt, hg⟩]
      apply ByteArray.ext
      rw [← Array.toList_inj]
      simp only [ByteArray.data_extract, Array.extract_extract]
      congr 2
      omega
    · rw [if_neg (fun x => hg x.2), if_neg (fun x => hg x.2)]
  · rw [if_neg (by omega), if_neg (by omega)]

theorem dropS_c (t : ByteArray) (w : World) (ht : t.size ≤ 1048576) : Calls Tryf.prog 18 #[.string t] w fun e w' => e = .returned (.string (dropS t)) ∧ w = w' := by
  by_cases h0 : t.size = 0
  · have hd : dropS t = t := by unfold dropS; rw [if_neg (by omega)]
    rw [hd]
    have y0 : ¬ (0 : Int) < (t.size : Int) := by omega
    clear hd
    go_enter Tryf.func18, Tryf.ntmps18
    go_wp2
    go_ret
    exact ⟨rfl, rfl⟩
  · have y0 : (0 : Int) < (t.size : Int) := by omega
    have hg := gB_get t (t.size - 1) (by omega)
    by_cases hc : gB t (t.size - 1) = 13
    · have hd : dropS t = t.extract 0 (t.size - 1) := by unfold dropS; rw [if_pos ⟨by omega, hc⟩]
      rw [hd]
      rw [hc] at hg
      clear hd hc
      go_enter Tryf.func18, Tryf.ntmps18
      go_wp2
      go_ret
      exact ⟨rfl, rfl⟩
    · have hd : dropS t = t := by unfold dropS; rw [if_neg (fun x => hc x.2)]
      rw [hd]
      have z : (((t[t.size - 1]'(by omega)).toNat : Int) == 13) = false := by rw [beq_eq_false_iff_ne, hg]; exact hc
      clear hd hc hg
      go_enter Tryf.func18, Tryf.ntmps18
      go_wp2
      go_ret
      exact ⟨rfl, rfl⟩

/-- The model's state: the first nt lines are in a row of the call's own. -/
structure ML (S : ByteArray) (w0 W : World) (start nt : Nat) (vt : Value) : Prop where
  ot : W.ownsRow w0.heap.size 9 1 vt nt (((linesFrom S 0).take nt).map .string)
  rest : linesFrom S start = (linesFrom S 0).drop nt
  le : nt ≤ start ∧ start ≤ S.size
  ap : Apart (fun _ => False) w0 W

theorem ML.start (S : ByteArray) (w : World) : ML S w w 0 0 (.slice none 0 0) := ⟨World.ownsRow_nil _ _ _ _, rfl, ⟨Nat.le_refl _, Nat.zero_le _⟩, Apart.refl _ _⟩

theorem ML.push {S : ByteArray} {w0 W : World} {start nt : Nat} {vt : Value} (h : ML S w0 W start nt vt) (hlt : start < S.size) (hs : S.size ≤ 1000000) :
    ∃ v' w', (Builtin.append_ #[23, 23] 23 #[vt, .slice (some ⟨W.heap.size, 0, none⟩) 1 1]).run Tryf.prog (W.alloc (.cells #[.string (lineAt S start)] 9)) = .ok v' w' ∧ ML S w0 w' (after S start) (nt + 1) v' := by
  have hle := h.le
  have har := after_range S start hlt
  obtain ⟨v', w', hr, ho, hA, hat⟩ := push23 w0.heap.size vt nt _ W (.string (lineAt S start)) h.ot rfl (by omega) h.ap.size
  have e := h.rest
  rw [linesFrom_step S start hlt] at e
  have e0 : (linesFrom S 0)[nt]? = some (lineAt S start) := by
    have := congrArg (fun l => l[0]?) e
    simpa using this.symm
  refine ⟨v', w', hr, ?_, ?_, ⟨by omega, har.2⟩, h.ap.trans hA (fun k hk _ e2 => ?_)⟩
  · rw [List.take_add_one, e0]
    simpa using ho
  · have := congrArg List.tail e
    simpa using this
  · have := (h.ot.lt k e2).1
    omega

/-- What zzModelLines leaves. -/
def ModelOut (S : ByteArray) (w : World) (e : Ending) (w' : World) : Prop :=
  ∃ vt, e = .returned vt ∧ w'.ownsRow w.heap.size 9 1 vt (linesFrom S 0).length ((linesFrom S 0).map .string) ∧ Apart (fun _ => False) w w'

theorem model_out {S : ByteArray} {w0 W : World} {nt : Nat} {vt : Value} (h : ML S w0 W S.size nt vt) : ModelOut S w0 (.returned vt) W := by
  have hl := congrArg List.length h.rest
  rw [linesFrom_end S S.size (Nat.le_refl _), List.length_drop] at hl
  have ot := h.ot
  have hle : nt ≤ (linesFrom S 0).length := by
    have := ot.1
    simp at this
    omega
  obtain rfl : nt = (linesFrom S 0).length := by
    simp at hl
    omega
  rw [List.take_length] at ot
  exact ⟨vt, rfl, ot, h.ap⟩

set_option maxHeartbeats 2000000 in
set_option maxRecDepth 100000 in
theorem model_c (S : ByteArray) (w : World) (hS : S.size ≤ 140000) : Calls Tryf.prog 8 #[.string S] w fun e w' => ModelOut S w e w' := by
  have HA := Lib.hid (ML.start S w)
  go_enter Tryf.func8, Tryf.ntmps8
  go_wp2
  go_loopg [3, 4, 5] (S.size + 1) (fun gz s3 s4 s5 wr => ∃ (start i nt : Nat), s4 = .int .i64 (start : Int) ∧ s5 = .int .i64 (i : Int) ∧ ML S w wr start nt s3 ∧ start ≤ i ∧ i ≤ S.size ∧ (∀ j, start ≤ j → j < i → gB S j ≠ 10) ∧ S.size - i + 1 ≤ gz)
  case atStart => exact ⟨0, 0, 0, rfl, rfl, HA.out, Nat.le_refl _, Nat.zero_le _, fun j _ h => by omega, by omega⟩
  case round =>
    obtain ⟨start, i, nt, rfl, rfl, hM, hsi, hiS, hno, hg⟩ := hrel
    have HM := Lib.hid hM
    have HNo := Lib.hid hno
    clear HA hM hno
    by_cases hi : i < S.size
    · have y0 : (i : Int) < (S.size : Int) := by omega
      have hgg := gB_get S i hi
      by_cases hc : gB S i = 10
      · have hl : lend S start = i := lend_eq ⟨hsi, hiS, HNo.out, fun _ => hc⟩
        have hline : dropS (S.extract start i) = lineAt S start := by rw [dropS_extract S start i hiS hsi]; unfold lineAt; rw [hl]
        have haf : after S start = i + 1 := by unfold after; rw [hl, if_pos hi]
        have HD := Lib.hid (dropS_c (S.extract start i) wr (by simp; omega))
        rw [hline] at HD
        obtain ⟨v', w', hr, hM2⟩ := HM.out.push (by omega) (by omega)
        rw [haf] at hM2
        have E := Lib.hid hr
        have H2 := Lib.hid hM2
        rw [hc] at hgg
        have y1 : (start : Int) ≤ (i : Int) := by omega
        have y2 : (0 : Int) ≤ (start : Int) := by omega
        have y3 : (i : Int) ≤ (S.size : Int) := by omega
        clear hl hline haf hr hM2 hc HNo
        go_wp2_with (first | (go_at_call 18; refine (HD.out).mono ?_; rintro e w1 ⟨rfl, rfl⟩) | (at_builtin; refine wpList_append_run rfl _ _ 23 rfl _ _ rfl rfl _ _ E.out ?_))
        go_roundg (S.size - (i + 1) + 1)
        case measure => omega
        case rel => exact ⟨i + 1, i + 1, nt + 1, by simp, by simp, H2.out, Nat.le_refl _, by omega, fun j h1 h2 => by omega, Nat.le_refl _⟩
      · have z : ((S[i].toNat : Int) == 10) = false := by rw [beq_eq_false_iff_ne, hgg]; exact hc
        have HC := Lib.hid hc
        clear hgg hc
        go_wp2_with fail
        go_roundg (S.size - (i + 1) + 1)
        case measure => omega
        case rel => exact ⟨start, i + 1, nt, rfl, by simp, HM.out, by omega, by omega, fun j h1 h2 => by by_cases e : j = i; subst e; exact HC.out; exact HNo.out j h1 (by omega), Nat.le_refl _⟩
    · obtain rfl : i = S.size := by omega
      have hle := HM.out.le
      clear hi
      by_cases hlt : start < S.size
      · have hl : lend S start = S.size := lend_eq ⟨hsi, Nat.le_refl _, HNo.out, fun h => by omega⟩
        have hline : dropS (S.extract start S.size) = lineAt S start := by rw [dropS_extract S start S.size (Nat.le_refl _) hsi]; unfold lineAt; rw [hl]
        have haf : after S start = S.size := by unfold after; rw [hl, if_neg (by omega)]
        have HD := Lib.hid (dropS_c (S.extract start S.size) wr (by simp; omega))
        rw [hline] at HD
        obtain ⟨v', w', hr, hM2⟩ := HM.out.push hlt (by omega)
        rw [haf] at hM2
        have E := Lib.hid hr
        have HO := Lib.hid (model_out hM2)
        have y1 : (start : Int) < (S.size : Int) := by omega
        have y2 : (0 : Int) ≤ (start : Int) := by omega
        have y3 : (start : Int) ≤ (S.size : Int) := by omega
        clear hl hline haf hr hM2 HNo hle
        go_wp2_with (first | (go_at_call 18; refine (HD.out).mono ?_; rintro e w1 ⟨rfl, rfl⟩) | (at_builtin; refine wpList_append_run rfl _ _ 23 rfl _ _ rfl rfl _ _ E.out ?_))
        go_ret
        exact HO.out
      · obtain rfl : start = S.size := by omega
        have HO := Lib.hid (model_out HM.out)
        clear HNo hle hlt
        go_wp2_with fail
        go_ret
        exact HO.out
end Go.Proofs.Qxb6613145aFmt
