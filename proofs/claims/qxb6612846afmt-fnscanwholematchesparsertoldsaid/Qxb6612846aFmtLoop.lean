/- Seat b6612846aF: (*polScanner).scan's loop. -/
import Derived.Test.Qxb6612846aFmtScan
namespace Go.Proofs.Qxb6612846aFmt
open Go.RowKit Go.Extern.Stop Go.Stop Go.Extern
set_option linter.unusedVariables false

/-- A scanner that has read nothing. -/
structure Fresh (b : Nat) (w : World) : Prop where
  room : b < w.heap.size
  c0 : w.cell? ⟨b, 0, none⟩ = some (.int .i64 0)
  c1 : w.cell? ⟨b, 1, none⟩ = some (.int .i64 0)
  c2 : w.cell? ⟨b, 2, none⟩ = some (.int .i64 0)
  c3 : w.cell? ⟨b, 3, none⟩ = some (.int .u8 0)
  held : ∀ o, 4 ≤ o → o ≤ 11 → (w.cell? ⟨b, o, none⟩).isSome = true
  c12 : w.cell? ⟨b, 12, none⟩ = some (.int .i64 0)
  c13 : w.cell? ⟨b, 13, none⟩ = some (.int .u32 0)
  c14 : w.cell? ⟨b, 14, none⟩ = some (.int .u32 0)
  c15 : w.cell? ⟨b, 15, none⟩ = some (.int .u32 0)
  ends : ∀ k, k < 12 → ∃ v, w.cell? ⟨b, 16 + k, none⟩ = some v
  marks : ∀ o, w.frozen? ⟨b, o, none⟩ = false

theorem Fresh.sw {b : Nat} {w : World} (h : Fresh b w) : SW b w w 0 0 0 :=
  ⟨Below.refl _ _, h.room, h.c1, h.c2, ⟨_, h.c3⟩, h.held, h.c12, ⟨_, h.c13⟩, ⟨_, h.c14⟩, h.c15, h.ends, h.marks⟩

theorem SW.kept {b : Nat} {w wr w1 : World} {cn st lf : Nat} (h : SW b w wr cn st lf) (hK : Kept b wr w1) (h12 : w1.cell? ⟨b, 12, none⟩ = some (.int .i64 0)) : SW b w w1 cn st lf := by
  refine ⟨h.below.trans hK.below, Nat.lt_of_lt_of_le h.room hK.room, ?_, ?_, ?_, fun o h1 h2 => hK.still o (h.held o h1 h2), h12, ?_, ?_, ?_, ?_, ?_⟩
  · rw [hK.cells 1 (by omega)]; exact h.c1
  · rw [hK.cells 2 (by omega)]; exact h.c2
  · rw [hK.cells 3 (by omega)]; exact h.c3
  · rw [hK.cells 13 (by omega)]; exact h.c13
  · rw [hK.cells 14 (by omega)]; exact h.c14
  · rw [hK.cells 15 (by omega)]; exact h.c15
  · intro k hk; rw [hK.cells (16 + k) (by omega)]; exact h.ends k hk
  · intro o; rw [hK.marks]; exact h.marks o

/-- nheld set, a call that made memory of its own alone, nheld cleared. -/
theorem SW.via {b : Nat} {w wr w1 : World} {cn st lf : Nat} {v : Value} (h : SW b w wr cn st lf) (hb : Below (wr.setCell ⟨b, 12, none⟩ v).heap.size (wr.setCell ⟨b, 12, none⟩ v) w1) : SW b w (w1.setCell ⟨b, 12, none⟩ (.int .i64 0)) cn st lf := by
  have hr : b < (wr.setCell ⟨b, 12, none⟩ v).heap.size := by have := h.room; simpa using this
  have hc : ∀ o, o ≠ 12 → (w1.setCell ⟨b, 12, none⟩ (.int .i64 0)).cell? ⟨b, o, none⟩ = wr.cell? ⟨b, o, none⟩ := fun o ho => by
    rw [setOther ho, hb.cell (p := ⟨b, o, none⟩) hr, setOther ho]
  have h12 : w1.cell? ⟨b, 12, none⟩ = some v := by
    rw [hb.cell (p := ⟨b, 12, none⟩) hr]
    exact World.cell?_setCell_same (h := h.c12) ..
  refine ⟨((h.below.setCell (Nat.le_refl _) v).trans (hb.mono (Nat.le_of_lt hr))).setCell (Nat.le_refl _) _, by have := Nat.lt_of_lt_of_le hr hb.size; simpa using this, ?_, ?_, ?_, ?_, World.cell?_setCell_same (h := h12) .., ?_, ?_, ?_, ?_, ?_⟩
  · rw [hc 1 (by omega)]; exact h.c1
  · rw [hc 2 (by omega)]; exact h.c2
  · rw [hc 3 (by omega)]; exact h.c3
  · intro o h1 h2; rw [hc o (by omega)]; exact h.held o h1 h2
  · rw [hc 13 (by omega)]; exact h.c13
  · rw [hc 14 (by omega)]; exact h.c14
  · rw [hc 15 (by omega)]; exact h.c15
  · intro k hk; rw [hc (16 + k) (by omega)]; exact h.ends k hk
  · intro o
    rw [World.frozen?_setCell, hb.frozen (p := ⟨b, o, none⟩) hr, World.frozen?_setCell]
    exact h.marks o

/-- How the scanner stands behind a scan that did not fail: between two instructions, or not. -/
def Stands (b : Nat) (w : World) (whole : Bool) : Prop :=
  (whole = true ∧ w.cell? ⟨b, 3, none⟩ = some (.int .u8 1) ∧ w.cell? ⟨b, 12, none⟩ = some (.int .i64 0)) ∨
  (whole = false ∧ ∃ (fld lf st : Nat) (sz : Int), 1 ≤ fld ∧ fld ≤ 11 ∧ (fld = 1 → ∃ nh : Nat, nh ≠ 0 ∧ w.cell? ⟨b, 12, none⟩ = some (.int .i64 nh)) ∧ w.cell? ⟨b, 2, none⟩ = some (.int .i64 st) ∧ w.cell? ⟨b, 3, none⟩ = some (.int .u8 fld) ∧ w.cell? ⟨b, 14, none⟩ = some (.int .u32 sz) ∧ w.cell? ⟨b, 15, none⟩ = some (.int .u32 lf))

/-- What a scan leaves. -/
def Left (b : Nat) (r : Res) (w : World) (e : Ending) (w' : World) : Prop :=
  Below b w w' ∧ b < w'.heap.size ∧ w'.cell? ⟨b, 1, none⟩ = some (.int .i64 r.cnt) ∧ ((r.bad = true ∧ IsErr r.off w e w') ∨ (r.bad = false ∧ e = .returned .nilIface ∧ Stands b w' r.whole))

theorem SW.putLeft' {b : Nat} {w wr : World} {cn st lf : Nat} (h : SW b w wr cn st lf) (z : Int) (x : Nat) (hz : z = x) : SW b w (wr.setCell ⟨b, 15, none⟩ (.int .u32 z)) cn st x := by
  subst hz
  exact h.putLeft x

theorem SW.putCnt' {b : Nat} {w wr : World} {cn st lf : Nat} (h : SW b w wr cn st lf) (z : Int) (x : Nat) (hz : z = x) : SW b w (wr.setCell ⟨b, 1, none⟩ (.int .i64 z)) x st lf := by
  subst hz
  exact h.putCnt x
theorem SW.putSt' {b : Nat} {w wr : World} {cn st lf : Nat} (h : SW b w wr cn st lf) (z : Int) (x : Nat) (hz : z = x) : SW b w (wr.setCell ⟨b, 2, none⟩ (.int .i64 z)) cn x lf := by
  subst hz
  exact h.putSt x
theorem Kept.draws {b : Nat} {w w' : World} (h : Kept b w w') (n : Nat) : Kept b w (w'.drewN n) := ⟨below_drewN h.below n, h.cells, h.marks, h.room, h.still⟩

/-- polField.String. -/
theorem string_c (k : Nat) (s : ByteArray) (w : World) (hk : k < 12) (h : w.cell? ⟨1, k * 2, none⟩ = some (.string s)) :
    Calls Tryf.prog 20 #[.int .u8 (k : Int)] w fun e w' => e = .returned (.string s) ∧ w = w' := by
  have i1 : (k : Int) < 12 := by omega
  go_enter Tryf.func20, Tryf.ntmps20
  go_wp2
  go_ret
  exact ⟨rfl, rfl⟩

theorem le4_lt (g : Nat → Int) (i : Nat) (hg : ∀ j, 0 ≤ g j ∧ g j < 256) : le4 g i < 4294967296 := by
  have := hg i; have := hg (i + 1); have := hg (i + 2); have := hg (i + 3)
  unfold le4
  omega

/-- The scan ends inside an instruction. -/
theorem left_short {b : Nat} {w wr w5 : World} {cn st lf : Nat} (S : SW b w wr cn st lf) (hK : Kept b wr w5) (fld : Nat) (h1 : 1 ≤ fld) (h2 : fld ≤ 11) (h12 : fld = 1 → ∃ nh : Nat, nh ≠ 0 ∧ w5.cell? ⟨b, 12, none⟩ = some (.int .i64 nh)) :
    Left b ⟨false, st, cn, false⟩ w (.returned .nilIface) (w5.setCell ⟨b, 3, none⟩ (.int .u8 fld)) := by
  obtain ⟨sz, hsz⟩ := S.c14
  obtain ⟨v3, hv3⟩ := S.c3
  have k3 : w5.cell? ⟨b, 3, none⟩ = some v3 := (hK.cells 3 (by omega)).trans hv3
  refine ⟨(S.below.trans hK.below).setCell (Nat.le_refl _) _, by have := Nat.lt_of_lt_of_le S.room hK.room; simpa using this, ?_, Or.inr ⟨rfl, rfl, Or.inr ⟨rfl, fld, lf, st, sz, h1, h2, ?_, ?_, World.cell?_setCell_same (h := k3) .., ?_, ?_⟩⟩⟩
  · rw [setOther (by omega), hK.cells 1 (by omega)]; exact S.c1
  · intro h
    obtain ⟨nh, e1, e2⟩ := h12 h
    exact ⟨nh, e1, by rw [setOther (by omega)]; exact e2⟩
  · rw [setOther (by omega), hK.cells 2 (by omega)]; exact S.c2
  · rw [setOther (by omega), hK.cells 14 (by omega)]; exact hsz
  · rw [setOther (by omega), hK.cells 15 (by omega)]; exact S.c15

theorem nilFunc_neq (w : World) : (binOp .neq 53 .nilFunc .nilFunc).run Tryf.prog w = .ok (.bool false) w := by kernel_rfl

/-- The scan meets a wrong mark. -/
theorem left_err {b : Nat} {w wr : World} {cn st lf : Nat} (S : SW b w wr cn st lf) (s : ByteArray) (q : Nat) :
    Left b ⟨true, st, cn, false⟩ w (.returned (.iface 48 (.pointer (some ⟨wr.heap.size, 0, none⟩)))) ((wr.alloc (.cells #[.int .i64 st, .string s] 51)).drewN q) := by
  have hb : Below wr.heap.size wr ((wr.alloc (.cells #[.int .i64 (st : Int), .string s] 51)).drewN q) := below_drewN ((Below.refl _ wr).alloc (Nat.le_refl _) _) q
  have S' := S.grow hb
  exact ⟨S'.below, S'.room, S'.c1, Or.inl ⟨rfl, wr.heap.size, rfl, cell_new wr _ _ 0⟩⟩

set_option maxHeartbeats 8000000 in
set_option maxRecDepth 100000 in
theorem scan_main (b bp n cp : Nat) (g : Nat → Int) (mx : Int) (nm : Nat → ByteArray) (w : World) (hn : n ≤ 1048576) (h8 : 8 ≤ n) (hcap : n ≤ cp) (hg : ∀ j, 0 ≤ g j ∧ g j < 256) (hl : Lies w bp n g) (hG : Glob w mx nm) (hF : Fresh b w) (hbp : bp < b) (h2b : 2 < b)
    (hs : ∀ j, j < 4 → g j = sigB j) (hv : g 4 = 1 ∧ g 5 = 0 ∧ g 6 = 0 ∧ g 7 = 0) (r : Res) (hr : Hid (M g n (16 * n + 16) 1 8 8 0 0 = r)) :
    Calls Tryf.prog 14 #[.pointer (some ⟨b, 0, none⟩), .slice (some ⟨bp, 0, none⟩) n cp, .nilFunc] w fun e w' => Left b r w e w' := by
  have S0 := hF.sw
  have S1 : SW b w (w.setCell ⟨b, 0, none⟩ (.int .i64 (n : Int))).drew 0 0 0 := (S0.put 0 _ (by omega)).draws 1
  obtain ⟨hroom, c0, c1, c2, c3, hheld, c12, c13, c14, c15, hends, hmarks⟩ := hF
  obtain ⟨W2, hcp, hK, h12, hcopied, hheld2⟩ := held_copy b bp n 0 8 g (w.setCell ⟨b, 0, none⟩ (.int .i64 (n : Int))).drew (by omega) (by omega)
    (fun j hj => by show (w.setCell ⟨b, 0, none⟩ _).cell? ⟨bp, j, none⟩ = _; rw [World.cell?_setCell_other (h := fun e => by have := congrArg Addr.block e; simp at this; omega)]; exact hl j hj)
    S1.held S1.marks
  have S2 : SW b w W2 0 0 0 := S1.kept hK (h12.trans S1.c12)
  have hcp' := hcp 8 8 n cp (by show min n 8 = 8; omega)
  have k12 := S2.c12
  have kf := S2.marks
  have hH : ∀ q, Calls Tryf.prog 16 #[.slice (some ⟨b, 4, none⟩) 8 8, .bool true] ((W2.setCell ⟨b, 12, none⟩ (.int .i64 8)).drewN q) fun e w' => e = .returned .nilIface ∧ Below (W2.setCell ⟨b, 12, none⟩ (.int .i64 8)).heap.size (W2.setCell ⟨b, 12, none⟩ (.int .i64 8)) w' := fun q =>
    (head_ok b g ((W2.setCell ⟨b, 12, none⟩ (.int .i64 8)).drewN q) hg (by have := S2.room; simpa using this) (fun j hj => by
      show (W2.setCell ⟨b, 12, none⟩ (.int .i64 8)).cell? ⟨b, 4 + j, none⟩ = _
      rw [setOther (by omega)]
      have := hcopied j hj
      rw [Nat.zero_add] at this
      exact this) hs hv).mono (fun e w' ⟨h1, h2⟩ => ⟨h1, (below_drewN (Below.refl _ _) q).trans h2⟩)
  have HH := Lib.hid hH
  have HG := Lib.hid hG
  have HL := Lib.hid hl
  clear hH hcp hcopied hheld2 hs hv hG hl hK h12 S0 S1 c1 c2 c13 c14 c15 hends hheld
  go_enter Tryf.func14, Tryf.ntmps14
  go_wp2
  go_region
  go_wp2
  go_region_with (go_at_call 16; refine (HH.out 1).mono ?_; rintro e w4 ⟨rfl, hb4⟩)
  have S4 := S2.via hb4
  have hrm : b < (W2.setCell ⟨b, 12, none⟩ (.int .i64 8)).heap.size := by have := S2.room; simpa using this
  have d12 : w4.cell? ⟨b, 12, none⟩ = some (.int .i64 8) := by
    rw [hb4.cell (p := ⟨b, 12, none⟩) hrm]
    exact World.cell?_setCell_same (h := k12) ..
  have df : ∀ o, w4.frozen? ⟨b, o, none⟩ = false := fun o => by
    rw [hb4.frozen (p := ⟨b, o, none⟩) hrm, World.frozen?_setCell]
    exact kf o
  obtain ⟨v3, d3⟩ : ∃ v, w4.cell? ⟨b, 3, none⟩ = some v := by
    obtain ⟨v, hv⟩ := S2.c3
    exact ⟨v, by rw [hb4.cell (p := ⟨b, 3, none⟩) hrm, setOther (by omega)]; exact hv⟩
  have d2 : w4.cell? ⟨b, 2, none⟩ = some (.int .i64 0) := by
    rw [hb4.cell (p := ⟨b, 2, none⟩) hrm, setOther (by omega)]
    exact S2.c2
  clear hrm k12 kf S2 HH hcp' c0 c3 c12 hmarks
  go_wp2
  have S5 : SW b w (((w4.setCell ⟨b, 12, none⟩ (.int .i64 0)).setCell ⟨b, 3, none⟩ (.int .u8 1)).setCell ⟨b, 2, none⟩ (.int .i64 8)) 0 8 0 := (S4.put 3 _ (by omega)).putSt 8
  clear S4 d12 df d3 d2 hb4
  go_loopw [8, 10] (fun vi vf wr => ∃ f fld i st cn lf : Nat, 1 ≤ fld ∧ fld ≤ 11 ∧ i ≤ n ∧ st ≤ n ∧ cn ≤ n ∧ cn ≤ i ∧ lf < 4294967296 ∧ vi = .int .i64 i ∧ vf = .int .u8 fld ∧ SW b w wr cn st lf ∧ Hid (M g n f fld i st cn lf = r ∧ 16 * (n - i) + 16 ≤ f + fld))
    (fun vi vf _ => 16 * (n - (intOf vi).toNat) + 16 - (intOf vf).toNat)
  case atStart => exact ⟨16 * n + 16, 1, 8, 8, 0, 0, by omega, by omega, by omega, by omega, by omega, by omega, by omega, rfl, rfl, S5, Lib.hid ⟨hr.out, by omega⟩⟩
  case round =>
    obtain ⟨f, fld, i, st, cn, lf, hf1, hf2, hi, hst, hcn, hcni, hlf, rfl, rfl, S, hM⟩ := hrel
    clear S5
    by_cases hlt : i < n
    · have hlr : Lies wr bp n g := fun j hj => (S.below.cell (p := ⟨bp, j, none⟩) hbp).trans (HL.out j hj)
      have hMx : wr.cell? ⟨2, 0, none⟩ = some (.int .i64 mx) := (S.below.cell (p := ⟨2, 0, none⟩) h2b).trans HG.out.mlen
      have ef := S.marks
      have e12 := S.c12
      rcases (show fld = 2 ∨ fld = 4 ∨ fld = 6 ∨ fld = 8 ∨ fld = 10 ∨ IsMark fld by unfold IsMark; omega) with rfl | rfl | rfl | rfl | rfl | hmark
      · have HN := Lib.hid (name_c b bp n cp i i g mx wr rfl hlt hn hcap hlr hg hMx hbp S.room h2b (Option.isSome_iff_exists.1 (S.held 4 (by omega) (by omega))) S.c12 S.marks)
        clear hlr
        obtain ⟨v3, e3⟩ := S.c3
        obtain ⟨ve, ee⟩ := S.ends 2 (by omega)
        go_wp2_with (go_at_call 17; refine (HN.out).mono ?_)
        rintro e w5 ⟨⟨rfl, h1⟩ | ⟨j, rfl, h1, h2, h3, h12⟩, hK⟩
        · have H1 := Lib.hid h1
          clear h1
          have k3 : w5.cell? ⟨b, 3, none⟩ = some v3 := (hK.cells 3 (by omega)).trans e3
          have kf : ∀ o, w5.frozen? ⟨b, o, none⟩ = false := fun o => (hK.marks o).trans (ef o)
          go_wp2
          go_ret
          have ⟨hM1, hM2⟩ := hM.out
          obtain ⟨f', rfl⟩ : ∃ f', f = f' + 1 := ⟨f - 1, by omega⟩
          rw [M_name_no (Or.inl rfl) H1.out] at hM1
          subst hM1
          exact left_short S hK 2 (by omega) (by omega) (by omega)
        · have H1 := Lib.hid h1
          clear h1
          have ke : w5.cell? ⟨b, 18, none⟩ = some ve := (hK.cells 18 (by omega)).trans ee
          have kf : ∀ o, w5.frozen? ⟨b, o, none⟩ = false := fun o => (hK.marks o).trans (ef o)
          go_wp2
          go_roundw
          case rel =>
            have ⟨hM1, hM2⟩ := hM.out
            obtain ⟨f', rfl⟩ : ∃ f', f = f' + 1 := ⟨f - 1, by omega⟩
            rw [M_name_yes (Or.inl rfl) H1.out] at hM1
            exact ⟨f', 3, j, st, cn, lf, by omega, by omega, by omega, by omega, by omega, by omega, hlf, rfl, rfl, (S.kept hK h12).put 18 _ (by omega), Lib.hid ⟨hM1, by omega⟩⟩
          case measure => simp [intOf]; omega
      · have HN := Lib.hid (name_c b bp n cp i i g mx wr rfl hlt hn hcap hlr hg hMx hbp S.room h2b (Option.isSome_iff_exists.1 (S.held 4 (by omega) (by omega))) S.c12 S.marks)
        clear hlr
        obtain ⟨v3, e3⟩ := S.c3
        obtain ⟨ve, ee⟩ := S.ends 4 (by omega)
        go_wp2_with (go_at_call 17; refine (HN.out).mono ?_)
        rintro e w5 ⟨⟨rfl, h1⟩ | ⟨j, rfl, h1, h2, h3, h12⟩, hK⟩
        · have H1 := Lib.hid h1
          clear h1
          have k3 : w5.cell? ⟨b, 3, none⟩ = some v3 := (hK.cells 3 (by omega)).trans e3
          have kf : ∀ o, w5.frozen? ⟨b, o, none⟩ = false := fun o => (hK.marks o).trans (ef o)
          go_wp2
          go_ret
          have ⟨hM1, hM2⟩ := hM.out
          obtain ⟨f', rfl⟩ : ∃ f', f = f' + 1 := ⟨f - 1, by omega⟩
          rw [M_name_no (Or.inr rfl) H1.out] at hM1
          subst hM1
          exact left_short S hK 4 (by omega) (by omega) (by omega)
        · have H1 := Lib.hid h1
          clear h1
          have ke : w5.cell? ⟨b, 20, none⟩ = some ve := (hK.cells 20 (by omega)).trans ee
          have kf : ∀ o, w5.frozen? ⟨b, o, none⟩ = false := fun o => (hK.marks o).trans (ef o)
          go_wp2
          go_roundw
          case rel =>
            have ⟨hM1, hM2⟩ := hM.out
            obtain ⟨f', rfl⟩ : ∃ f', f = f' + 1 := ⟨f - 1, by omega⟩
            rw [M_name_yes (Or.inr rfl) H1.out] at hM1
            exact ⟨f', 5, j, st, cn, lf, by omega, by omega, by omega, by omega, by omega, by omega, hlf, rfl, rfl, (S.kept hK h12).put 20 _ (by omega), Lib.hid ⟨hM1, by omega⟩⟩
          case measure => simp [intOf]; omega
      · by_cases h4 : i + 4 ≤ n
        · have HN := Lib.hid (fixed_yes b bp n cp i 4 i 4 wr rfl rfl h4 hn hcap (by omega) (by omega) S.c12)
          have HL32 := Lib.hid (le32_g bp i 4 (cp - i) g wr (by omega) hg (fun j hj => hlr (i + j) (by omega)))
          clear hlr
          obtain ⟨ve, ee⟩ := S.ends 6 (by omega)
          go_wp2_with (first | (go_at_call 18; refine (HN.out).mono ?_; rintro e w5 ⟨rfl, rfl⟩) | (go_at_call 19; fail))
          refine (HL32.out).mono ?_
          rintro e w6 ⟨rfl, hb6⟩
          obtain ⟨v13, e13⟩ := S.c13
          have k13 : w6.cell? ⟨b, 13, none⟩ = some v13 := (hb6.cell (p := ⟨b, 13, none⟩) S.room).trans e13
          have ke : w6.cell? ⟨b, 22, none⟩ = some ve := (hb6.cell (p := ⟨b, 22, none⟩) S.room).trans ee
          have kf : ∀ o, w6.frozen? ⟨b, o, none⟩ = false := fun o => (hb6.frozen (p := ⟨b, o, none⟩) S.room).trans (ef o)
          go_wp2
          go_roundw
          case rel =>
            have ⟨hM1, hM2⟩ := hM.out
            obtain ⟨f', rfl⟩ : ∃ f', f = f' + 1 := ⟨f - 1, by omega⟩
            rw [M_type_yes h4] at hM1
            exact ⟨f', 7, i + 4, st, cn, lf, by omega, by omega, by omega, by omega, by omega, by omega, hlf, by go_num, rfl, ((S.grow hb6).put 13 _ (by omega)).put 22 _ (by omega), Lib.hid ⟨hM1, by omega⟩⟩
          case measure => simp [intOf]; omega
        · have HN := Lib.hid (fixed_no b bp n cp i 4 i 4 g wr rfl rfl hlt (by omega) hn hcap (by omega) hlr S.room S.c12 S.held S.marks)
          clear hlr
          obtain ⟨v3, e3⟩ := S.c3
          go_wp2_with (go_at_call 18; refine (HN.out).mono ?_)
          rintro e w5 ⟨rfl, hK, h12⟩
          have k3 : w5.cell? ⟨b, 3, none⟩ = some v3 := (hK.cells 3 (by omega)).trans e3
          have kf : ∀ o, w5.frozen? ⟨b, o, none⟩ = false := fun o => (hK.marks o).trans (ef o)
          go_wp2
          go_ret
          have ⟨hM1, hM2⟩ := hM.out
          obtain ⟨f', rfl⟩ : ∃ f', f = f' + 1 := ⟨f - 1, by omega⟩
          rw [M_type_no (by omega)] at hM1
          subst hM1
          exact left_short S hK 6 (by omega) (by omega) (by omega)
      · by_cases h4 : i + 4 ≤ n
        · have HN := Lib.hid (fixed_yes b bp n cp i 4 i 4 wr rfl rfl h4 hn hcap (by omega) (by omega) S.c12)
          have HL32 := Lib.hid (le32_g bp i 4 (cp - i) g wr (by omega) hg (fun j hj => hlr (i + j) (by omega)))
          clear hlr
          obtain ⟨ve, ee⟩ := S.ends 8 (by omega)
          go_wp2_with (first | (go_at_call 18; refine (HN.out).mono ?_; rintro e w5 ⟨rfl, rfl⟩) | (go_at_call 19; fail))
          refine (HL32.out).mono ?_
          rintro e w6 ⟨rfl, hb6⟩
          obtain ⟨v14, e14⟩ := S.c14
          have k14 : w6.cell? ⟨b, 14, none⟩ = some (.int .u32 v14) := (hb6.cell (p := ⟨b, 14, none⟩) S.room).trans e14
          have k15 : w6.cell? ⟨b, 15, none⟩ = some (.int .u32 lf) := (hb6.cell (p := ⟨b, 15, none⟩) S.room).trans S.c15
          have ke : w6.cell? ⟨b, 24, none⟩ = some ve := (hb6.cell (p := ⟨b, 24, none⟩) S.room).trans ee
          have kf : ∀ o, w6.frozen? ⟨b, o, none⟩ = false := fun o => (hb6.frozen (p := ⟨b, o, none⟩) S.room).trans (ef o)
          go_wp2
          go_roundw
          case rel =>
            have ⟨hM1, hM2⟩ := hM.out
            obtain ⟨f', rfl⟩ : ∃ f', f = f' + 1 := ⟨f - 1, by omega⟩
            rw [M_size_yes h4] at hM1
            exact ⟨f', 9, i + 4, st, cn, le4 g i, by omega, by omega, by omega, by omega, by omega, by omega, le4_lt g i hg, by go_num, rfl, (((S.grow hb6).putSize _).putLeft (le4 g i)).put 24 _ (by omega), Lib.hid ⟨hM1, by omega⟩⟩
          case measure => simp [intOf]; omega
        · have HN := Lib.hid (fixed_no b bp n cp i 4 i 4 g wr rfl rfl hlt (by omega) hn hcap (by omega) hlr S.room S.c12 S.held S.marks)
          clear hlr
          obtain ⟨v3, e3⟩ := S.c3
          go_wp2_with (go_at_call 18; refine (HN.out).mono ?_)
          rintro e w5 ⟨rfl, hK, h12⟩
          have k3 : w5.cell? ⟨b, 3, none⟩ = some v3 := (hK.cells 3 (by omega)).trans e3
          have kf : ∀ o, w5.frozen? ⟨b, o, none⟩ = false := fun o => (hK.marks o).trans (ef o)
          go_wp2
          go_ret
          have ⟨hM1, hM2⟩ := hM.out
          obtain ⟨f', rfl⟩ : ∃ f', f = f' + 1 := ⟨f - 1, by omega⟩
          rw [M_size_no (by omega)] at hM1
          subst hM1
          exact left_short S hK 8 (by omega) (by omega) (by omega)
      · have e15 := S.c15
        obtain ⟨v3, e3⟩ := S.c3
        obtain ⟨ve, ee⟩ := S.ends 10 (by omega)
        clear hlr
        by_cases hd : i + lf ≤ n
        · have hmin : min (lf : Int) ((n : Int) - (i : Int)) = (lf : Int) := by omega
          go_wp2
          go_roundw
          case rel =>
            have ⟨hM1, hM2⟩ := hM.out
            obtain ⟨f', rfl⟩ : ∃ f', f = f' + 1 := ⟨f - 1, by omega⟩
            rw [M_data_yes hd (by omega)] at hM1
            exact ⟨f', 11, i + lf, st, cn, 0, by omega, by omega, by omega, by omega, by omega, by omega, by omega, by go_num, rfl, (S.putLeft' 0 0 rfl).put 26 _ (by omega), Lib.hid ⟨hM1, by omega⟩⟩
          case measure => simp [intOf]; omega
        · have hmin : min (lf : Int) ((n : Int) - (i : Int)) = (n : Int) - (i : Int) := by omega
          have t0 : (((lf : Int) - ((n : Int) - (i : Int))) == 0) = false := by rw [beq_eq_false_iff_ne]; omega
          go_wp2
          go_ret
          have ⟨hM1, hM2⟩ := hM.out
          obtain ⟨f', rfl⟩ : ∃ f', f = f' + 1 := ⟨f - 1, by omega⟩
          rw [M_data_no (by omega)] at hM1
          subst hM1
          exact left_short (S.putLeft' _ (lf - (n - i)) (by omega)) (Kept.refl _ _) 10 (by omega) (by omega) (by omega)
      · have b2 : ((fld : Int) == 2) = false := by rw [beq_eq_false_iff_ne]; unfold IsMark at hmark; omega
        have b4 : ((fld : Int) == 4) = false := by rw [beq_eq_false_iff_ne]; unfold IsMark at hmark; omega
        have b6 : ((fld : Int) == 6) = false := by rw [beq_eq_false_iff_ne]; unfold IsMark at hmark; omega
        have b8 : ((fld : Int) == 8) = false := by rw [beq_eq_false_iff_ne]; unfold IsMark at hmark; omega
        have b10 : ((fld : Int) == 10) = false := by rw [beq_eq_false_iff_ne]; unfold IsMark at hmark; omega
        have i12 : (fld : Int) < 12 := by omega
        by_cases h2 : i + 2 ≤ n
        · by_cases hbad : g i ≠ markOf fld ∨ g (i + 1) ≠ 0
          · have hmk : wr.cell? ⟨1, fld * 2 + 1, none⟩ = some (.int .u8 (markOf fld)) := (S.below.cell (p := ⟨1, fld * 2 + 1, none⟩) (show 1 < b by omega)).trans (HG.out.mark fld hmark)
            have hnm : wr.cell? ⟨1, fld * 2, none⟩ = some (.string (nm fld)) := (S.below.cell (p := ⟨1, fld * 2, none⟩) (show 1 < b by omega)).trans (HG.out.name fld (by omega))
            have hns := HG.out.short fld
            have HN := Lib.hid (fixed_yes b bp n cp i 2 i 2 wr rfl rfl h2 hn hcap (by omega) (by omega) S.c12)
            have hq0 := hlr i (by omega)
            have hq1 := hlr (i + 1) (by omega)
            clear hlr
            have e2 := S.c2
            by_cases hq : g i = markOf fld
            · have t0 : (g i != markOf fld) = false := by simp [hq]
              have t1 : (g (i + 1) != 0) = true := by simp; rcases hbad with h | h; exact absurd hq h; exact h
              have HB := Lib.hid hbad
              clear hbad hq
              go_wp2_with (go_at_call 18; refine (HN.out).mono ?_; rintro e w5 ⟨rfl, rfl⟩)
              go_quiet (fail)
              go_wp2
              go_region_with (go_at_call 20; refine (string_c fld (nm fld) _ (by omega) (by exact hnm)).mono ?_; rintro e w7 ⟨rfl, rfl⟩)
              all_goals (
                go_wp2
                go_ret
                have ⟨hM1, hM2⟩ := hM.out
                obtain ⟨f', rfl⟩ : ∃ f', f = f' + 1 := ⟨f - 1, by omega⟩
                rw [M_mark_bad hmark h2 HB.out] at hM1
                subst hM1
                exact left_err S _ _)
            · have t0 : (g i != markOf fld) = true := by simp [hq]
              have HB := Lib.hid hbad
              clear hbad hq
              go_wp2_with (go_at_call 18; refine (HN.out).mono ?_; rintro e w5 ⟨rfl, rfl⟩)
              go_quiet (fail)
              go_wp2
              go_region_with (go_at_call 20; refine (string_c fld (nm fld) _ (by omega) (by exact hnm)).mono ?_; rintro e w7 ⟨rfl, rfl⟩)
              all_goals (
                go_wp2
                go_ret
                have ⟨hM1, hM2⟩ := hM.out
                obtain ⟨f', rfl⟩ : ∃ f', f = f' + 1 := ⟨f - 1, by omega⟩
                rw [M_mark_bad hmark h2 HB.out] at hM1
                subst hM1
                exact left_err S _ _)
          · have hmk : wr.cell? ⟨1, fld * 2 + 1, none⟩ = some (.int .u8 (markOf fld)) := (S.below.cell (p := ⟨1, fld * 2 + 1, none⟩) (show 1 < b by omega)).trans (HG.out.mark fld hmark)
            have hnm : wr.cell? ⟨1, fld * 2, none⟩ = some (.string (nm fld)) := (S.below.cell (p := ⟨1, fld * 2, none⟩) (show 1 < b by omega)).trans (HG.out.name fld (by omega))
            have hns := HG.out.short fld
            have HN := Lib.hid (fixed_yes b bp n cp i 2 i 2 wr rfl rfl h2 hn hcap (by omega) (by omega) S.c12)
            have hq0 := hlr i (by omega)
            have hq1 := hlr (i + 1) (by omega)
            clear hlr
            obtain ⟨ve, ee⟩ := S.ends fld (by omega)
            have t0 : (g i != markOf fld) = false := by simp; exact Decidable.byContradiction fun h => hbad (Or.inl h)
            have t1 : (g (i + 1) != 0) = false := by simp; exact Decidable.byContradiction fun h => hbad (Or.inr h)
            have HB := Lib.hid hbad
            clear hbad
            by_cases h11 : fld = 11
            · subst h11
              have e1 := S.c1
              have e2 := S.c2
              have hnf := nilFunc_neq
              go_wp2_with (go_at_call 18; refine (HN.out).mono ?_; rintro e w5 ⟨rfl, rfl⟩)
              go_quiet (fail)
              go_wp2
              go_roundw
              case rel =>
                have hbad := HB.out
                have ⟨hM1, hM2⟩ := hM.out
                obtain ⟨f', rfl⟩ : ∃ f', f = f' + 1 := ⟨f - 1, by omega⟩
                rw [M_mark_close h2 hbad] at hM1
                exact ⟨f', 1, i + 2, i + 2, cn + 1, lf, by omega, by omega, by omega, by omega, by omega, by omega, hlf, by go_num, rfl, (((S.draws _).put 27 _ (by omega)).putCnt' _ (cn + 1) (by omega)).putSt' _ (i + 2) (by omega), Lib.hid ⟨hM1, by omega⟩⟩
              case measure => simp [intOf]; omega
            · have i11 : (fld : Int) < 11 := by omega
              go_wp2_with (go_at_call 18; refine (HN.out).mono ?_; rintro e w5 ⟨rfl, rfl⟩)
              go_quiet (fail)
              go_wp2
              go_roundw
              case rel =>
                have hbad := HB.out
                have ⟨hM1, hM2⟩ := hM.out
                obtain ⟨f', rfl⟩ : ∃ f', f = f' + 1 := ⟨f - 1, by omega⟩
                rw [M_mark_on hmark h2 hbad h11] at hM1
                exact ⟨f', fld + 1, i + 2, st, cn, lf, by omega, by omega, by omega, by omega, by omega, by omega, hlf, by go_num, by go_num, (S.draws _).put (16 + fld) _ (by omega), Lib.hid ⟨hM1, by omega⟩⟩
              case measure => simp [intOf]; omega
        · have HN := Lib.hid (fixed_no b bp n cp i 2 i 2 g wr rfl rfl hlt (by omega) hn hcap (by omega) hlr S.room S.c12 S.held S.marks)
          clear hlr
          obtain ⟨v3, e3⟩ := S.c3
          go_wp2_with (go_at_call 18; refine (HN.out).mono ?_)
          rintro e w5 ⟨rfl, hK, h12⟩
          have k3 : w5.cell? ⟨b, 3, none⟩ = some v3 := (hK.cells 3 (by omega)).trans e3
          have kf : ∀ o, w5.frozen? ⟨b, o, none⟩ = false := fun o => (hK.marks o).trans (ef o)
          go_wp2
          go_quiet (fail)
          go_wp2
          go_ret
          have ⟨hM1, hM2⟩ := hM.out
          obtain ⟨f', rfl⟩ : ∃ f', f = f' + 1 := ⟨f - 1, by omega⟩
          rw [M_mark_short hmark (by omega) (Or.inl hlt)] at hM1
          subst hM1
          exact left_short S (hK.draws _) fld (by omega) (by omega) (fun _ => ⟨n - i, by omega, h12⟩)
    · obtain rfl : i = n := by omega
      have ef := S.marks
      obtain ⟨v3, e3⟩ := S.c3
      go_wp2
      go_ret
      have S' := S.put 3 (.int .u8 fld) (by omega)
      obtain ⟨sz, hsz⟩ := S'.c14
      have ⟨hM1, hM2⟩ := hM.out
      obtain ⟨f', rfl⟩ : ∃ f', f = f' + 1 := ⟨f - 1, by omega⟩
      rw [M_end (Nat.le_refl _)] at hM1
      subst hM1
      refine ⟨S'.below, S'.room, S'.c1, Or.inr ⟨rfl, rfl, ?_⟩⟩
      by_cases h1 : fld = 1
      · subst h1
        exact Or.inl ⟨rfl, World.cell?_setCell_same (h := e3) .., S'.c12⟩
      · exact Or.inr ⟨by simp [h1], fld, lf, st, sz, hf1, hf2, fun h => absurd h h1, S'.c2, World.cell?_setCell_same (h := e3) .., hsz, S'.c15⟩
end Go.Proofs.Qxb6612846aFmt
