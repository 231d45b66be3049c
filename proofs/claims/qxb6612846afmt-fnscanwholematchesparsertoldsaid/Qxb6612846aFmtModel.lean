/- Seat b6612846aF: the law's own parser, zzb1PolModel. -/
import Derived.Test.Qxb6612846aFmtHead
import Derived.Lib.EndianBits
namespace Go.Proofs.Qxb6612846aFmt
open Go.RowKit
set_option linter.unusedVariables false

theorem polNul_no (b n cp k : Nat) (z : Int) (g : Nat → Int) (w : World) (hz : z = k) (hk : k ≤ n) (hn : n ≤ 1048576) (hl : Lies w b n g) (h : nul g n k = -1) :
    Calls Tryf.prog 13 #[.slice (some ⟨b, 0, none⟩) n cp, .int .i64 z] w fun e w' => e = .returned (.int .i64 (-1)) ∧ w = w' := by
  have := polNul_c b n cp k z g w hz hk hn hl
  rw [h] at this
  exact this
theorem polNul_yes (b n cp k j : Nat) (z : Int) (g : Nat → Int) (w : World) (hz : z = k) (hk : k ≤ n) (hn : n ≤ 1048576) (hl : Lies w b n g) (h : nul g n k = (j : Int)) :
    Calls Tryf.prog 13 #[.slice (some ⟨b, 0, none⟩) n cp, .int .i64 z] w fun e w' => e = .returned (.int .i64 (j : Int)) ∧ w = w' := by
  have := polNul_c b n cp k z g w hz hk hn hl
  rw [h] at this
  exact this

theorem P_bad {g : Nat → Int} {n j : Nat} (h : j < n) (h4 : j < 4) (hb : g j ≠ sigB j) : P g n = ⟨true, 0, 0, false⟩ := by
  unfold P
  rw [if_pos]
  rcases (show j = 0 ∨ j = 1 ∨ j = 2 ∨ j = 3 by omega) with rfl | rfl | rfl | rfl
  · exact Or.inl ⟨h, hb⟩
  · exact Or.inr (Or.inl ⟨h, hb⟩)
  · exact Or.inr (Or.inr (Or.inl ⟨h, hb⟩))
  · exact Or.inr (Or.inr (Or.inr ⟨h, hb⟩))

theorem P_not {g : Nat → Int} {n : Nat} (hs : ∀ j, j < n → j < 4 → g j = sigB j) : ¬ ((0 < n ∧ g 0 ≠ 80) ∨ (1 < n ∧ g 1 ≠ 82) ∨ (2 < n ∧ g 2 ≠ 101) ∨ (3 < n ∧ g 3 ≠ 103)) := by
  rintro (⟨h, hb⟩ | ⟨h, hb⟩ | ⟨h, hb⟩ | ⟨h, hb⟩)
  · exact hb (hs 0 h (by omega))
  · exact hb (hs 1 h (by omega))
  · exact hb (hs 2 h (by omega))
  · exact hb (hs 3 h (by omega))

theorem P_short {g : Nat → Int} {n : Nat} (h : n < 8) (hs : ∀ j, j < n → j < 4 → g j = sigB j) : P g n = ⟨false, 0, 0, false⟩ := by
  unfold P
  rw [if_neg (P_not hs), if_pos h]

theorem P_ver {g : Nat → Int} {n : Nat} (h : 8 ≤ n) (hs : ∀ j, j < n → j < 4 → g j = sigB j) (hv : g 4 ≠ 1 ∨ g 5 ≠ 0 ∨ g 6 ≠ 0 ∨ g 7 ≠ 0) : P g n = ⟨true, 4, 0, false⟩ := by
  unfold P
  rw [if_neg (P_not hs), if_neg (by omega), if_pos hv]

theorem P_go {g : Nat → Int} {n : Nat} (h : 8 ≤ n) (hs : ∀ j, j < n → j < 4 → g j = sigB j) (hv : ¬ (g 4 ≠ 1 ∨ g 5 ≠ 0 ∨ g 6 ≠ 0 ∨ g 7 ≠ 0)) : P g n = M g n (16 * n + 16) 1 8 8 0 0 := by
  unfold P
  rw [if_neg (P_not hs), if_neg (by omega), if_neg hv]

set_option maxHeartbeats 2000000 in
set_option maxRecDepth 100000 in
theorem model_c (bp n cp : Nat) (g : Nat → Int) (w : World) (hn : n ≤ 1048576) (hbp : bp < w.heap.size) (hg : ∀ j, 0 ≤ g j ∧ g j < 256) (hl : Lies w bp n g) (r : Res) (hr : Hid (P g n = r)) :
    Calls Tryf.prog 6 #[.slice (some ⟨bp, 0, none⟩) n cp] w fun e w' => ∃ off : Int, e = .returned (.tuple #[.bool r.bad, .int .i64 off, .int .i64 (r.cnt : Int), .bool r.whole]) ∧ (r.bad = true → off = r.off) ∧ Below w.heap.size w w' := by
  by_cases h4 : 4 < n
  case neg =>
    have i0 : ¬ (4 : Int) < (n : Int) := by omega
    go_enter Tryf.func6, Tryf.ntmps6
    go_wp2
    obtain ⟨W1, hW1⟩ : ∃ W1, W1 = w.alloc (.cells #[.int .u8 80, .int .u8 82, .int .u8 101, .int .u8 103] 33) := ⟨_, rfl⟩
    have hB : Below w.heap.size w W1 := by rw [hW1]; exact (Below.refl _ w).alloc (Nat.le_refl _) _
    have HB : Hid (∀ q, Below w.heap.size w (W1.drewN q)) := Lib.hid (fun q => below_drewN hB q)
    have HU : Hid (∀ j, j < 4 → W1.cell? ⟨w.heap.size, j, none⟩ = some (.int .u8 (sigB j))) := Lib.hid (fun j hj => by
      rw [hW1, cell_new]
      rcases (show j = 0 ∨ j = 1 ∨ j = 2 ∨ j = 3 by omega) with rfl | rfl | rfl | rfl <;> rfl)
    have HL : Hid (Lies W1 bp n g) := Lib.hid (fun j hj => (hB.cell (p := ⟨bp, j, none⟩) hbp).trans (hl j hj))
    first | rw [← hW1] | skip
    clear hW1 hl hB
    go_loopw [8] (fun vj wr => ∃ j q : Nat, j ≤ n ∧ vj = .int .i64 j ∧ wr = W1.drewN q ∧ Hid (∀ i, i < j → g i = sigB i)) (fun vj _ => n - (intOf vj).toNat)
    case atStart => exact ⟨0, 0, by omega, rfl, rfl, Lib.hid (fun i hi => by omega)⟩
    case round =>
      obtain ⟨j, q, hj, rfl, rfl, hp⟩ := hrel
      by_cases hlt : j < n
      · have i1 : (j : Int) < (n : Int) := by omega
        have c1 : W1.cell? ⟨bp, j, none⟩ = some (.int .u8 (g j)) := HL.out j (by omega)
        have c2 : W1.cell? ⟨w.heap.size, j, none⟩ = some (.int .u8 (sigB j)) := HU.out j (by omega)
        by_cases e0 : g j = sigB j
        · have t0 : (g j != sigB j) = false := by simp [e0]
          have hp' : Hid (∀ i, i < j + 1 → g i = sigB i) := Lib.hid (fun i hi => by
            by_cases h : i < j
            · exact hp.out i h
            · have : i = j := by omega
              subst this; exact e0)
          clear e0
          go_wp2
          go_quiet (fail)
          go_wp2
          go_roundw
          case rel => exact ⟨j + 1, _, by omega, by go_num, rfl, hp'⟩
          case measure => simp [intOf]; omega
        · have t0 : (g j != sigB j) = true := by simp [e0]
          have er := Lib.hid ((P_bad (n := n) (by omega) (by omega) e0).symm.trans hr.out)
          clear e0
          go_wp2
          go_quiet (fail)
          go_wp2
          have er := er.out
          subst er
          exact bodyPost_ret (v := .tuple #[.bool true, .int .i64 0, .int .i64 0, .bool false]) (by simp [results, Tryf.results6, go_sem]) rfl ⟨0, rfl, fun _ => rfl, below_drewN (HB.out q) _⟩
      · obtain rfl : n = j := by omega
        have er := Lib.hid ((P_short (n := n) (by omega) (fun j h _ => hp.out j h)).symm.trans hr.out)
        have i9 : (n : Int) < 8 := by omega
        go_wp2
        have er := er.out
        subst er
        exact bodyPost_ret (v := .tuple #[.bool false, .int .i64 0, .int .i64 0, .bool false]) (by simp [results, Tryf.results6, go_sem]) rfl ⟨0, rfl, fun _ => rfl, HB.out _⟩
  case pos =>
    have i0 : (4 : Int) < (n : Int) := by omega
    go_enter Tryf.func6, Tryf.ntmps6
    go_wp2
    obtain ⟨W1, hW1⟩ : ∃ W1, W1 = w.alloc (.cells #[.int .u8 80, .int .u8 82, .int .u8 101, .int .u8 103] 33) := ⟨_, rfl⟩
    have hB : Below w.heap.size w W1 := by rw [hW1]; exact (Below.refl _ w).alloc (Nat.le_refl _) _
    have HB : Hid (∀ q, Below w.heap.size w (W1.drewN q)) := Lib.hid (fun q => below_drewN hB q)
    have HU : Hid (∀ j, j < 4 → W1.cell? ⟨w.heap.size, j, none⟩ = some (.int .u8 (sigB j))) := Lib.hid (fun j hj => by
      rw [hW1, cell_new]
      rcases (show j = 0 ∨ j = 1 ∨ j = 2 ∨ j = 3 by omega) with rfl | rfl | rfl | rfl <;> rfl)
    have HL : Hid (Lies W1 bp n g) := Lib.hid (fun j hj => (hB.cell (p := ⟨bp, j, none⟩) hbp).trans (hl j hj))
    first | rw [← hW1] | skip
    clear hW1 hl hB
    go_loopw [8] (fun vj wr => ∃ j q : Nat, j ≤ 4 ∧ vj = .int .i64 j ∧ wr = W1.drewN q ∧ Hid (∀ i, i < j → g i = sigB i)) (fun vj _ => 4 - (intOf vj).toNat)
    case atStart => exact ⟨0, 0, by omega, rfl, rfl, Lib.hid (fun i hi => by omega)⟩
    case round =>
      obtain ⟨j, q, hj, rfl, rfl, hp⟩ := hrel
      by_cases hlt : j < 4
      · have i1 : (j : Int) < 4 := by omega
        have c1 : W1.cell? ⟨bp, j, none⟩ = some (.int .u8 (g j)) := HL.out j (by omega)
        have c2 : W1.cell? ⟨w.heap.size, j, none⟩ = some (.int .u8 (sigB j)) := HU.out j (by omega)
        by_cases e0 : g j = sigB j
        · have t0 : (g j != sigB j) = false := by simp [e0]
          have hp' : Hid (∀ i, i < j + 1 → g i = sigB i) := Lib.hid (fun i hi => by
            by_cases h : i < j
            · exact hp.out i h
            · have : i = j := by omega
              subst this; exact e0)
          clear e0
          go_wp2
          go_quiet (fail)
          go_wp2
          go_roundw
          case rel => exact ⟨j + 1, _, by omega, by go_num, rfl, hp'⟩
          case measure => simp [intOf]; omega
        · have t0 : (g j != sigB j) = true := by simp [e0]
          have er := Lib.hid ((P_bad (n := n) (by omega) (by omega) e0).symm.trans hr.out)
          clear e0
          go_wp2
          go_quiet (fail)
          go_wp2
          have er := er.out
          subst er
          exact bodyPost_ret (v := .tuple #[.bool true, .int .i64 0, .int .i64 0, .bool false]) (by simp [results, Tryf.results6, go_sem]) rfl ⟨0, rfl, fun _ => rfl, below_drewN (HB.out q) _⟩
      · obtain rfl : j = 4 := by omega
        clear HU
        have hs : Hid (∀ j, j < n → j < 4 → g j = sigB j) := Lib.hid (fun j _ h => hp.out j h)
        clear hp
        by_cases h8 : n < 8
        · have er := Lib.hid ((P_short (n := n) h8 hs.out).symm.trans hr.out)
          have i9 : (n : Int) < 8 := by omega
          go_wp2
          have er := er.out
          subst er
          exact bodyPost_ret (v := .tuple #[.bool false, .int .i64 0, .int .i64 0, .bool false]) (by simp [results, Tryf.results6, go_sem]) rfl ⟨0, rfl, fun _ => rfl, HB.out _⟩
        have i9 : ¬ (n : Int) < 8 := by omega
        have c4 : W1.cell? ⟨bp, 4, none⟩ = some (.int .u8 (g 4)) := HL.out 4 (by omega)
        have c5 : W1.cell? ⟨bp, 5, none⟩ = some (.int .u8 (g 5)) := HL.out 5 (by omega)
        have c6 : W1.cell? ⟨bp, 6, none⟩ = some (.int .u8 (g 6)) := HL.out 6 (by omega)
        have c7 : W1.cell? ⟨bp, 7, none⟩ = some (.int .u8 (g 7)) := HL.out 7 (by omega)
        by_cases hv : g 4 ≠ 1 ∨ g 5 ≠ 0 ∨ g 6 ≠ 0 ∨ g 7 ≠ 0
        · have er := Lib.hid ((P_ver (n := n) (by omega) hs.out hv).symm.trans hr.out)
          by_cases e4 : g 4 = 1
          · have t4 : (g 4 != 1) = false := by simp [e4]
            by_cases e5 : g 5 = 0
            · have t5 : (g 5 != 0) = false := by simp [e5]
              by_cases e6 : g 6 = 0
              · have t6 : (g 6 != 0) = false := by simp [e6]
                have t7 : (g 7 != 0) = true := by simp; omega
                clear e4 e5 e6 hv
                go_wp2
                have er := er.out; subst er; exact bodyPost_ret (v := .tuple #[.bool true, .int .i64 4, .int .i64 0, .bool false]) (by simp [results, Tryf.results6, go_sem]) rfl ⟨4, rfl, fun _ => rfl, HB.out _⟩
              · have t6 : (g 6 != 0) = true := by simp [e6]
                clear e4 e5 e6 hv
                go_wp2
                have er := er.out; subst er; exact bodyPost_ret (v := .tuple #[.bool true, .int .i64 4, .int .i64 0, .bool false]) (by simp [results, Tryf.results6, go_sem]) rfl ⟨4, rfl, fun _ => rfl, HB.out _⟩
            · have t5 : (g 5 != 0) = true := by simp [e5]
              clear e4 e5 hv
              go_wp2
              have er := er.out; subst er; exact bodyPost_ret (v := .tuple #[.bool true, .int .i64 4, .int .i64 0, .bool false]) (by simp [results, Tryf.results6, go_sem]) rfl ⟨4, rfl, fun _ => rfl, HB.out _⟩
          · have t4 : (g 4 != 1) = true := by simp [e4]
            clear e4 hv
            go_wp2
            have er := er.out; subst er; exact bodyPost_ret (v := .tuple #[.bool true, .int .i64 4, .int .i64 0, .bool false]) (by simp [results, Tryf.results6, go_sem]) rfl ⟨4, rfl, fun _ => rfl, HB.out _⟩
        have hr' : Hid (M g n (16 * n + 16) 1 8 8 0 0 = r) := Lib.hid ((P_go (n := n) (by omega) hs.out hv).symm.trans hr.out)
        have t4 : (g 4 != 1) = false := by simp; omega
        have t5 : (g 5 != 0) = false := by simp; omega
        have t6 : (g 6 != 0) = false := by simp; omega
        have t7 : (g 7 != 0) = false := by simp; omega
        clear hs hv hr
        go_wp2
        clear c4 c5 c6 c7 t4 t5 t6 t7
        go_loopw [9, 10] (fun vc vi wr => ∃ f i cn q : Nat, i ≤ n ∧ cn ≤ i ∧ vc = .int .i64 cn ∧ vi = .int .i64 i ∧ wr = W1.drewN q ∧ Hid (M g n f 1 i i cn 0 = r ∧ 16 * (n - i) + 12 ≤ f)) (fun _ vi _ => n - (intOf vi).toNat)
        case atStart => exact ⟨16 * n + 16, 8, 0, _, by omega, by omega, rfl, rfl, rfl, Lib.hid ⟨hr'.out, by omega⟩⟩
        case round =>
          obtain ⟨f, i, cn, q, hi, hcn, rfl, rfl, rfl, hM⟩ := hrel
          obtain ⟨hM1, hM2⟩ := hM.out
          clear hM hr'
          by_cases hlt : i < n
          · have i1 : (i : Int) < (n : Int) := by omega
            have hlr : Lies (W1.drewN q) bp n g := HL.out
            obtain ⟨F, rfl⟩ : ∃ F, f = F + 11 := ⟨f - 11, by omega⟩
            have H := Lib.hid hM1
            clear hM1
            go_wp2_with (first | (go_at_call 12; fail) | (go_at_call 13; fail))
            by_cases h1s : n < i + 2
            · refine (mark_short bp n cp (i) _ 91 _ (by omega) h1s (by omega) hn).mono ?_
              rintro e w1 ⟨rfl, rfl⟩
              go_wp2
              have er := (M_mark_short (g := g) (n := n) (f := F + 10) (i := i) (st := i) (cn := cn) (lf := 0) (show IsMark 1 by unfold IsMark; omega) h1s (Or.inl hlt)).symm.trans H.out
              subst er
              exact bodyPost_ret (v := .tuple #[.bool false, .int .i64 (i : Int), .int .i64 (cn : Int), .bool false]) (by simp [results, Tryf.results6, go_sem]) rfl ⟨(i : Int), rfl, fun _ => rfl, HB.out q⟩
            by_cases h1b : g (i) ≠ 91 ∨ g (i + 1) ≠ 0
            · refine (mark_bad bp n cp (i) _ 91 g _ (by omega) (by omega) hn hlr h1b).mono ?_
              rintro e w1 ⟨rfl, rfl⟩
              go_wp2
              have er := (M_mark_bad (g := g) (n := n) (f := F + 10) (i := i) (st := i) (cn := cn) (lf := 0) (show IsMark 1 by unfold IsMark; omega) (by omega) h1b).symm.trans H.out
              subst er
              exact bodyPost_ret (v := .tuple #[.bool true, .int .i64 (i : Int), .int .i64 (cn : Int), .bool false]) (by simp [results, Tryf.results6, go_sem]) rfl ⟨(i : Int), rfl, fun _ => rfl, HB.out q⟩
            refine (mark_ok bp n cp (i) _ 91 g _ (by omega) (by omega) hn hlr h1b).mono ?_
            rintro e w1 ⟨rfl, rfl⟩
            replace H := Lib.hid ((M_mark_on (g := g) (n := n) (f := F + 10) (i := i) (st := i) (cn := cn) (lf := 0) (show IsMark 1 by unfold IsMark; omega) (by omega) h1b (by omega)).symm.trans H.out)
            clear h1b
            go_wp2_with (first | (go_at_call 12; fail) | (go_at_call 13; fail))
            rcases nul_range g n (i + 2) with hz2 | ⟨j1, hz2, hl2, hu2⟩
            · refine (polNul_no bp n cp (i + 2) _ g _ (by omega) (by omega) hn hlr hz2).mono ?_
              rintro e w1 ⟨rfl, rfl⟩
              go_wp2
              have er := (M_name_no (g := g) (n := n) (f := F + 9) (i := i + 2) (st := i) (cn := cn) (lf := 0) (Or.inl rfl) hz2).symm.trans H.out
              subst er
              exact bodyPost_ret (v := .tuple #[.bool false, .int .i64 (i : Int), .int .i64 (cn : Int), .bool false]) (by simp [results, Tryf.results6, go_sem]) rfl ⟨(i : Int), rfl, fun _ => rfl, HB.out q⟩
            refine (polNul_yes bp n cp (i + 2) j1 _ g _ (by omega) (by omega) hn hlr hz2).mono ?_
            rintro e w1 ⟨rfl, rfl⟩
            replace H := Lib.hid ((M_name_yes (g := g) (n := n) (f := F + 9) (i := i + 2) (st := i) (cn := cn) (lf := 0) (Or.inl rfl) hz2).symm.trans H.out)
            clear hz2
            go_wp2_with (first | (go_at_call 12; fail) | (go_at_call 13; fail))
            by_cases h3s : n < j1 + 2
            · refine (mark_short bp n cp (j1) _ 59 _ (by omega) h3s (by omega) hn).mono ?_
              rintro e w1 ⟨rfl, rfl⟩
              go_wp2
              have er := (M_mark_short (g := g) (n := n) (f := F + 8) (i := j1) (st := i) (cn := cn) (lf := 0) (show IsMark 3 by unfold IsMark; omega) h3s (Or.inr (by omega))).symm.trans H.out
              subst er
              exact bodyPost_ret (v := .tuple #[.bool false, .int .i64 (i : Int), .int .i64 (cn : Int), .bool false]) (by simp [results, Tryf.results6, go_sem]) rfl ⟨(i : Int), rfl, fun _ => rfl, HB.out q⟩
            by_cases h3b : g (j1) ≠ 59 ∨ g (j1 + 1) ≠ 0
            · refine (mark_bad bp n cp (j1) _ 59 g _ (by omega) (by omega) hn hlr h3b).mono ?_
              rintro e w1 ⟨rfl, rfl⟩
              go_wp2
              have er := (M_mark_bad (g := g) (n := n) (f := F + 8) (i := j1) (st := i) (cn := cn) (lf := 0) (show IsMark 3 by unfold IsMark; omega) (by omega) h3b).symm.trans H.out
              subst er
              exact bodyPost_ret (v := .tuple #[.bool true, .int .i64 (i : Int), .int .i64 (cn : Int), .bool false]) (by simp [results, Tryf.results6, go_sem]) rfl ⟨(i : Int), rfl, fun _ => rfl, HB.out q⟩
            refine (mark_ok bp n cp (j1) _ 59 g _ (by omega) (by omega) hn hlr h3b).mono ?_
            rintro e w1 ⟨rfl, rfl⟩
            replace H := Lib.hid ((M_mark_on (g := g) (n := n) (f := F + 8) (i := j1) (st := i) (cn := cn) (lf := 0) (show IsMark 3 by unfold IsMark; omega) (by omega) h3b (by omega)).symm.trans H.out)
            clear h3b
            go_wp2_with (first | (go_at_call 12; fail) | (go_at_call 13; fail))
            rcases nul_range g n (j1 + 2) with hz4 | ⟨j2, hz4, hl4, hu4⟩
            · refine (polNul_no bp n cp (j1 + 2) _ g _ (by omega) (by omega) hn hlr hz4).mono ?_
              rintro e w1 ⟨rfl, rfl⟩
              go_wp2
              have er := (M_name_no (g := g) (n := n) (f := F + 7) (i := j1 + 2) (st := i) (cn := cn) (lf := 0) (Or.inr rfl) hz4).symm.trans H.out
              subst er
              exact bodyPost_ret (v := .tuple #[.bool false, .int .i64 (i : Int), .int .i64 (cn : Int), .bool false]) (by simp [results, Tryf.results6, go_sem]) rfl ⟨(i : Int), rfl, fun _ => rfl, HB.out q⟩
            refine (polNul_yes bp n cp (j1 + 2) j2 _ g _ (by omega) (by omega) hn hlr hz4).mono ?_
            rintro e w1 ⟨rfl, rfl⟩
            replace H := Lib.hid ((M_name_yes (g := g) (n := n) (f := F + 7) (i := j1 + 2) (st := i) (cn := cn) (lf := 0) (Or.inr rfl) hz4).symm.trans H.out)
            clear hz4
            go_wp2_with (first | (go_at_call 12; fail) | (go_at_call 13; fail))
            by_cases h5s : n < j2 + 2
            · refine (mark_short bp n cp (j2) _ 59 _ (by omega) h5s (by omega) hn).mono ?_
              rintro e w1 ⟨rfl, rfl⟩
              go_wp2
              have er := (M_mark_short (g := g) (n := n) (f := F + 6) (i := j2) (st := i) (cn := cn) (lf := 0) (show IsMark 5 by unfold IsMark; omega) h5s (Or.inr (by omega))).symm.trans H.out
              subst er
              exact bodyPost_ret (v := .tuple #[.bool false, .int .i64 (i : Int), .int .i64 (cn : Int), .bool false]) (by simp [results, Tryf.results6, go_sem]) rfl ⟨(i : Int), rfl, fun _ => rfl, HB.out q⟩
            by_cases h5b : g (j2) ≠ 59 ∨ g (j2 + 1) ≠ 0
            · refine (mark_bad bp n cp (j2) _ 59 g _ (by omega) (by omega) hn hlr h5b).mono ?_
              rintro e w1 ⟨rfl, rfl⟩
              go_wp2
              have er := (M_mark_bad (g := g) (n := n) (f := F + 6) (i := j2) (st := i) (cn := cn) (lf := 0) (show IsMark 5 by unfold IsMark; omega) (by omega) h5b).symm.trans H.out
              subst er
              exact bodyPost_ret (v := .tuple #[.bool true, .int .i64 (i : Int), .int .i64 (cn : Int), .bool false]) (by simp [results, Tryf.results6, go_sem]) rfl ⟨(i : Int), rfl, fun _ => rfl, HB.out q⟩
            refine (mark_ok bp n cp (j2) _ 59 g _ (by omega) (by omega) hn hlr h5b).mono ?_
            rintro e w1 ⟨rfl, rfl⟩
            replace H := Lib.hid ((M_mark_on (g := g) (n := n) (f := F + 6) (i := j2) (st := i) (cn := cn) (lf := 0) (show IsMark 5 by unfold IsMark; omega) (by omega) h5b (by omega)).symm.trans H.out)
            clear h5b
            by_cases h6s : n < j2 + 2 + 4
            · have i4 : (n : Int) - ((j2 : Int) + 2) < 4 := by omega
              go_wp2
              have er := (M_type_no (g := g) (n := n) (f := F + 5) (i := j2 + 2) (st := i) (cn := cn) (lf := 0) h6s).symm.trans H.out
              subst er
              exact bodyPost_ret (v := .tuple #[.bool false, .int .i64 (i : Int), .int .i64 (cn : Int), .bool false]) (by simp [results, Tryf.results6, go_sem]) rfl ⟨(i : Int), rfl, fun _ => rfl, HB.out q⟩
            have i6 : ¬ (n : Int) - ((j2 : Int) + 2) < 4 := by omega
            replace H := Lib.hid ((M_type_yes (g := g) (n := n) (f := F + 5) (i := j2 + 2) (st := i) (cn := cn) (lf := 0) (by omega)).symm.trans H.out)
            go_wp2_with (first | (go_at_call 12; fail) | (go_at_call 13; fail))
            by_cases h7s : n < j2 + 2 + 4 + 2
            · refine (mark_short bp n cp (j2 + 2 + 4) _ 59 _ (by omega) h7s (by omega) hn).mono ?_
              rintro e w1 ⟨rfl, rfl⟩
              go_wp2
              have er := (M_mark_short (g := g) (n := n) (f := F + 4) (i := j2 + 2 + 4) (st := i) (cn := cn) (lf := 0) (show IsMark 7 by unfold IsMark; omega) h7s (Or.inr (by omega))).symm.trans H.out
              subst er
              exact bodyPost_ret (v := .tuple #[.bool false, .int .i64 (i : Int), .int .i64 (cn : Int), .bool false]) (by simp [results, Tryf.results6, go_sem]) rfl ⟨(i : Int), rfl, fun _ => rfl, HB.out q⟩
            by_cases h7b : g (j2 + 2 + 4) ≠ 59 ∨ g (j2 + 2 + 4 + 1) ≠ 0
            · refine (mark_bad bp n cp (j2 + 2 + 4) _ 59 g _ (by omega) (by omega) hn hlr h7b).mono ?_
              rintro e w1 ⟨rfl, rfl⟩
              go_wp2
              have er := (M_mark_bad (g := g) (n := n) (f := F + 4) (i := j2 + 2 + 4) (st := i) (cn := cn) (lf := 0) (show IsMark 7 by unfold IsMark; omega) (by omega) h7b).symm.trans H.out
              subst er
              exact bodyPost_ret (v := .tuple #[.bool true, .int .i64 (i : Int), .int .i64 (cn : Int), .bool false]) (by simp [results, Tryf.results6, go_sem]) rfl ⟨(i : Int), rfl, fun _ => rfl, HB.out q⟩
            refine (mark_ok bp n cp (j2 + 2 + 4) _ 59 g _ (by omega) (by omega) hn hlr h7b).mono ?_
            rintro e w1 ⟨rfl, rfl⟩
            replace H := Lib.hid ((M_mark_on (g := g) (n := n) (f := F + 4) (i := j2 + 2 + 4) (st := i) (cn := cn) (lf := 0) (show IsMark 7 by unfold IsMark; omega) (by omega) h7b (by omega)).symm.trans H.out)
            clear h7b
            by_cases h8s : n < j2 + 2 + 4 + 2 + 4
            · have i4 : (n : Int) - ((j2 : Int) + 2 + 4 + 2) < 4 := by omega
              go_wp2
              have er := (M_size_no (g := g) (n := n) (f := F + 3) (i := j2 + 2 + 4 + 2) (st := i) (cn := cn) (lf := 0) h8s).symm.trans H.out
              subst er
              exact bodyPost_ret (v := .tuple #[.bool false, .int .i64 (i : Int), .int .i64 (cn : Int), .bool false]) (by simp [results, Tryf.results6, go_sem]) rfl ⟨(i : Int), rfl, fun _ => rfl, HB.out q⟩
            have i8 : ¬ (n : Int) - ((j2 : Int) + 2 + 4 + 2) < 4 := by omega
            obtain ⟨p, hp⟩ : ∃ p : Nat, j2 + 2 + 4 + 2 = p := ⟨_, rfl⟩
            have hp' : (j2 : Int) + 2 + 4 + 2 = (p : Int) := by omega
            replace H := Lib.hid ((M_size_yes (g := g) (n := n) (f := F + 3) (i := j2 + 2 + 4 + 2) (st := i) (cn := cn) (lf := 0) (by omega)).symm.trans H.out)
            rw [hp] at H
            go_wp2
            have hpn : p + 4 ≤ n := by omega
            have hip : i + 2 ≤ p := by omega
            clear i8 i6 h1s h3s h5s h6s h7s h8s hp hp' hl2 hu2 hl4 hu4
            have c0 : W1.cell? ⟨bp, p, none⟩ = some (.int .u8 (g p)) := HL.out p (by omega)
            have c1 : W1.cell? ⟨bp, p + 1, none⟩ = some (.int .u8 (g (p + 1))) := HL.out (p + 1) (by omega)
            have c2 : W1.cell? ⟨bp, p + 2, none⟩ = some (.int .u8 (g (p + 2))) := HL.out (p + 2) (by omega)
            have c3 : W1.cell? ⟨bp, p + 3, none⟩ = some (.int .u8 (g (p + 3))) := HL.out (p + 3) (by omega)
            have y0 : (p : Int) < (n : Int) := by omega
            have y1 : (p : Int) + 1 < (n : Int) := by omega
            have y2 : (p : Int) + 2 < (n : Int) := by omega
            have y3 : (p : Int) + 3 < (n : Int) := by omega
            have g0 := hg p
            have g1 := hg (p + 1)
            have g2 := hg (p + 2)
            have g3 := hg (p + 3)
            have k1 : bits .or .u64 (g p) (g (p + 1) * 256) = g p + g (p + 1) * 256 := u64_or8 _ _ (by omega) (by omega) (by omega) (by omega) (by omega)
            have k2 : bits .or .u64 (g p + g (p + 1) * 256) (g (p + 2) * 65536) = g p + g (p + 1) * 256 + g (p + 2) * 65536 := u64_or16 _ _ (by omega) (by omega) (by omega) (by omega) (by omega)
            have k3 : bits .or .u64 (g p + g (p + 1) * 256 + g (p + 2) * 65536) (g (p + 3) * 16777216) = g p + g (p + 1) * 256 + g (p + 2) * 65536 + g (p + 3) * 16777216 := u64_or24 _ _ (by omega) (by omega) (by omega) (by omega) (by omega)
            obtain ⟨L, hL⟩ : ∃ L : Nat, le4 g p = L := ⟨_, rfl⟩
            rw [hL] at H
            have hL32 : L < 4294967296 := by unfold le4 at hL; omega
            have k4 : g p + g (p + 1) * 256 + g (p + 2) * 65536 + g (p + 3) * 16777216 = (L : Int) := by unfold le4 at hL; omega
            have k5 : bits .or .u64 (bits .or .u64 (bits .or .u64 (g p) (g (p + 1) * 256)) (g (p + 2) * 65536)) (g (p + 3) * 16777216) = (L : Int) := by rw [k1, k2, k3, k4]
            clear k1 k2 k3 k4 hL
            go_quiet (fail)
            try rw [k5]
            clear c0 c1 c2 c3 y0 y1 y2 y3 g0 g1 g2 g3
            have hlr2 : Lies (W1.drewN (q + nq)) bp n g := HL.out
            have HB2 : Below w.heap.size w (W1.drewN (q + nq)) := HB.out (q + nq)
            go_wp2_with (first | (go_at_call 12; fail) | (go_at_call 13; fail))
            by_cases h9s : n < p + 4 + 2
            · refine (mark_short bp n cp (p + 4) _ 59 _ (by omega) h9s (by omega) hn).mono ?_
              rintro e w1 ⟨rfl, rfl⟩
              go_wp2
              have er := (M_mark_short (g := g) (n := n) (f := F + 2) (i := p + 4) (st := i) (cn := cn) (lf := L) (show IsMark 9 by unfold IsMark; omega) h9s (Or.inr (by omega))).symm.trans H.out
              subst er
              exact bodyPost_ret (v := .tuple #[.bool false, .int .i64 (i : Int), .int .i64 (cn : Int), .bool false]) (by simp [results, Tryf.results6, go_sem]) rfl ⟨(i : Int), rfl, fun _ => rfl, HB2⟩
            by_cases h9b : g (p + 4) ≠ 59 ∨ g (p + 4 + 1) ≠ 0
            · refine (mark_bad bp n cp (p + 4) _ 59 g _ (by omega) (by omega) hn hlr2 h9b).mono ?_
              rintro e w1 ⟨rfl, rfl⟩
              go_wp2
              have er := (M_mark_bad (g := g) (n := n) (f := F + 2) (i := p + 4) (st := i) (cn := cn) (lf := L) (show IsMark 9 by unfold IsMark; omega) (by omega) h9b).symm.trans H.out
              subst er
              exact bodyPost_ret (v := .tuple #[.bool true, .int .i64 (i : Int), .int .i64 (cn : Int), .bool false]) (by simp [results, Tryf.results6, go_sem]) rfl ⟨(i : Int), rfl, fun _ => rfl, HB2⟩
            refine (mark_ok bp n cp (p + 4) _ 59 g _ (by omega) (by omega) hn hlr2 h9b).mono ?_
            rintro e w1 ⟨rfl, rfl⟩
            replace H := Lib.hid ((M_mark_on (g := g) (n := n) (f := F + 2) (i := p + 4) (st := i) (cn := cn) (lf := L) (show IsMark 9 by unfold IsMark; omega) (by omega) h9b (by omega)).symm.trans H.out)
            clear h9b
            by_cases h10s : n < p + 4 + 2 + L
            · have i4 : (n : Int) - ((p : Int) + 4 + 2) < (L : Int) := by omega
              have i5 : (0 : Int) ≤ (n : Int) - ((p : Int) + 4 + 2) := by omega
              go_wp2
              have er := (M_data_no (g := g) (n := n) (f := F + 1) (i := p + 4 + 2) (st := i) (cn := cn) (lf := L) h10s).symm.trans H.out
              subst er
              exact bodyPost_ret (v := .tuple #[.bool false, .int .i64 (i : Int), .int .i64 (cn : Int), .bool false]) (by simp [results, Tryf.results6, go_sem]) rfl ⟨(i : Int), rfl, fun _ => rfl, HB2⟩
            have i10 : ¬ (n : Int) - ((p : Int) + 4 + 2) < (L : Int) := by omega
            have i5 : (0 : Int) ≤ (n : Int) - ((p : Int) + 4 + 2) := by omega
            replace H := Lib.hid ((M_data_yes (g := g) (n := n) (f := F + 1) (i := p + 4 + 2) (st := i) (cn := cn) (lf := L) (by omega) (by omega)).symm.trans H.out)
            go_wp2_with (first | (go_at_call 12; fail) | (go_at_call 13; fail))
            by_cases h11s : n < p + 4 + 2 + L + 2
            · refine (mark_short bp n cp (p + 4 + 2 + L) _ 93 _ (by omega) h11s (by omega) hn).mono ?_
              rintro e w1 ⟨rfl, rfl⟩
              go_wp2
              have er := (M_mark_short (g := g) (n := n) (f := F + 0) (i := p + 4 + 2 + L) (st := i) (cn := cn) (lf := 0) (show IsMark 11 by unfold IsMark; omega) h11s (Or.inr (by omega))).symm.trans H.out
              subst er
              exact bodyPost_ret (v := .tuple #[.bool false, .int .i64 (i : Int), .int .i64 (cn : Int), .bool false]) (by simp [results, Tryf.results6, go_sem]) rfl ⟨(i : Int), rfl, fun _ => rfl, HB2⟩
            by_cases h11b : g (p + 4 + 2 + L) ≠ 93 ∨ g (p + 4 + 2 + L + 1) ≠ 0
            · refine (mark_bad bp n cp (p + 4 + 2 + L) _ 93 g _ (by omega) (by omega) hn hlr2 h11b).mono ?_
              rintro e w1 ⟨rfl, rfl⟩
              go_wp2
              have er := (M_mark_bad (g := g) (n := n) (f := F + 0) (i := p + 4 + 2 + L) (st := i) (cn := cn) (lf := 0) (show IsMark 11 by unfold IsMark; omega) (by omega) h11b).symm.trans H.out
              subst er
              exact bodyPost_ret (v := .tuple #[.bool true, .int .i64 (i : Int), .int .i64 (cn : Int), .bool false]) (by simp [results, Tryf.results6, go_sem]) rfl ⟨(i : Int), rfl, fun _ => rfl, HB2⟩
            refine (mark_ok bp n cp (p + 4 + 2 + L) _ 93 g _ (by omega) (by omega) hn hlr2 h11b).mono ?_
            rintro e w1 ⟨rfl, rfl⟩
            replace H := Lib.hid ((M_mark_close (g := g) (n := n) (f := F + 0) (i := p + 4 + 2 + L) (st := i) (cn := cn) (lf := 0) (by omega) h11b).symm.trans H.out)
            clear h11b
            go_wp2
            go_roundw
            case rel => exact ⟨F, p + 4 + 2 + L + 2, cn + 1, q + nq, by omega, by omega, by go_num, by go_num, rfl, Lib.hid ⟨H.out, by omega⟩⟩
            case measure => simp [intOf]; omega
          · have i1 : ¬ (i : Int) < (n : Int) := by omega
            obtain ⟨F, rfl⟩ : ∃ F, f = F + 1 := ⟨f - 1, by omega⟩
            have er := Lib.hid ((M_end (g := g) (n := n) (f := F) (i := i) (st := i) (cn := cn) (lf := 0) (by omega) 1).symm.trans hM1)
            clear hM1
            go_wp2
            have er := er.out
            subst er
            exact bodyPost_ret (v := .tuple #[.bool false, .int .i64 0, .int .i64 (cn : Int), .bool true]) (by simp [results, Tryf.results6, go_sem]) rfl ⟨0, rfl, (fun h => by cases h), HB.out q⟩
end Go.Proofs.Qxb6612846aFmt
