/- Seat b6612846aF: ZZpolScan over the whole file, and the law's walk. -/
import Derived.Test.Qxb6612846aFmtDoor
import Derived.Laws.MakeOwn
import Derived.OwnWalk
namespace Go.Proofs.Qxb6612846aFmt
open Go.RowKit Go.Extern.Stop Go.Stop Go.Extern
set_option linter.unusedVariables false

/-- How ZZpolScan leaves the scanner, against the parser's answer. -/
def After (b : Nat) (r : Res) (w : World) (e : Ending) (w' : World) : Prop :=
  w'.cell? ⟨b, 1, none⟩ = some (.int .i64 (r.cnt : Int)) ∧ Below b w w' ∧
  ((r.bad = true ∧ e = .returned (.tuple #[.bool true, .bool true, .int .i64 r.off])) ∨
   (r.bad = false ∧ e = .returned (.tuple #[.bool false, .bool false, .int .i64 0]) ∧
     Calls Tryf.prog 10 #[.pointer (some ⟨b, 0, none⟩)] w' fun e w'' => e = .returned (.bool (!r.whole)) ∧ Below w'.heap.size w' w''))

theorem after_err {b bp n cp : Nat} {o : Int} {w : World} {r : Res} (hr : r = ⟨true, o, 0, false⟩) (H : Calls Tryf.prog 14 #[.pointer (some ⟨b, 0, none⟩), .slice (some ⟨bp, 0, none⟩) n cp, .nilFunc] w fun e w' => Left b ⟨true, o, 0, false⟩ w e w') :
    Calls Tryf.prog 8 #[.pointer (some ⟨b, 0, none⟩), .slice (some ⟨bp, 0, none⟩) n cp] w fun e w' => After b r w e w' := by
  subst hr
  have h := polScan_err b o _ w (fun w' => w'.cell? ⟨b, 1, none⟩ = some (.int .i64 (0 : Nat)) ∧ Below b w w') (H.mono fun e w' hl => by
    obtain ⟨h1, h2, h3, h4 | h4⟩ := hl
    · exact ⟨h4.2, h3, h1⟩
    · exact absurd h4.1 (by simp))
  refine h.mono ?_
  rintro e w' ⟨rfl, w1, q, ⟨h1, h2⟩, rfl⟩
  exact ⟨h1, below_drewN h2 q, Or.inl ⟨rfl, rfl⟩⟩

theorem after_head {b n : Nat} {g : Nat → Int} {p : Value} {w : World} {r : Res} (hg : ∀ j, 0 ≤ g j ∧ g j < 256) (h8 : n < 8) (hr : r = ⟨false, 0, 0, false⟩) (H : Calls Tryf.prog 14 #[.pointer (some ⟨b, 0, none⟩), p, .nilFunc] w fun e w' => HeadLeft b n g w e w') :
    Calls Tryf.prog 8 #[.pointer (some ⟨b, 0, none⟩), p] w fun e w' => After b r w e w' := by
  subst hr
  have h := polScan_nil b p w (fun w' => HeadLeft b n g w (.returned .nilIface) w') (H.mono fun e w' hl => by
    have he := hl.2.2.2.1
    subst he
    exact ⟨rfl, hl⟩)
  refine h.mono ?_
  rintro e w' ⟨rfl, h1, h2, h3, _, h5, h6, h7⟩
  exact ⟨h3, h1, Or.inr ⟨rfl, rfl, polEnd_err b w' (end_head b n g w' h8 hg h5 h6 h7)⟩⟩

theorem polScan_c (F : Interp) (b bp n cp : Nat) (g : Nat → Int) (mx : Int) (nm : Nat → ByteArray) (w : World) (hF0 : F.answers w.tape) (hn : n ≤ 1048576) (hcap : n ≤ cp) (hg : ∀ j, 0 ≤ g j ∧ g j < 256) (hl : Lies w bp n g) (hG : Glob w mx nm) (hF : Fresh b w) (hbp : bp < b) (h2b : 2 < b) :
    Calls Tryf.prog 8 #[.pointer (some ⟨b, 0, none⟩), .slice (some ⟨bp, 0, none⟩) n cp] w fun e w' => After b (P g n) w e w' := by
  by_cases hs : ∀ j, j < n → j < 4 → g j = sigB j
  · by_cases h8 : n < 8
    · exact after_head hg h8 (P_short h8 hs) (scan_head b bp n cp g w h8 hg hl hF hbp (fun j hj => hs j (by omega) (by omega)))
    · by_cases hv : g 4 ≠ 1 ∨ g 5 ≠ 0 ∨ g 6 ≠ 0 ∨ g 7 ≠ 0
      · exact after_err (P_ver (by omega) hs hv) (scan_err b bp n cp 8 4 g w hn (by omega) hl hF hbp (fun W h1 h2 h3 =>
          head_ver F b g true W (by rw [h2]; exact hF0) hg h1 h3 (fun j hj => hs j (by omega) hj) (by omega)))
      · have hM := scan_main b bp n cp g mx nm w hn (by omega) hcap hg hl hG hF hbp h2b (fun j hj => hs j (by omega) hj) (by omega) (P g n) (Lib.hid (P_go (by omega) hs hv).symm)
        generalize P g n = r at hM
        cases hb : r.bad
        · have h := polScan_nil b _ w (fun w' => Left b r w (.returned .nilIface) w') (hM.mono fun e w' hl => by
            have hl' := hl
            obtain ⟨h1, h2, h3, ⟨h4, _⟩ | ⟨_, h4, _⟩⟩ := hl
            · rw [hb] at h4; cases h4
            · subst h4; exact ⟨rfl, hl'⟩)
          refine h.mono ?_
          rintro e w' ⟨rfl, h1, h2, h3, ⟨h4, _⟩ | ⟨_, _, h5⟩⟩
          · rw [hb] at h4; cases h4
          · refine ⟨h3, h1, Or.inr ⟨hb, rfl, ?_⟩⟩
            rcases h5 with ⟨hw, e3, e12⟩ | ⟨hw, fld, lf, st, sz, f1, f2, f3, f4, f5, f6, f7⟩
            · rw [hw]
              exact end_whole b w' e3 e12
            · rw [hw]
              exact polEnd_err b w' (end_short F b fld lf st sz w' (by rw [h1.tape]; exact hF0) h2 f1 f2 f3 f4 f5 f6 f7)
        · have h := polScan_err b r.off _ w (fun w' => w'.cell? ⟨b, 1, none⟩ = some (.int .i64 (r.cnt : Int)) ∧ Below b w w') (hM.mono fun e w' hl => by
            obtain ⟨h1, h2, h3, ⟨_, h4⟩ | ⟨h4, _⟩⟩ := hl
            · exact ⟨h4, h3, h1⟩
            · rw [hb] at h4; cases h4)
          refine h.mono ?_
          rintro e w' ⟨rfl, w1, q, ⟨h1, h2⟩, rfl⟩
          exact ⟨h1, below_drewN h2 q, Or.inl ⟨hb, rfl⟩⟩
  · obtain ⟨j, h1, h2, h3⟩ : ∃ j, j < n ∧ j < 4 ∧ g j ≠ sigB j := by
      apply Classical.byContradiction
      intro hc
      exact hs (fun j h1 h2 => Classical.byContradiction fun h3 => hc ⟨j, h1, h2, h3⟩)
    exact after_err (P_bad h1 h2 h3) (scan_err b bp n cp (min n 8) 0 g w hn rfl hl hF hbp (fun W e1 e2 e3 =>
      head_bad b (min n 8) (min (min n 8) 4) g true W (by omega) rfl hg e3 (fun hc => h3 (hc j (by omega)))))

theorem bytes_yes (a : Option Addr) (n cp : Nat) (w : World) (hn : n ≤ 1048576) : Calls Tryf.prog 5 #[.slice a n cp] w fun e w' => e = .returned (.bool true) ∧ w = w' := by
  have i1 : ¬ (1048576 : Int) < (n : Int) := by omega
  go_enter Tryf.func5, Tryf.ntmps5
  go_wp2
  go_ret
  exact ⟨rfl, rfl⟩
theorem bytes_no (a : Option Addr) (n cp : Nat) (w : World) (hn : 1048576 < n) : Calls Tryf.prog 5 #[.slice a n cp] w fun e w' => e = .returned (.bool false) ∧ w = w' := by
  have i1 : (1048576 : Int) < (n : Int) := by omega
  go_enter Tryf.func5, Tryf.ntmps5
  go_wp2
  go_ret
  exact ⟨rfl, rfl⟩

theorem info5z : (Tryf.prog.info? 5).map (fun i => (i.zero, i.size, i.bytes)) = some (some (.int .u8 0), 1, 1) := by kernel_rfl

theorem make_c (n : Nat) (hn : n ≤ 1048576) (w : World) : ∃ A : Array Value, (Instr.makeSlice 22 (.int .i64 (n : Int)) (.int .i64 (n : Int))).run Tryf.prog w = .ok (.slice (some ⟨w.heap.size, 0, none⟩) n n) (w.alloc (.cells A 5)) ∧ A.size = n := by
  obtain ⟨i0, hi, hz0, hz1, hz2⟩ := info_parts info5z
  have h := run_make (P := Tryf.prog) w 22 5 i0 (.int .u8 0) Tryf.underlying22 hi hz0 .i64 .i64 n n (by omega) (by omega) (by rw [hz2]; omega) (by omega)
  simp only [Int.toNat_natCast] at h
  exact ⟨_, h, by rw [size_madeCells, hz1]; simp⟩

/-- The copy that the law makes. -/
theorem copy_c (b off n cp : Nat) (g : Nat → Int) (A : Array Value) (w : World) (hA : A.size = n) (hbw : n = 0 ∨ b < w.heap.size) (hl : ∀ j, j < n → w.cell? ⟨b, off + j, none⟩ = some (.int .u8 (g j))) :
    ∃ W2, (Builtin.copy_ #[22, 22] 3 #[.slice (some ⟨w.heap.size, 0, none⟩) n n, .slice (some ⟨b, off, none⟩) n cp]).run Tryf.prog (w.alloc (.cells A 5)) = .ok (.int .i64 (n : Int)) W2 ∧ Below w.heap.size w W2 ∧ Lies W2 w.heap.size n g ∧ w.heap.size < W2.heap.size := by
  have hlen : ((List.range n).map fun j => Value.int .u8 (g j)).length = n := by simp
  have hb1 : Below w.heap.size w (w.alloc (.cells A 5)) := (Below.refl _ w).alloc (Nat.le_refl _) _
  have hsome : ∀ j, j < n → ((w.alloc (.cells A 5)).cell? ⟨w.heap.size, 0 + j, none⟩).isSome = true := fun j hj => by
    rw [cell_new, Array.getElem?_eq_getElem (h := by omega)]
    rfl
  have h := run_copy_cells (P := Tryf.prog) (w.alloc (.cells A 5)) 22 22 3 5 w.heap.size 0 n n ⟨b, off, none⟩ n cp ((List.range n).map fun j => Value.int .u8 (g j)) Tryf.underlying22 info5 (by rw [hlen]; exact (Nat.min_self n).symm)
      (fun j v hj => by
        rw [addr_add]
        simp at hj
        obtain ⟨x, hx, rfl⟩ := hj
        obtain ⟨hlt, hx'⟩ := List.getElem?_eq_some_iff.1 hx
        simp at hlt hx'
        subst hx'
        rw [hb1.cell (p := ⟨b, off + j, none⟩) (by rcases hbw with h | h; omega; exact h)]
        exact hl j hlt)
      (fun j hj => hsome j (by rw [hlen] at hj; exact hj)) (fun j _ => World.frozen?_alloc_new w _ _ _) (fun v hv => by
        obtain ⟨j, _, rfl⟩ := List.mem_map.1 hv
        rfl)
  rw [hlen] at h
  refine ⟨_, h, below_setCells (Nat.le_refl _) _ _ _ _ hb1, fun j hj => ?_, by rw [size_setCells]; simp⟩
  have := World.cell?_setCells_in w.heap.size ((List.range n).map fun j => Value.int .u8 (g j)) 0 (w.alloc (.cells A 5)) (fun j hj => hsome j (by rw [hlen] at hj; exact hj)) j (by rw [hlen]; exact hj)
  rw [Nat.zero_add] at this
  rw [this]
  simp

theorem Glob.old {w w' : World} {mx : Int} {nm : Nat → ByteArray} {B : Nat} (h : Glob w mx nm) (hb : Below B w w') (hB : 2 < B) : Glob w' mx nm :=
  ⟨(hb.cell (p := ⟨2, 0, none⟩) hB).trans h.mlen, fun k hk => (hb.cell (p := ⟨1, k * 2, none⟩) (show 1 < B by omega)).trans (h.name k hk), h.short, fun k hk => (hb.cell (p := ⟨1, k * 2 + 1, none⟩) (show 1 < B by omega)).trans (h.mark k hk)⟩

set_option maxHeartbeats 4000000 in
set_option maxRecDepth 100000 in
theorem law_core (F : Interp) (x : Addr) (n cp : Nat) (g : Nat → Int) (mx : Int) (nm : Nat → ByteArray) (A : Array Value) (w W2 : World) (hF0 : F.answers w.tape) (hn : n ≤ 1048576) (hg : ∀ j, 0 ≤ g j ∧ g j < 256) (hG : Glob w mx nm)
    (hmk : (Instr.makeSlice 22 (.int .i64 (n : Int)) (.int .i64 (n : Int))).run Tryf.prog w = .ok (.slice (some ⟨w.heap.size, 0, none⟩) n n) (w.alloc (.cells A 5)))
    (hcp : (Builtin.copy_ #[22, 22] 3 #[.slice (some ⟨w.heap.size, 0, none⟩) n n, .slice (some x) n cp]).run Tryf.prog (w.alloc (.cells A 5)) = .ok (.int .i64 (n : Int)) W2) (hb2 : Below w.heap.size w W2) (hl2 : Lies W2 w.heap.size n g) (hs2 : w.heap.size < W2.heap.size) :
    Calls Tryf.prog 3 #[.slice (some x) n cp] w fun e w' => e = .returned (.bool true) ∧ Below w.heap.size w w' := by
  have h2 : 2 < w.heap.size := Lib.lt_of_cell hG.mlen
  have HG := Lib.hid (hG.old hb2 h2)
  have HL := Lib.hid hl2
  have i1 : ¬ (1048576 : Int) < (n : Int) := by omega
  obtain ⟨r, hr⟩ : ∃ r, P g n = r := ⟨_, rfl⟩
  have Hr := Lib.hid hr
  obtain ⟨bad, o, cnt, whole⟩ := r
  clear hG hl2 hr
  go_enter Tryf.func3, Tryf.ntmps3
  go_wp2_with (first | (go_at_call 5; refine (bytes_yes _ n cp w hn).mono ?_; rintro e w1 ⟨rfl, rfl⟩) | (go_at_call 6; fail))
  refine (model_c w.heap.size n n g W2 hn hs2 hg HL.out ⟨bad, o, cnt, whole⟩ Hr).mono ?_
  rintro e w4 ⟨o', rfl, hoff, hb4⟩
  have HO := Lib.hid hoff
  clear hoff
  go_wp2_with (go_at_call 7; fail)
  refine (new_c w4).mono ?_
  rintro e w5 ⟨rfl, hfr, hb5⟩
  have h24 : w.heap.size < w4.heap.size := Nat.lt_of_lt_of_le hs2 hb4.size
  have hS := polScan_c F w4.heap.size w.heap.size n n g mx nm w5 (by rw [hb5.tape, hb4.tape, hb2.tape]; exact hF0) hn (Nat.le_refl _) hg
    (fun j hj => by rw [hb5.cell (p := ⟨w.heap.size, j, none⟩) h24, hb4.cell (p := ⟨w.heap.size, j, none⟩) hs2]; exact HL.out j hj)
    ((HG.out.old hb4 (by omega)).old hb5 (by omega)) hfr h24 (by omega)
  rw [Hr.out] at hS
  have HS := Lib.hid hS
  have hbel5 : Below w.heap.size w w5 := (hb2.trans (hb4.mono (Nat.le_of_lt hs2))).trans (hb5.mono (Nat.le_of_lt h24))
  clear hS HG HL Hr
  go_wp2_with (go_at_call 8; fail)
  refine (HS.out).mono ?_
  rintro e w6 ⟨hc1, hbel, ⟨hbad, rfl⟩ | ⟨hbad, rfl, hend⟩⟩
  · have hbad' : bad = true := hbad
    subst hbad'
    have ho := HO.out rfl
    have ho' : o' = o := ho
    subst ho'
    clear HS hbad ho
    have hc1' : w6.cell? ⟨w4.heap.size, 1, none⟩ = some (.int .i64 (cnt : Int)) := hc1
    go_wp2_with (go_at_call 9; refine (count_c w4.heap.size (cnt : Int) w6 hc1').mono ?_; rintro e w7 ⟨rfl, rfl⟩)
    go_ret
    exact ⟨by simp, hbel5.trans (hbel.mono (Nat.le_of_lt h24))⟩
  · have hbad' : bad = false := hbad
    subst hbad'
    clear HS hbad HO
    have hc1' : w6.cell? ⟨w4.heap.size, 1, none⟩ = some (.int .i64 (cnt : Int)) := hc1
    have HE : Hid (Calls Tryf.prog 10 #[.pointer (some ⟨w4.heap.size, 0, none⟩)] w6 fun e w'' => e = .returned (.bool (!whole)) ∧ Below w6.heap.size w6 w'') := Lib.hid hend
    clear hend hc1
    have h46 : w4.heap.size ≤ w6.heap.size := Nat.le_trans hb5.size hbel.size
    go_wp2_with (first | (go_at_call 9; refine (count_c w4.heap.size (cnt : Int) w6 hc1').mono ?_; rintro e w7 ⟨rfl, rfl⟩) | (go_at_call 10; fail))
    refine (HE.out).mono ?_
    rintro e w8 ⟨rfl, hb8⟩
    cases whole
    all_goals
      go_wp2
      go_ret
      exact ⟨by simp, (hbel5.trans (hbel.mono (Nat.le_of_lt h24))).trans (hb8.mono (by omega))⟩

theorem law_some (F : Interp) (b off n cp : Nat) (g : Nat → Int) (mx : Int) (nm : Nat → ByteArray) (w : World) (hF0 : F.answers w.tape) (hn : n ≤ 1048576) (hg : ∀ j, 0 ≤ g j ∧ g j < 256) (hbw : n = 0 ∨ b < w.heap.size)
    (hl : ∀ j, j < n → w.cell? ⟨b, off + j, none⟩ = some (.int .u8 (g j))) (hG : Glob w mx nm) :
    Calls Tryf.prog 3 #[.slice (some ⟨b, off, none⟩) n cp] w fun e w' => e = .returned (.bool true) ∧ Below w.heap.size w w' := by
  obtain ⟨A, hmk, hA⟩ := make_c n hn w
  obtain ⟨W2, hcp, hb2, hl2, hs2⟩ := copy_c b off n cp g A w hA hbw hl
  exact law_core F ⟨b, off, none⟩ n cp g mx nm A w W2 hF0 hn hg hG hmk hcp hb2 hl2 hs2

theorem law_zero (F : Interp) (x : Addr) (cp : Nat) (mx : Int) (nm : Nat → ByteArray) (w : World) (hF0 : F.answers w.tape) (hG : Glob w mx nm) :
    Calls Tryf.prog 3 #[.slice (some x) 0 cp] w fun e w' => e = .returned (.bool true) ∧ Below w.heap.size w w' := by
  obtain ⟨A, hmk, hA⟩ := make_c 0 (by omega) w
  exact law_core F x 0 cp (fun _ => 0) mx nm A w (w.alloc (.cells A 5)) hF0 (by omega) (fun _ => by omega) hG hmk
    (run_copy_none (P := Tryf.prog) _ 22 22 3 5 _ _ 0 0 0 cp Tryf.underlying22 info5 rfl) ((Below.refl _ w).alloc (Nat.le_refl _) _) (fun j hj => by omega) (by simp)

set_option maxHeartbeats 4000000 in
set_option maxRecDepth 100000 in
theorem law_nil (w : World) : Calls Tryf.prog 3 #[.slice none 0 0] w fun e w' => e = .returned (.bool true) ∧ Below w.heap.size w w' := by
  go_enter Tryf.func3, Tryf.ntmps3
  go_wp2_with (first | (go_at_call 5; refine (bytes_yes none 0 0 w (by omega)).mono ?_; rintro e w1 ⟨rfl, rfl⟩) | (go_at_call 6; fail))
  refine (model_nil w).mono ?_
  rintro e w4 ⟨rfl, hb4⟩
  go_wp2_with (go_at_call 7; fail)
  refine (new_c w4).mono ?_
  rintro e w5 ⟨rfl, hfr, hb5⟩
  have hS := after_head (b := w4.heap.size) (n := 0) (g := fun _ => 0) (r := ⟨false, 0, 0, false⟩) (fun _ => by omega) (by omega) rfl (scan_nil w4.heap.size (fun _ => 0) w5 (fun _ => by omega) hfr)
  have HS := Lib.hid hS
  have hbel5 : Below w.heap.size w w5 := hb4.trans (hb5.mono hb4.size)
  clear hS
  go_wp2_with (go_at_call 8; fail)
  refine (HS.out).mono ?_
  rintro e w6 ⟨hc1, hbel, ⟨hbad, _⟩ | ⟨_, rfl, hend⟩⟩
  · cases hbad
  · have hc1' : w6.cell? ⟨w4.heap.size, 1, none⟩ = some (.int .i64 0) := hc1
    have HE : Hid (Calls Tryf.prog 10 #[.pointer (some ⟨w4.heap.size, 0, none⟩)] w6 fun e w'' => e = .returned (.bool true) ∧ Below w6.heap.size w6 w'') := Lib.hid hend
    clear hend hc1 HS
    have h46 : w4.heap.size ≤ w6.heap.size := Nat.le_trans hb5.size hbel.size
    go_wp2_with (first | (go_at_call 9; refine (count_c w4.heap.size 0 w6 hc1').mono ?_; rintro e w7 ⟨rfl, rfl⟩) | (go_at_call 10; fail))
    refine (HE.out).mono ?_
    rintro e w8 ⟨rfl, hb8⟩
    go_wp2
    go_ret
    exact ⟨rfl, (hbel5.trans (hbel.mono hb4.size)).trans (hb8.mono (Nat.le_trans hb4.size h46))⟩

theorem law_big (a : Option Addr) (n cp : Nat) (w : World) (hn : 1048576 < n) : Calls Tryf.prog 3 #[.slice a n cp] w fun e w' => e = .returned (.bool true) ∧ Below w.heap.size w w' := by
  go_enter Tryf.func3, Tryf.ntmps3
  go_wp2_with (go_at_call 5; refine (bytes_no a n cp w hn).mono ?_; rintro e w1 ⟨rfl, rfl⟩)
  go_ret
  exact ⟨rfl, Below.refl _ _⟩
end Go.Proofs.Qxb6612846aFmt
