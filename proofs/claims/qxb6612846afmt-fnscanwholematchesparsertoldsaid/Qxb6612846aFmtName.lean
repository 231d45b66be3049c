/- Seat b6612846aF: the scanner's own methods name and fixed. The scanner lies in block b: off 0, count 1, start 2, field 3, held 4 to 11, nheld 12, typ 13, size 14, left 15, ends 16 to 27, stopped 28. -/
import Derived.Test.Qxb6612846aFmtLeaf
import Derived.Laws.CopyOwn
import Derived.Laws.CopyRow
import Derived.Laws.IdiomCopy
namespace Go.Proofs.Qxb6612846aFmt
open Go.RowKit
set_option linter.unusedVariables false

/-- Of what lay below block b nothing has turned; of block b only held and nheld may have. -/
structure Kept (b : Nat) (w w' : World) : Prop where
  below : Below b w w'
  cells : ∀ o, o < 4 ∨ 12 < o → w'.cell? ⟨b, o, none⟩ = w.cell? ⟨b, o, none⟩
  marks : ∀ o, w'.frozen? ⟨b, o, none⟩ = w.frozen? ⟨b, o, none⟩
  room : w.heap.size ≤ w'.heap.size
  still : ∀ o, (w.cell? ⟨b, o, none⟩).isSome = true → (w'.cell? ⟨b, o, none⟩).isSome = true

theorem Kept.of_below {b : Nat} {w w' : World} (h : Below w.heap.size w w') (hb : b < w.heap.size) : Kept b w w' :=
  ⟨h.mono (by omega), fun o _ => h.cell (p := ⟨b, o, none⟩) hb, fun o => h.frozen (p := ⟨b, o, none⟩) hb, h.size, fun o ho => by rw [h.cell (p := ⟨b, o, none⟩) hb]; exact ho⟩
theorem Kept.refl (b : Nat) (w : World) : Kept b w w := ⟨Below.refl _ _, fun _ _ => rfl, fun _ => rfl, Nat.le_refl _, fun _ h => h⟩

theorem Kept.set {b : Nat} {w w' : World} (h : Kept b w w') (o : Nat) (ho : 4 ≤ o ∧ o ≤ 12) (v : Value) : Kept b w (w'.setCell ⟨b, o, none⟩ v) := by
  refine ⟨h.below.setCell (Nat.le_refl _) v, fun o' ho' => ?_, fun o' => ?_, ?_, fun o' ho' => ?_⟩
  · rw [← h.cells o' ho']
    refine World.cell?_setCell_other (h := fun e => ?_) ..
    have e' := congrArg Addr.off e
    simp at e'
    omega
  · rw [World.frozen?_setCell]
    exact h.marks o'
  · have := h.room
    simpa using this
  · obtain ⟨u, hu⟩ := Option.isSome_iff_exists.1 (h.still o' ho')
    obtain ⟨u', hu'⟩ := cell?_setCell_some (p := ⟨b, o, none⟩) (x := v) hu
    rw [hu']
    rfl
theorem Kept.drew {b : Nat} {w w' : World} (h : Kept b w w') : Kept b w w'.drew := ⟨h.below.drew, h.cells, h.marks, h.room, h.still⟩

theorem Kept.undrew {b : Nat} {w w' : World} (h : Kept b w.drew w') : Kept b w w' := ⟨(Below.drew (Below.refl b w)).trans h.below, h.cells, h.marks, h.room, h.still⟩

theorem indexNul_c (b o m cp : Nat) (g : Nat → Int) (mx : Int) (w : World) (hm : m ≤ 1048576) (hcap : m ≤ cp) (hl : ∀ j, j < m → w.cell? ⟨b, o + j, none⟩ = some (.int .u8 (g (o + j)))) (hg : ∀ j, 0 ≤ g j ∧ g j < 256) (hM : w.cell? ⟨2, 0, none⟩ = some (.int .i64 mx)) :
    Calls Tryf.prog 23 #[.slice (some ⟨b, o, none⟩) m cp] w fun e w' =>
      ((e = .returned (.int .i64 (-1)) ∧ nul g (o + m) o = -1) ∨ ∃ i : Nat, e = .returned (.int .i64 i) ∧ nul g (o + m) o = ((o + i + 2 : Nat) : Int) ∧ i + 2 ≤ m) ∧ Below w.heap.size w w' := by
  have HX := Lib.hid (indexUnit_c b o m cp g mx w hm hcap hl hg hM)
  clear hl
  go_enter Tryf.func23, Tryf.ntmps23
  go_wp2_with (go_at_call 24; refine (HX.out).mono ?_)
  rintro e w' ⟨h | ⟨i, rfl, h1, h2, h3, h4⟩, hb⟩
  · obtain ⟨rfl, h⟩ := h
    have hr : Hid (nul g (o + m) o = -1) := Lib.hid (nul_none g (o + m) o (fun j h1 h2 h3 h4 => h (j - o) h2 (by omega) (by rw [show o + (j - o) = j by omega]; exact h4)))
    clear h
    go_wp2
    go_ret
    exact ⟨Or.inl ⟨rfl, hr.out⟩, hb⟩
  · have hr : Hid (nul g (o + m) o = ((o + i + 2 : Nat) : Int)) := Lib.hid (nul_some g (o + m) o (o + i) (by omega) (by omega) (by omega) h3 (fun k h5 h6 h7 h8 => h4 (k - o) (by omega) (by omega) (by rw [show o + (k - o) = k by omega]; exact h8)))
    clear h3 h4
    go_wp2
    go_ret
    exact ⟨Or.inr ⟨i, rfl, hr.out, by omega⟩, hb⟩

set_option maxHeartbeats 2000000 in
/-- (*polScanner).name, nothing held. -/
theorem name_c (b bp n cp i : Nat) (z : Int) (g : Nat → Int) (mx : Int) (w : World) (hz : z = i) (hi : i < n) (hn : n ≤ 1048576) (hcap : n ≤ cp) (hl : Lies w bp n g) (hg : ∀ j, 0 ≤ g j ∧ g j < 256) (hM : w.cell? ⟨2, 0, none⟩ = some (.int .i64 mx))
    (hbp : bp < b) (hb : b < w.heap.size) (h2b : 2 < b)
    (c4 : ∃ v, w.cell? ⟨b, 4, none⟩ = some v) (c12 : w.cell? ⟨b, 12, none⟩ = some (.int .i64 0)) (hf : ∀ o, w.frozen? ⟨b, o, none⟩ = false) :
    Calls Tryf.prog 17 #[.pointer (some ⟨b, 0, none⟩), .slice (some ⟨bp, 0, none⟩) n cp, .int .i64 z] w fun e w' =>
      ((e = .returned (.tuple #[.int .i64 n, .bool false]) ∧ nul g n i = -1) ∨ ∃ j : Nat, e = .returned (.tuple #[.int .i64 j, .bool true]) ∧ nul g n i = (j : Int) ∧ i + 2 ≤ j ∧ j ≤ n ∧ w'.cell? ⟨b, 12, none⟩ = some (.int .i64 0)) ∧ Kept b w w' := by
  subst hz
  obtain ⟨v4, c4⟩ := c4
  have i1 : (0 : Int) ≤ (i : Int) := by omega
  have i2 : (i : Int) ≤ (n : Int) := by omega
  have hX := indexNul_c bp i (n - i) (cp - i) g mx w (by omega) (by omega) (fun j hj => hl (i + j) (by omega)) hg hM
  rw [show i + (n - i) = n by omega] at hX
  have HX := Lib.hid hX
  have hlast := hl (n - 1) (by omega)
  clear hX
  have HL := Lib.hid hl
  clear hl
  go_enter Tryf.func17, Tryf.ntmps17
  go_wp2_with (go_at_call 23; refine (HX.out).mono ?_)
  rintro e w' ⟨h | ⟨j, rfl, h1, h2⟩, hb1⟩
  · obtain ⟨rfl, h1⟩ := h
    have H1 := Lib.hid h1
    clear h1
    have k4 : w'.cell? ⟨b, 4, none⟩ = some v4 := (hb1.cell (p := ⟨b, 4, none⟩) hb).trans c4
    have k12 : w'.cell? ⟨b, 12, none⟩ = some (.int .i64 0) := (hb1.cell (p := ⟨b, 12, none⟩) hb).trans c12
    have kf : ∀ o, w'.frozen? ⟨b, o, none⟩ = false := fun o => (hb1.frozen (p := ⟨b, o, none⟩) hb).trans (hf o)
    have klast : w'.cell? ⟨bp, n - 1, none⟩ = some (.int .u8 (g (n - 1))) := (hb1.cell (p := ⟨bp, n - 1, none⟩) (show bp < w.heap.size by omega)).trans hlast
    by_cases hodd : (n - i) % 2 = 1
    · have t0 : (((n : Int) - (i : Int)) % 2 == 1) = true := by rw [beq_iff_eq]; omega
      have j1 : (0 : Int) ≤ (n : Int) - 1 := by omega
      have j2 : (n : Int) - 1 < (n : Int) := by omega
      go_wp2
      go_region
      go_wp2
      go_ret2
      refine ⟨Or.inl ⟨rfl, H1.out⟩, ?_⟩
      first | exact (((Kept.of_below hb1 hb).set 4 (by omega) _).set 12 (by omega) _).drew | exact (((Kept.of_below hb1 hb).set 12 (by omega) _).set 4 (by omega) _).drew
    · have t0 : (((n : Int) - (i : Int)) % 2 == 1) = false := by rw [beq_eq_false_iff_ne]; omega
      go_wp2
      go_ret2
      exact ⟨Or.inl ⟨rfl, H1.out⟩, Kept.of_below hb1 hb⟩
  · have H1 := Lib.hid h1
    clear h1
    have k12 : w'.cell? ⟨b, 12, none⟩ = some (.int .i64 0) := (hb1.cell (p := ⟨b, 12, none⟩) hb).trans c12
    go_wp2
    go_ret2
    exact ⟨Or.inr ⟨i + j + 2, by simp, H1.out, by omega, by omega, k12⟩, Kept.of_below hb1 hb⟩

/-- (*polScanner).fixed, nothing held, the field whole in p. -/
theorem fixed_yes (b bp n cp i m : Nat) (z mz : Int) (w : World) (hz : z = i) (hmz : mz = m) (hm : i + m ≤ n) (hn : n ≤ 1048576) (hcap : n ≤ cp) (hm0 : 0 < m) (hm8 : m ≤ 8)
    (c12 : w.cell? ⟨b, 12, none⟩ = some (.int .i64 0)) :
    Calls Tryf.prog 18 #[.pointer (some ⟨b, 0, none⟩), .slice (some ⟨bp, 0, none⟩) n cp, .int .i64 z, .int .i64 mz] w fun e w' =>
      e = .returned (.tuple #[.slice (some ⟨bp, i, none⟩) m (cp - i), .int .i64 ((i + m : Nat) : Int), .bool true]) ∧ w = w' := by
  subst hz hmz
  have i0 : (m : Int) ≤ (n : Int) - (i : Int) := by omega
  have i1 : (0 : Int) ≤ (i : Int) := by omega
  have i2 : (i : Int) ≤ (i : Int) + (m : Int) := by omega
  have i3 : (i : Int) + (m : Int) ≤ (cp : Int) := by omega
  have i4 : i < cp := by omega
  have i5 : cp - i ≠ 0 := by omega
  go_enter Tryf.func18, Tryf.ntmps18
  go_wp2
  go_ret3
  refine ⟨?_, rfl⟩
  show Ending.returned (.tuple #[.slice (some ⟨bp, i, none⟩) (i + m - i) (cp - i), .int .i64 ((i : Int) + (m : Int)), .bool true]) = _
  rw [show i + m - i = m by omega, show (i : Int) + (m : Int) = ((i + m : Nat) : Int) by omega]

theorem info5 : (Tryf.prog.info? 5).map (·.size) = some 1 := by kernel_rfl

theorem below_setCells {B b : Nat} (hb : B ≤ b) : ∀ (vs : List Value) (o : Nat) (w w1 : World), Below B w w1 → Below B w (w1.setCells b o vs)
  | [], _, _, _, h => h
  | v :: r, o, w, w1, h => by
    rw [World.setCells]
    exact below_setCells hb r (o + 1) w _ (h.setCell hb v)

theorem size_setCells (b : Nat) : ∀ (vs : List Value) (o : Nat) (w : World), (w.setCells b o vs).heap.size = w.heap.size
  | [], _, _ => rfl
  | v :: r, o, w => by
    rw [World.setCells, size_setCells b r]
    simp

/-- copy(s.held[..], p[i:]) of k bytes. -/
theorem held_copy (b bp n i k : Nat) (g : Nat → Int) (w : World) (hk : k ≤ 8) (hik : i + k ≤ n) (hl : Lies w bp n g)
    (hh : ∀ o, 4 ≤ o → o ≤ 11 → (w.cell? ⟨b, o, none⟩).isSome = true) (hf : ∀ o, w.frozen? ⟨b, o, none⟩ = false) :
    ∃ W2, (∀ dLen dCap sLen sCap, Nat.min sLen dLen = k → (Builtin.copy_ #[22, 22] 3 #[.slice (some ⟨b, 4, none⟩) dLen dCap, .slice (some ⟨bp, i, none⟩) sLen sCap]).run Tryf.prog w = .ok (.int .i64 (k : Int)) W2) ∧
      Kept b w W2 ∧ W2.cell? ⟨b, 12, none⟩ = w.cell? ⟨b, 12, none⟩ ∧ (∀ j, j < k → W2.cell? ⟨b, 4 + j, none⟩ = some (.int .u8 (g (i + j)))) ∧ ∀ o, 4 ≤ o → o ≤ 11 → (W2.cell? ⟨b, o, none⟩).isSome = true := by
  have hlen : ((List.range k).map fun j => Value.int .u8 (g (i + j))).length = k := by simp
  have hin : ∀ j, j < k → (w.setCells b 4 ((List.range k).map fun j => Value.int .u8 (g (i + j)))).cell? ⟨b, 4 + j, none⟩ = some (.int .u8 (g (i + j))) := by
    intro j hj
    have := World.cell?_setCells_in b ((List.range k).map fun j => Value.int .u8 (g (i + j))) 4 w (fun j hj => hh _ (by omega) (by rw [hlen] at hj; omega)) j (by rw [hlen]; exact hj)
    rw [this]
    simp
  have hout : ∀ o, o < 4 ∨ 4 + k ≤ o → (w.setCells b 4 ((List.range k).map fun j => Value.int .u8 (g (i + j)))).cell? ⟨b, o, none⟩ = w.cell? ⟨b, o, none⟩ := fun o ho =>
    World.cell?_setCells_out b _ 4 w ⟨b, o, none⟩ (fun _ _ => by rw [hlen]; exact ho)
  refine ⟨w.setCells b 4 ((List.range k).map fun j => Value.int .u8 (g (i + j))), ?_, ⟨below_setCells (Nat.le_refl _) _ _ _ _ (Below.refl _ _), fun o ho => hout o (by omega), fun o => World.frozen?_setCells b _ 4 w _, by rw [size_setCells]; exact Nat.le_refl _, ?_⟩, hout 12 (by omega), hin, ?_⟩
  rotate_left
  · intro o ho
    by_cases h : 4 ≤ o ∧ o < 4 + k
    · obtain ⟨j, rfl⟩ : ∃ j, o = 4 + j := ⟨o - 4, by omega⟩
      rw [hin j (by omega)]
      rfl
    · rw [hout o (by omega)]
      exact ho
  rotate_left
  · intro dLen dCap sLen sCap hmin
    have h := run_copy_cells (P := Tryf.prog) w 22 22 3 5 b 4 dLen dCap ⟨bp, i, none⟩ sLen sCap ((List.range k).map fun j => Value.int .u8 (g (i + j))) Tryf.underlying22 info5 (by rw [hlen, hmin])
      (fun j v hj => by
        rw [addr_add]
        simp at hj
        obtain ⟨x, hx, rfl⟩ := hj
        obtain ⟨hlt, hx'⟩ := List.getElem?_eq_some_iff.1 hx
        simp at hlt hx'
        subst hx'
        exact hl (i + j) (by omega))
      (fun j hj => hh _ (by omega) (by rw [hlen] at hj; omega)) (fun j _ => hf _) (fun v hv => by
        obtain ⟨j, _, rfl⟩ := List.mem_map.1 hv
        rfl)
    rw [hlen] at h
    exact h
  · intro o h1 h2
    by_cases h : o < 4 + k
    · obtain ⟨j, rfl⟩ : ∃ j, o = 4 + j := ⟨o - 4, by omega⟩
      rw [hin j (by omega)]
      rfl
    · rw [hout o (by omega)]
      exact hh o h1 h2

set_option maxHeartbeats 2000000 in
/-- (*polScanner).fixed, nothing held, p ends inside the field. -/
theorem fixed_no (b bp n cp i m : Nat) (z mz : Int) (g : Nat → Int) (w : World) (hz : z = i) (hmz : mz = m) (hi : i < n) (hm : n < i + m) (hn : n ≤ 1048576) (hcap : n ≤ cp) (hm8 : m ≤ 8) (hl : Lies w bp n g) (hb : b < w.heap.size)
    (c12 : w.cell? ⟨b, 12, none⟩ = some (.int .i64 0)) (hh : ∀ o, 4 ≤ o → o ≤ 11 → (w.cell? ⟨b, o, none⟩).isSome = true) (hf : ∀ o, w.frozen? ⟨b, o, none⟩ = false) :
    Calls Tryf.prog 18 #[.pointer (some ⟨b, 0, none⟩), .slice (some ⟨bp, 0, none⟩) n cp, .int .i64 z, .int .i64 mz] w fun e w' =>
      e = .returned (.tuple #[.slice none 0 0, .int .i64 n, .bool false]) ∧ Kept b w w' ∧ w'.cell? ⟨b, 12, none⟩ = some (.int .i64 ((n - i : Nat) : Int)) := by
  subst hz hmz
  have i0 : ¬ (m : Int) ≤ (n : Int) - (i : Int) := by omega
  have i1 : (0 : Int) ≤ (i : Int) := by omega
  have i2 : (i : Int) ≤ (n : Int) := by omega
  have i3 : (0 : Int) ≤ (m : Int) := by omega
  have i4 : (m : Int) ≤ 8 := by omega
  have i5 : ((n - i : Nat) : Int) < (m : Int) := by omega
  obtain ⟨W2, hcp, hK, h12, _, _⟩ := held_copy b bp n i (n - i) g w.drew (by omega) (by omega) hl hh hf
  have hcp' := hcp m 8 (n - i) (cp - i) (by show min (n - i) m = n - i; omega)
  have h12' : W2.cell? ⟨b, 12, none⟩ = some (.int .i64 0) := h12.trans c12
  have hf2 : ∀ o, W2.frozen? ⟨b, o, none⟩ = false := fun o => (hK.marks o).trans (hf o)
  clear hcp h12 hl hh
  go_enter Tryf.func18, Tryf.ntmps18
  go_wp2
  go_region
  go_wp2
  go_ret3
  exact ⟨rfl, hK.undrew.set 12 (by omega) _, World.cell?_setCell_same (h := h12') ..⟩
end Go.Proofs.Qxb6612846aFmt
