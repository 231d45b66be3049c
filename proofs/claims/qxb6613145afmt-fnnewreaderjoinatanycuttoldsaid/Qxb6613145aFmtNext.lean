/- Seat b6613145aF: (*lines.Reader).Next and Err. -/
import Derived.Test.Qxb6613145aFmtNew
namespace Go.Proofs.Qxb6613145aFmt
open Go.RowKit
set_option linter.unusedVariables false

theorem text_same (B K o n c : Nat) (h : Nat → Int) (w : World) (c3 : w.cell? ⟨B, 3, none⟩ = some (.slice (some ⟨K, o, none⟩) n c)) (hl : Lies w K o n h) :
    Calls Tryf.prog 31 #[.pointer (some ⟨B, 0, none⟩)] w fun e w' => e = .returned (.string (strOfNums (row h n))) ∧ w' = w := by
  have hcv := run_convert_bytes_arg (P := Tryf.prog) w 65 5 Tryf.underlying65 Tryf.underlying5 K o n c (row h n) (row_length _ _) (fun i hi => by rw [row_getD _ _ _ hi]; exact hl i hi) 9 Tryf.underlying9
  clear hl
  go_enter Tryf.func31, Tryf.ntmps31
  go_wp2
  go_ret
  exact ⟨rfl, rfl⟩

theorem nil_eql (b : Addr) (w : World) : (binOp .eql 32 .nilIface (.iface 54 (.pointer (some b)))).run Tryf.prog w = .ok (.bool false) w := run_eql_iface_nil_left w 54 _ Tryf.underlying32

theorem is_c (b : Addr) (w : World) : Calls Tryf.prog 28 #[.nilIface, .iface 54 (.pointer (some b))] w fun e w' => e = .returned (.bool false) ∧ w = w' := by
  have hn := nil_eql b
  go_enter Tryf.func28, Tryf.ntmps28
  go_wp2
  go_ret
  exact ⟨rfl, rfl⟩

/-- (*lines.Reader).Err. -/
theorem rerr_c (L : Nat) (v : Value) (w : World) (l2 : w.cell? ⟨L, 2, none⟩ = some .nilIface) : Calls Tryf.prog 21 #[.pointer (some ⟨L, 0, none⟩)] w fun e w' => e = .returned .nilIface ∧ w = w' := by
  go_enter Tryf.func21, Tryf.ntmps21
  go_wp2
  go_ret
  exact ⟨rfl, rfl⟩

/-- Next at the end. -/
theorem next_false (L B R K : Nat) (S : ByteArray) (i st en m cnt : Nat) (err : Value) (b b0 : Addr) (w : World) (H : Rd L B R K S w S.size i st en m cnt err) (g4 : w.cell? ⟨4, 0, none⟩ = some (.iface 54 (.pointer (some b)))) (g0 : w.cell? ⟨0, 0, none⟩ = some (.iface 54 (.pointer (some b0))))
    (hsc : Calls Tryf.prog 26 #[.pointer (some ⟨B, 0, none⟩)] w fun e w' => Scanned B R K m S S.size (.iface 54 (.pointer (some b))) w e w') :
    Calls Tryf.prog 20 #[.pointer (some ⟨L, 0, none⟩)] w fun e w' => e = .returned (.tuple #[.int .i64 0, .string ⟨#[]⟩, .bool false]) ∧
      ∃ K' i' st' en' m', (K' = K ∧ 0 < m ∨ w.heap.size ≤ K') ∧ Apart (Mine B R K m) w w' ∧ i' = S.size ∧ Rd L B R K' S w' S.size i' st' en' m' cnt (.iface 54 (.pointer (some b))) := by
  have l0 := H.l0
  have HSC := Lib.hid hsc
  have HH := Lib.hid H
  clear hsc H
  go_enter Tryf.func20, Tryf.ntmps20
  go_wp2_with (go_at_call 26; fail)
  refine (HSC.out).mono ?_
  rintro e w1 ⟨K1, i1, st1, en1, m1, err1, hK, hA, herr, ⟨_, rfl, rfl, hS⟩ | ⟨hlt, _⟩⟩
  · have H := HH.out
    have hmine : ∀ k, k ≤ 6 → ¬ Mine B R K m k := fun k hk => by
      have := H.sc.b6; have := H.sc.r6; have := H.sc.k6
      unfold Mine
      omega
    have hLm : ¬ Mine B R K m L := by
      have h1 := H.lB; have h2 := H.lR; have h3 := H.lK
      unfold Mine
      omega
    have h6 : 6 < w.heap.size := Nat.lt_trans H.l6 H.rL
    have g4' : w1.cell? ⟨4, 0, none⟩ = some (.iface 54 (.pointer (some b))) := (hA.cell (p := ⟨4, 0, none⟩) (show 4 < w.heap.size by omega) (hmine 4 (by omega))).trans g4
    have g0' : w1.cell? ⟨0, 0, none⟩ = some (.iface 54 (.pointer (some b0))) := (hA.cell (p := ⟨0, 0, none⟩) (show 0 < w.heap.size by omega) (hmine 0 (by omega))).trans g0
    have l0' : w1.cell? ⟨L, 0, none⟩ = some (.pointer (some ⟨B, 0, none⟩)) := (hA.cell (p := ⟨L, 0, none⟩) H.rL hLm).trans l0
    have c7 := hS.c7
    have hi1 : i1 = S.size := by rcases herr with h | h; cases h; exact h.2
    have hR1 : Hid (Rd L B R K1 S w1 S.size i1 st1 en1 m1 cnt (.iface 54 (.pointer (some b)))) := Lib.hid {
      sc := hS
      lB := H.lB
      lR := H.lR
      lK := fun hm => by rcases hK with ⟨rfl, h⟩ | h; exact H.lK h; have := H.rL; omega
      l6 := H.l6
      rL := Nat.lt_of_lt_of_le H.rL hA.size
      l0 := l0'
      l1 := (hA.cell (p := ⟨L, 1, none⟩) H.rL hLm).trans H.l1
      l2 := (hA.cell (p := ⟨L, 2, none⟩) H.rL hLm).trans H.l2
      fL := fun o => (hA.frozen (p := ⟨L, o, none⟩) H.rL hLm).trans (H.fL o) }
    have HE := Lib.hid (err_c B b w1 c7 g4')
    have HI := Lib.hid (fun q => is_c b0 (w1.drewN q))
    clear H hS HSC HH c7 hmine hLm
    go_wp2_with (first | (go_at_call 27; refine (HE.out).mono ?_; rintro e w2 ⟨rfl, q2, rfl⟩) | (go_at_call 28; refine (HI.out _).mono ?_; rintro e w2 ⟨rfl, rfl⟩))
    go_ret3
    refine ⟨rfl, K1, i1, st1, en1, m1, hK, hA.drewN q2, hi1, ?_⟩
    have h := hR1.out
    exact { h with sc := h.sc.draws q2 }
  · omega

theorem line_text (S : ByteArray) (pos : Nat) (h : pos < S.size) : strOfNums (row (fun j => gB S (pos + j)) (crop (gB S) pos (lend S pos) - pos)) = lineAt S pos := by
  have h1 := lend_is S pos (by omega)
  have h2 := crop_le (gB S) pos (lend S pos)
  have h3 := le_crop (gB S) pos (lend S pos) h1.1
  have := h1.2.1
  have e := nums_extract S pos (crop (gB S) pos (lend S pos) - pos) (by omega)
  rw [show pos + (crop (gB S) pos (lend S pos) - pos) = crop (gB S) pos (lend S pos) by omega] at e
  exact e

/-- Next gives a line. -/
theorem next_true (L B R K : Nat) (S : ByteArray) (pos i st en m cnt : Nat) (err : Value) (b : Addr) (w : World) (hpos : pos < S.size) (hcnt : cnt ≤ S.size) (H : Rd L B R K S w pos i st en m cnt err)
    (hsc : Calls Tryf.prog 26 #[.pointer (some ⟨B, 0, none⟩)] w fun e w' => Scanned B R K m S pos (.iface 54 (.pointer (some b))) w e w') :
    Calls Tryf.prog 20 #[.pointer (some ⟨L, 0, none⟩)] w fun e w' => e = .returned (.tuple #[.int .i64 ((cnt + 1 : Nat) : Int), .string (lineAt S pos), .bool true]) ∧
      ∃ K' i' st' en' m' err', (K' = K ∧ 0 < m ∨ w.heap.size ≤ K') ∧ Apart (fun k => Mine B R K m k ∨ k = L) w w' ∧ (err' = .nilIface ∨ (err' = .iface 54 (.pointer (some b)) ∧ i' = S.size)) ∧ Rd L B R K' S w' (after S pos) i' st' en' m' (cnt + 1) err' := by
  have l0 := H.l0
  have hsm := H.sc.small
  have HSC := Lib.hid hsc
  have HH := Lib.hid H
  clear hsc H
  go_enter Tryf.func20, Tryf.ntmps20
  go_wp2_with (go_at_call 26; fail)
  refine (HSC.out).mono ?_
  rintro e w1 ⟨K1, i1, st1, en1, m1, err1, hK, hA, herr, ⟨he, _⟩ | ⟨_, rfl, hm1, hS, o, c, ht, hl⟩⟩
  · omega
  · have H := HH.out
    have hLm : ¬ Mine B R K m L := by
      have h1 := H.lB; have h2 := H.lR; have h3 := H.lK
      unfold Mine
      omega
    have hLK : 0 < m1 → L ≠ K1 := fun hm => by rcases hK with ⟨rfl, h⟩ | h; exact H.lK h; have := H.rL; omega
    have l0' : w1.cell? ⟨L, 0, none⟩ = some (.pointer (some ⟨B, 0, none⟩)) := (hA.cell (p := ⟨L, 0, none⟩) H.rL hLm).trans l0
    have l1' : w1.cell? ⟨L, 1, none⟩ = some (.int .i64 (cnt : Int)) := (hA.cell (p := ⟨L, 1, none⟩) H.rL hLm).trans H.l1
    have l2' := (hA.cell (p := ⟨L, 2, none⟩) H.rL hLm).trans H.l2
    have fL' : ∀ o, w1.frozen? ⟨L, o, none⟩ = false := fun o => (hA.frozen (p := ⟨L, o, none⟩) H.rL hLm).trans (H.fL o)
    have hoB : ∀ (v : Value) k, (w1.setCell ⟨L, 1, none⟩ v).cell? ⟨B, k, none⟩ = w1.cell? ⟨B, k, none⟩ := fun v k => World.cell?_setCell_other (h := fun x => by have := congrArg Addr.block x; simp at this; exact H.lB this) ..
    have hoR : ∀ (v : Value) k, (w1.setCell ⟨L, 1, none⟩ v).cell? ⟨R, k, none⟩ = w1.cell? ⟨R, k, none⟩ := fun v k => World.cell?_setCell_other (h := fun x => by have := congrArg Addr.block x; simp at this; exact H.lR this) ..
    have hoK : ∀ (v : Value) k, (w1.setCell ⟨L, 1, none⟩ v).cell? ⟨K1, k, none⟩ = w1.cell? ⟨K1, k, none⟩ := fun v k => World.cell?_setCell_other (h := fun x => by have := congrArg Addr.block x; simp at this; exact hLK hm1 this) ..
    have HT : Hid (∀ q, Calls Tryf.prog 31 #[.pointer (some ⟨B, 0, none⟩)] ((w1.setCell ⟨L, 1, none⟩ (.int .i64 ((cnt : Int) + 1))).drewN q) fun e w' => e = .returned (.string (lineAt S pos)) ∧ w' = (w1.setCell ⟨L, 1, none⟩ (.int .i64 ((cnt : Int) + 1))).drewN q) := Lib.hid (fun q => by
      rw [← line_text S pos hpos]
      exact text_same B K1 o _ c (fun j => gB S (pos + j)) _ ((hoB _ 3).trans ht) (fun j hj => (hoK _ (o + j)).trans (hl j hj)))
    have HR : Hid (Rd L B R K1 S (w1.setCell ⟨L, 1, none⟩ (.int .i64 ((cnt + 1 : Nat) : Int))) (after S pos) i1 st1 en1 m1 (cnt + 1) err1) := Lib.hid {
      sc := { hS with
        rB := by have := hS.rB; simpa [World.setCell] using this
        rR := by have := hS.rR; simpa [World.setCell] using this
        bK := fun hm => ⟨(hS.bK hm).1, (hS.bK hm).2.1, by have := (hS.bK hm).2.2; simpa [World.setCell] using this⟩
        c0 := (hoB _ 0).trans hS.c0
        c1 := (hoB _ 1).trans hS.c1
        c2 := (hoB _ 2).trans hS.c2
        c3 := by rw [hoB]; exact hS.c3
        c4 := (hoB _ 4).trans hS.c4
        c5 := (hoB _ 5).trans hS.c5
        c6 := (hoB _ 6).trans hS.c6
        c7 := (hoB _ 7).trans hS.c7
        c8 := by rw [hoB]; exact hS.c8
        c9 := by rw [hoB]; exact hS.c9
        c10 := (hoB _ 10).trans hS.c10
        fB := fun k => by rw [World.frozen?_setCell]; exact hS.fB k
        r0 := (hoR _ 0).trans hS.r0
        r1 := (hoR _ 1).trans hS.r1
        r2 := by rw [hoR]; exact hS.r2
        fR := fun k => by rw [World.frozen?_setCell]; exact hS.fR k
        room := fun k hk => by rw [hoK]; exact hS.room k hk
        fK := fun hm k => by rw [World.frozen?_setCell]; exact hS.fK hm k
        lies := fun j hj => by rw [hoK]; exact hS.lies j hj }
      lB := H.lB
      lR := H.lR
      lK := hLK
      l6 := H.l6
      rL := by have := Nat.lt_of_lt_of_le H.rL hA.size; simpa [World.setCell] using this
      l0 := (World.cell?_setCell_other (h := fun x => by have := congrArg Addr.off x; simp at this) ..).trans l0'
      l1 := World.cell?_setCell_same (h := l1') ..
      l2 := (World.cell?_setCell_other (h := fun x => by have := congrArg Addr.off x; simp at this) ..).trans l2'
      fL := fun k => by rw [World.frozen?_setCell]; exact fL' k }
    clear H hS HSC HH hoB hoR hoK hl ht l2'
    go_wp2
    go_quiet (first | (go_at_call 31; refine (HT.out _).mono (fun r w' h => ⟨h.1, _, h.2⟩)))
    go_wp2
    go_ret3
    refine ⟨by simp, K1, i1, st1, en1, m1, err1, hK, ?_, herr, ?_⟩
    · exact ((hA.weaken (M' := fun k => Mine B R K m k ∨ k = L) (fun k _ h => Or.inl h)).setCell (p := ⟨L, 1, none⟩) (Or.inl (Or.inr rfl)) _).drewN _
    · have h := HR.out
      exact { h with sc := h.sc.draws _ }
end Go.Proofs.Qxb6613145aFmt
