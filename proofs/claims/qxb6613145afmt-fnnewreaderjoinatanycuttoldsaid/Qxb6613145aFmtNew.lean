/- Seat b6613145aF: ZZnewReaderOfString. -/
import Derived.Test.Qxb6613145aFmtSteps
namespace Go.Proofs.Qxb6613145aFmt
open Go.RowKit
set_option linter.unusedVariables false

theorem cell_new (w : World) (A : Array Value) (t : TypeId) (j : Nat) : (w.alloc (.cells A t)).cell? ⟨w.heap.size, j, none⟩ = A[j]? := by
  unfold World.cell?
  rw [heap_alloc_new]
  rfl

/-- strings.NewReader. -/
theorem reader_c (S : ByteArray) (w : World) : Calls Tryf.prog 24 #[.string S] w fun e w' => e = .returned (.pointer (some ⟨w.heap.size, 0, none⟩)) ∧ w' = w.alloc (.cells #[.string S, .int .i64 0, .int .i64 (-1)] 60) := by
  go_enter Tryf.func24, Tryf.ntmps24
  go_wp2
  go_ret
  exact ⟨rfl, rfl⟩

/-- bufio.NewScanner. -/
theorem scanner_c (R : Nat) (w : World) : Calls Tryf.prog 32 #[.iface 43 (.pointer (some ⟨R, 0, none⟩))] w fun e w' => e = .returned (.pointer (some ⟨w.heap.size, 0, none⟩)) ∧
    w' = w.alloc (.cells #[.iface 43 (.pointer (some ⟨R, 0, none⟩)), .func (.func 39) #[] #[], .int .i64 65536, .slice none 0 0, .slice none 0 0, .int .i64 0, .int .i64 0, .nilIface, .int .i64 0, .bool false, .bool false] 67) := by
  go_enter Tryf.func32, Tryf.ntmps32
  go_wp2
  go_ret
  exact ⟨rfl, rfl⟩

/-- sc.Buffer(nil, Max). -/
theorem buffer_c (B : Nat) (v2 v4 : Value) (w : World) (c2 : w.cell? ⟨B, 2, none⟩ = some v2) (c4 : w.cell? ⟨B, 4, none⟩ = some v4) (c9 : w.cell? ⟨B, 9, none⟩ = some (.bool false)) (fB : ∀ o, w.frozen? ⟨B, o, none⟩ = false) :
    Calls Tryf.prog 33 #[.pointer (some ⟨B, 0, none⟩), .slice none 0 0, .int .i64 1048576] w fun e w' => e = .returned (.tuple #[]) ∧ w' = (w.setCell ⟨B, 4, none⟩ (.slice none 0 0)).setCell ⟨B, 2, none⟩ (.int .i64 1048576) := by
  go_enter Tryf.func33, Tryf.ntmps33
  go_wp2
  go_end0
  exact ⟨rfl, rfl⟩

/-- A lines.Reader in block L over that Scanner; 'cnt' lines have been given out. -/
structure Rd (L B R K : Nat) (S : ByteArray) (w : World) (pos i st en m cnt : Nat) (err : Value) : Prop where
  sc : Sc B R K S w pos i st en m err
  lB : L ≠ B
  lR : L ≠ R
  lK : 0 < m → L ≠ K
  l6 : 6 < L
  rL : L < w.heap.size
  l0 : w.cell? ⟨L, 0, none⟩ = some (.pointer (some ⟨B, 0, none⟩))
  l1 : w.cell? ⟨L, 1, none⟩ = some (.int .i64 (cnt : Int))
  l2 : w.cell? ⟨L, 2, none⟩ = some .nilIface
  fL : ∀ o, w.frozen? ⟨L, o, none⟩ = false

def scBlock (R : Nat) : Array Value := #[.iface 43 (.pointer (some ⟨R, 0, none⟩)), .func (.func 39) #[] #[], .int .i64 65536, .slice none 0 0, .slice none 0 0, .int .i64 0, .int .i64 0, .nilIface, .int .i64 0, .bool false, .bool false]

def scBlock2 (R : Nat) : Array Value := #[.iface 43 (.pointer (some ⟨R, 0, none⟩)), .func (.func 39) #[] #[], .int .i64 1048576, .slice none 0 0, .slice none 0 0, .int .i64 0, .int .i64 0, .nilIface, .int .i64 0, .bool false, .bool false]

/-- The world that the three new blocks make. -/
def made (S : ByteArray) (w : World) : World :=
  ((w.alloc (.cells #[.string S, .int .i64 0, .int .i64 (-1)] 60)).alloc (.cells (scBlock2 w.heap.size) 67)).alloc (.cells #[.pointer (some ⟨w.heap.size + 1, 0, none⟩), .int .i64 0, .nilIface] 48)

theorem made_cells (S : ByteArray) (w : World) : (∀ o, (made S w).cell? ⟨w.heap.size, o, none⟩ = (#[.string S, .int .i64 0, .int .i64 (-1)] : Array Value)[o]?) ∧ (∀ o, (made S w).cell? ⟨w.heap.size + 1, o, none⟩ = (scBlock2 w.heap.size)[o]?) ∧
    (∀ o, (made S w).cell? ⟨w.heap.size + 2, o, none⟩ = (#[.pointer (some ⟨w.heap.size + 1, 0, none⟩), .int .i64 0, .nilIface] : Array Value)[o]?) ∧ (made S w).heap.size = w.heap.size + 3 ∧ Below w.heap.size w (made S w) ∧
    (∀ k o, w.heap.size ≤ k → (made S w).frozen? ⟨k, o, none⟩ = false) := by
  have s1 : (w.alloc (.cells #[.string S, .int .i64 0, .int .i64 (-1)] 60)).heap.size = w.heap.size + 1 := World.size_alloc _ _
  have s2 : ((w.alloc (.cells #[.string S, .int .i64 0, .int .i64 (-1)] 60)).alloc (.cells (scBlock2 w.heap.size) 67)).heap.size = w.heap.size + 2 := by rw [World.size_alloc, s1]
  have s3 : (made S w).heap.size = w.heap.size + 3 := by unfold made; rw [World.size_alloc, s2]
  have hb2 : Below (w.heap.size + 2) ((w.alloc (.cells #[.string S, .int .i64 0, .int .i64 (-1)] 60)).alloc (.cells (scBlock2 w.heap.size) 67)) (made S w) := (Below.refl _ _).alloc (by omega) _
  have hb1 : Below (w.heap.size + 1) (w.alloc (.cells #[.string S, .int .i64 0, .int .i64 (-1)] 60)) ((w.alloc (.cells #[.string S, .int .i64 0, .int .i64 (-1)] 60)).alloc (.cells (scBlock2 w.heap.size) 67)) := (Below.refl _ _).alloc (by omega) _
  have hb0 : Below w.heap.size w (w.alloc (.cells #[.string S, .int .i64 0, .int .i64 (-1)] 60)) := (Below.refl _ _).alloc (Nat.le_refl _) _
  refine ⟨fun o => ?_, fun o => ?_, fun o => ?_, s3, (hb0.trans (hb1.mono (by omega))).trans (hb2.mono (by omega)), fun k o hk => ?_⟩
  · rw [hb2.cell (p := ⟨w.heap.size, o, none⟩) (show w.heap.size < _ by omega), hb1.cell (p := ⟨w.heap.size, o, none⟩) (show w.heap.size < _ by omega)]
    exact cell_new _ _ _ _
  · rw [hb2.cell (p := ⟨w.heap.size + 1, o, none⟩) (show w.heap.size + 1 < _ by omega)]
    have := cell_new (w.alloc (.cells #[.string S, .int .i64 0, .int .i64 (-1)] 60)) (scBlock2 w.heap.size) 67 o
    rw [s1] at this
    exact this
  · have := cell_new ((w.alloc (.cells #[.string S, .int .i64 0, .int .i64 (-1)] 60)).alloc (.cells (scBlock2 w.heap.size) 67)) #[.pointer (some ⟨w.heap.size + 1, 0, none⟩), .int .i64 0, .nilIface] 48 o
    rw [s2] at this
    exact this
  · unfold made
    rw [frozen?_alloc_cells, frozen?_alloc_cells, frozen?_alloc_cells]
    unfold World.frozen?
    rw [Array.getElem?_eq_none (by exact hk)]

theorem made_rd (S : ByteArray) (w : World) (hw : 6 < w.heap.size) (hS : S.size ≤ 140000) : Rd (w.heap.size + 2) (w.heap.size + 1) w.heap.size (w.heap.size + 3) S (made S w) 0 0 0 0 0 0 .nilIface := by
  obtain ⟨hR, hB, hL, hs, hb, hf⟩ := made_cells S w
  exact {
    sc := {
      bR := by omega
      b6 := by omega
      r6 := hw
      k6 := fun h => by omega
      rB := by omega
      rR := by omega
      bK := fun h => by omega
      c0 := hB 0
      c1 := hB 1
      c2 := hB 2
      c3 := ⟨_, hB 3⟩
      c4 := hB 4
      c5 := hB 5
      c6 := hB 6
      c7 := hB 7
      c8 := ⟨_, hB 8⟩
      c9 := ⟨_, hB 9⟩
      c10 := hB 10
      fB := fun o => hf _ o (by omega)
      r0 := hR 0
      r1 := hR 1
      r2 := ⟨_, hR 2⟩
      fR := fun o => hf _ o (Nat.le_refl _)
      room := fun o ho => by omega
      fK := fun h => by omega
      lies := fun j hj => by omega
      ord := ⟨Nat.le_refl _, Nat.le_refl _, by omega⟩
      at_ := rfl
      inS := Nat.zero_le _
      small := hS }
    lB := by omega
    lR := by omega
    lK := fun h => by omega
    l6 := by omega
    rL := by omega
    l0 := hL 0
    l1 := hL 1
    l2 := hL 2
    fL := fun o => hf _ o (by omega) }

set_option maxHeartbeats 1000000 in
theorem newReader_c (S : ByteArray) (w : World) : Calls Tryf.prog 19 #[.string S] w fun e w' => e = .returned (.pointer (some ⟨w.heap.size + 2, 0, none⟩)) ∧ w' = made S w := by
  have h1 := Lib.hid (reader_c S w)
  have h2 := Lib.hid (scanner_c w.heap.size (w.alloc (.cells #[.string S, .int .i64 0, .int .i64 (-1)] 60)))
  have hc : ∀ o, ((w.alloc (.cells #[.string S, .int .i64 0, .int .i64 (-1)] 60)).alloc (.cells (scBlock w.heap.size) 67)).cell? ⟨w.heap.size + 1, o, none⟩ = (scBlock w.heap.size)[o]? := fun o => by
    have := cell_new (w.alloc (.cells #[.string S, .int .i64 0, .int .i64 (-1)] 60)) (scBlock w.heap.size) 67 o
    rw [World.size_alloc] at this
    exact this
  have h3 := Lib.hid (buffer_c (w.heap.size + 1) (.int .i64 65536) (.slice none 0 0) ((w.alloc (.cells #[.string S, .int .i64 0, .int .i64 (-1)] 60)).alloc (.cells (scBlock w.heap.size) 67)) (hc 2) (hc 4) (hc 9) (fun o => World.frozen?_alloc2_new _ _ _ _))
  clear hc
  go_enter Tryf.func19, Tryf.ntmps19
  go_wp2_with (first | (go_at_call 24; refine (h1.out).mono ?_; rintro e w1 ⟨rfl, rfl⟩) | (go_at_call 32; refine (h2.out).mono ?_; rintro e w1 ⟨rfl, rfl⟩) | (go_at_call 33; refine (h3.out).mono ?_; rintro e w1 ⟨rfl, rfl⟩) | go_in)
  go_ret
  refine ⟨by simp, ?_⟩
  rfl
end Go.Proofs.Qxb6613145aFmt
