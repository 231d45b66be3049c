/- Seat b6612846aF: (*polScanner).scan, handed the whole file. -/
import Derived.Test.Qxb6612846aFmtHead
import Derived.Deep.LoopGhost
namespace Go.Proofs.Qxb6612846aFmt
open Go.RowKit Go.Extern.Stop Go.Stop Go.Extern
set_option linter.unusedVariables false

/-- The scanner in block b, between two fields: 'cn' instructions whole, the present one begun at 'st', 'lf' bytes of data to come, nothing held. -/
structure SW (b : Nat) (w wr : World) (cn st lf : Nat) : Prop where
  below : Below b w wr
  room : b < wr.heap.size
  c1 : wr.cell? ⟨b, 1, none⟩ = some (.int .i64 cn)
  c2 : wr.cell? ⟨b, 2, none⟩ = some (.int .i64 st)
  c3 : ∃ v, wr.cell? ⟨b, 3, none⟩ = some v
  held : ∀ o, 4 ≤ o → o ≤ 11 → (wr.cell? ⟨b, o, none⟩).isSome = true
  c12 : wr.cell? ⟨b, 12, none⟩ = some (.int .i64 0)
  c13 : ∃ v, wr.cell? ⟨b, 13, none⟩ = some v
  c14 : ∃ v, wr.cell? ⟨b, 14, none⟩ = some (.int .u32 v)
  c15 : wr.cell? ⟨b, 15, none⟩ = some (.int .u32 lf)
  ends : ∀ k, k < 12 → ∃ v, wr.cell? ⟨b, 16 + k, none⟩ = some v
  marks : ∀ o, wr.frozen? ⟨b, o, none⟩ = false

/-- What the globals hold: the table of the fields. -/
structure Glob (w : World) (mx : Int) (nm : Nat → ByteArray) : Prop where
  mlen : w.cell? ⟨2, 0, none⟩ = some (.int .i64 mx)
  name : ∀ k, k < 12 → w.cell? ⟨1, k * 2, none⟩ = some (.string (nm k))
  short : ∀ k, (nm k).size ≤ 100
  mark : ∀ k, IsMark k → w.cell? ⟨1, k * 2 + 1, none⟩ = some (.int .u8 (markOf k))

theorem setOther {w : World} {b o o' : Nat} {v : Value} (h : o' ≠ o) : (w.setCell ⟨b, o, none⟩ v).cell? ⟨b, o', none⟩ = w.cell? ⟨b, o', none⟩ := by
  refine World.cell?_setCell_other (h := fun e => ?_) ..
  have e' := congrArg Addr.off e
  simp at e'
  omega
theorem setSome {w : World} {b o o' : Nat} {v u : Value} (h : w.cell? ⟨b, o', none⟩ = some u) : ∃ u', (w.setCell ⟨b, o, none⟩ v).cell? ⟨b, o', none⟩ = some u' := cell?_setCell_some h

section
variable {b : Nat} {w wr : World} {cn st lf : Nat}
theorem SW.put (h : SW b w wr cn st lf) (o : Nat) (v : Value) (ho : o = 0 ∨ o = 3 ∨ o = 13 ∨ 15 < o) : SW b w (wr.setCell ⟨b, o, none⟩ v) cn st lf := by
  refine ⟨h.below.setCell (Nat.le_refl _) v, by have := h.room; simpa using this, ?_, ?_, ?_, ?_, ?_, ?_, ?_, ?_, ?_, ?_⟩
  · rw [setOther (by omega)]; exact h.c1
  · rw [setOther (by omega)]; exact h.c2
  · obtain ⟨u, hu⟩ := h.c3; exact setSome hu
  · intro o' h1 h2
    rw [setOther (by omega)]; exact h.held o' h1 h2
  · rw [setOther (by omega)]; exact h.c12
  · obtain ⟨u, hu⟩ := h.c13; exact setSome hu
  · rw [setOther (by omega)]; exact h.c14
  · rw [setOther (by omega)]; exact h.c15
  · intro k hk; obtain ⟨u, hu⟩ := h.ends k hk; exact setSome hu
  · intro o'; rw [World.frozen?_setCell]; exact h.marks o'
theorem SW.putCnt (h : SW b w wr cn st lf) (x : Nat) : SW b w (wr.setCell ⟨b, 1, none⟩ (.int .i64 (x : Int))) x st lf := by
  refine ⟨h.below.setCell (Nat.le_refl _) _, by have := h.room; simpa using this, World.cell?_setCell_same (h := h.c1) .., ?_, ?_, ?_, ?_, ?_, ?_, ?_, ?_, ?_⟩
  · rw [setOther (by omega)]; exact h.c2
  · rw [setOther (by omega)]; exact h.c3
  · intro o' h1 h2
    rw [setOther (by omega)]; exact h.held o' h1 h2
  · rw [setOther (by omega)]; exact h.c12
  · rw [setOther (by omega)]; exact h.c13
  · rw [setOther (by omega)]; exact h.c14
  · rw [setOther (by omega)]; exact h.c15
  · intro k hk; rw [setOther (by omega)]; exact h.ends k hk
  · intro o'; rw [World.frozen?_setCell]; exact h.marks o'
theorem SW.putSt (h : SW b w wr cn st lf) (x : Nat) : SW b w (wr.setCell ⟨b, 2, none⟩ (.int .i64 (x : Int))) cn x lf := by
  refine ⟨h.below.setCell (Nat.le_refl _) _, by have := h.room; simpa using this, ?_, World.cell?_setCell_same (h := h.c2) .., ?_, ?_, ?_, ?_, ?_, ?_, ?_, ?_⟩
  · rw [setOther (by omega)]; exact h.c1
  · rw [setOther (by omega)]; exact h.c3
  · intro o' h1 h2
    rw [setOther (by omega)]; exact h.held o' h1 h2
  · rw [setOther (by omega)]; exact h.c12
  · rw [setOther (by omega)]; exact h.c13
  · rw [setOther (by omega)]; exact h.c14
  · rw [setOther (by omega)]; exact h.c15
  · intro k hk; rw [setOther (by omega)]; exact h.ends k hk
  · intro o'; rw [World.frozen?_setCell]; exact h.marks o'
theorem SW.putLeft (h : SW b w wr cn st lf) (x : Nat) : SW b w (wr.setCell ⟨b, 15, none⟩ (.int .u32 (x : Int))) cn st x := by
  refine ⟨h.below.setCell (Nat.le_refl _) _, by have := h.room; simpa using this, ?_, ?_, ?_, ?_, ?_, ?_, ?_, World.cell?_setCell_same (h := h.c15) .., ?_, ?_⟩
  · rw [setOther (by omega)]; exact h.c1
  · rw [setOther (by omega)]; exact h.c2
  · rw [setOther (by omega)]; exact h.c3
  · intro o' h1 h2
    rw [setOther (by omega)]; exact h.held o' h1 h2
  · rw [setOther (by omega)]; exact h.c12
  · rw [setOther (by omega)]; exact h.c13
  · rw [setOther (by omega)]; exact h.c14
  · intro k hk; rw [setOther (by omega)]; exact h.ends k hk
  · intro o'; rw [World.frozen?_setCell]; exact h.marks o'
theorem SW.putSize (h : SW b w wr cn st lf) (x : Int) : SW b w (wr.setCell ⟨b, 14, none⟩ (.int .u32 x)) cn st lf := by
  obtain ⟨u, hu⟩ := h.c14
  refine ⟨h.below.setCell (Nat.le_refl _) _, by have := h.room; simpa using this, ?_, ?_, ?_, ?_, ?_, ?_, ⟨x, World.cell?_setCell_same (h := hu) ..⟩, ?_, ?_, ?_⟩
  · rw [setOther (by omega)]; exact h.c1
  · rw [setOther (by omega)]; exact h.c2
  · rw [setOther (by omega)]; exact h.c3
  · intro o' h1 h2
    rw [setOther (by omega)]; exact h.held o' h1 h2
  · rw [setOther (by omega)]; exact h.c12
  · rw [setOther (by omega)]; exact h.c13
  · rw [setOther (by omega)]; exact h.c15
  · intro k hk; rw [setOther (by omega)]; exact h.ends k hk
  · intro o'; rw [World.frozen?_setCell]; exact h.marks o'
/-- A call that made memory of its own alone. -/
theorem SW.grow (h : SW b w wr cn st lf) {w1 : World} (hb : Below wr.heap.size wr w1) : SW b w w1 cn st lf := by
  have hc : ∀ o, w1.cell? ⟨b, o, none⟩ = wr.cell? ⟨b, o, none⟩ := fun o => hb.cell (p := ⟨b, o, none⟩) h.room
  refine ⟨h.below.trans (hb.mono (Nat.le_of_lt h.room)), Nat.lt_of_lt_of_le h.room hb.size, ?_, ?_, ?_, ?_, ?_, ?_, ?_, ?_, ?_, ?_⟩
  · rw [hc]; exact h.c1
  · rw [hc]; exact h.c2
  · rw [hc]; exact h.c3
  · intro o' h1 h2; rw [hc]; exact h.held o' h1 h2
  · rw [hc]; exact h.c12
  · rw [hc]; exact h.c13
  · rw [hc]; exact h.c14
  · rw [hc]; exact h.c15
  · intro k hk; rw [hc]; exact h.ends k hk
  · intro o'; rw [hb.frozen (p := ⟨b, o', none⟩) h.room]; exact h.marks o'
theorem SW.draws (h : SW b w wr cn st lf) (n : Nat) : SW b w (wr.drewN n) cn st lf := h.grow (below_drewN (Below.refl _ _) n)
end
end Go.Proofs.Qxb6612846aFmt
