/- Seat b6612846aF: what the listed variable polFields and the library's MaxLen hold at the row's own world. -/
import Derived.Test.Qxb6612846aFmtCards
import Derived.Test.Qxb6612846aFmtLaw
import Derived.ProofKit
import Derived.OpenShut
import Derived.LaidMore
import Derived.Shelf.Vars
namespace Go.Proofs.Qxb6612846aFmt
open Go.RowKit
set_option linter.unusedVariables false

theorem cells9 : Tryf.prog.cellsOf 9 = 1 := by kernel_rfl
theorem cells5 : Tryf.prog.cellsOf 5 = 1 := by kernel_rfl
theorem cells62 : Tryf.prog.cellsOf 62 = 2 := by kernel_rfl

theorem one_field {H : Type} {enc : TypeId × Value → H} {w : World} {base : Nat} {sp : Nat → Bool} {held : Bool} {fuel : Nat} {cs : List Value} {s : List UInt8} {m : Int} {p : List MemPlace}
    (h : DataW.trod enc Tryf.prog w base sp held fuel 62 cs = some (.agg [.lit (.string s), .lit (.int .u8 m)], p)) : ∃ S : ByteArray, S.data.toList = s ∧ cs[0]? = some (.string S) ∧ cs[1]? = some (.int .u8 m) := by
  obtain ⟨xs, n, _, hx, _, hlen, hf⟩ := DataW.trod_struct Tryf.underlying62 h
  simp only [Prod.mk.injEq] at hx
  obtain ⟨hx, _⟩ := hx
  match xs, hlen with
  | [x0, x1], _ =>
    have h0 := hf 0 _ rfl
    have h1 := hf 1 _ rfl
    obtain ⟨S, e0, e0', _⟩ := DataW.trod_string Tryf.underlying9 h0
    obtain ⟨z, e1, e1', _⟩ := DataW.trod_int Tryf.underlying5 h1
    simp only [List.map_cons, List.map_nil, e0', e1'] at hx
    injection hx with hx
    simp at hx
    obtain ⟨rfl, rfl⟩ := hx
    refine ⟨S, rfl, ?_, ?_⟩
    · have := congrArg (fun l => l[0]?) e0
      simpa [cells9] using this
    · have := congrArg (fun l => l[0]?) e1
      simpa [cells5] using this

/-- The k-th entry of the table. -/
def okEntry (k : Nat) (d : DataW Unit) : Prop := ∃ (s : List UInt8) (m : Int), d = .agg [.lit (.string s), .lit (.int .u8 m)] ∧ s.length ≤ 100 ∧ (IsMark k → m = markOf k)

/-- The list of the entries. -/
def parts : DataW Unit → List (DataW Unit)
  | .agg l => l
  | _ => []

theorem entries (k : Nat) (hk : k < 12) : ∃ d, (parts Rows.laid_example_com_polweave_polweave_polFields)[k]? = some d ∧ okEntry k d := by
  rcases (show k = 0 ∨ k = 1 ∨ k = 2 ∨ k = 3 ∨ k = 4 ∨ k = 5 ∨ k = 6 ∨ k = 7 ∨ k = 8 ∨ k = 9 ∨ k = 10 ∨ k = 11 by omega) with rfl | rfl | rfl | rfl | rfl | rfl | rfl | rfl | rfl | rfl | rfl | rfl <;>
    exact ⟨_, rfl, _, _, rfl, by decide, fun h => by first | rfl | (unfold IsMark at h; omega)⟩

theorem table {W : World} (hL : laidMet Tryf.prog Rows.fnScanWholeMatchesParserRow.laid W) (k : Nat) (hk : k < 12) :
    ∃ (S : ByteArray) (m : Int), S.size ≤ 100 ∧ W.cell? ⟨1, k * 2, none⟩ = some (.string S) ∧ W.cell? ⟨1, k * 2 + 1, none⟩ = some (.int .u8 m) ∧ (IsMark k → m = markOf k) := by
  obtain ⟨ps, ⟨g, t, cs, fuel, p, q, hg, ht, hv, hd, _, _⟩, _, _⟩ := hL
  obtain rfl : g = 1 := Option.some.inj (hg.symm.trans (by kernel_rfl))
  obtain rfl : t = 63 := Option.some.inj (ht.symm.trans (by kernel_rfl))
  obtain ⟨xs, m, _, hx, _, hlen, hf⟩ := DataW.trod_array Tryf.underlying63 hd
  simp only [Prod.mk.injEq] at hx
  obtain ⟨hx, _⟩ := hx
  obtain ⟨d, hd1, s, z, hd2, hs, hz⟩ := entries k hk
  have hp : parts Rows.laid_example_com_polweave_polweave_polFields = xs.map (·.1) := by
    rw [hx]
    rfl
  rw [hp, List.getElem?_map] at hd1
  obtain ⟨⟨d', p'⟩, hxk, hdd⟩ := Option.map_eq_some_iff.1 hd1
  have hdd' : d' = d := hdd
  subst hdd' hd2
  have h1 := (hf k hk).trans hxk
  obtain ⟨S, e1, e2, e3⟩ := one_field h1
  rw [cells62] at e2 e3
  have hc := fun i => World.var?_cell hg hv i
  refine ⟨S, z, ?_, ?_, ?_, hz⟩
  · have := congrArg List.length e1
    simp at this
    have h2 : S.size = S.data.size := rfl
    omega
  · rw [hc]
    simpa using e2
  · rw [hc]
    simpa using e3

/-- The names of the fields, off the table. -/
def nameAt (W : World) (k : Nat) : ByteArray := if k < 12 then (match W.cell? ⟨1, k * 2, none⟩ with | some (.string s) => s | _ => ⟨#[]⟩) else ⟨#[]⟩

theorem max_cell {W : World} (hsh : W.ShapedOpen Tryf.prog) : ∃ m, W.cell? ⟨2, 0, none⟩ = some (.int .i64 m) :=
  cell_of_shapedOpen_int (t := 3) (zero := #[.int .i64 0]) hsh (of_decide_eq_true (by kernel_rfl)) (by kernel_rfl) rfl (by kernel_rfl) (by kernel_rfl) Tryf.underlying3

theorem glob {W : World} (hL : laidMet Tryf.prog Rows.fnScanWholeMatchesParserRow.laid W) (hsh : W.ShapedOpen Tryf.prog) : ∃ mx, Glob W mx (nameAt W) := by
  obtain ⟨mx, hm⟩ := max_cell hsh
  refine ⟨mx, hm, fun k hk => ?_, fun k => ?_, fun k hk => ?_⟩
  · obtain ⟨S, z, h1, h2, h3, h4⟩ := table hL k hk
    unfold nameAt
    rw [if_pos hk, h2]
  · unfold nameAt
    by_cases hk : k < 12
    · obtain ⟨S, z, h1, h2, h3, h4⟩ := table hL k hk
      rw [if_pos hk, h2]
      exact h1
    · rw [if_neg hk]
      exact Nat.zero_le _
  · obtain ⟨S, z, h1, h2, h3, h4⟩ := table hL k (by unfold IsMark at hk; omega)
    rw [h3, h4 hk]
end Go.Proofs.Qxb6612846aFmt
