/- Seat b6612846aF: the told and tied card of FnScanWholeMatchesParser. -/
import Derived.Test.Qxb6612846aFmtTable
import Derived.Test.Qxb6612846aFmtTie
import Derived.ShutString
import Derived.ChangeOld
import Derived.ChangeVars
import Derived.OpenVars
import Derived.Below
import Derived.Deep.DeepWitnessRef
import Derived.Stop.JoinedTold
import Derived.Stop.JoinedAt
import Derived.SevenTiedAt
namespace Go.Proofs.Qxb6612846aFmt.cardA
open Go.ChangeShapes Go.WideShapes Go.ChangeAt Go.RowKit
open Go.Extern.Stop Go.Stop Go.Extern
set_option linter.unusedVariables false

theorem own : ownKnob Tryf.prog.godebug = none := by kernel_rfl
theorem laidOut : laidOutB Tryf.pinned.checked.prog = true := by kernel_rfl

/-- The door's own heap meets the condition. -/
theorem door_met (os : Os) (args : Array Value) : laidMetH Tryf.prog Rows.fnScanWholeMatchesParserRow.laid ((World.doorLaid Tryf.prog 26 os).forCall (fun _ _ => 0) ⟨#[], args, []⟩).memory :=
  laidMetH_of_parts3 (fuel := 8) (laidMet_of_run' 8 (by kernel_rfl) (by kernel_rfl)) (by kernel_rfl) (by kernel_rfl)

theorem witness_row (os : Os) {H : Type} (enc : TypeId × Value → H) :
    (OpenSpec.ofChange Rows.fnScanWholeMatchesParserSpec).preRow enc Tryf.prog Tryf.f3 Rows.fnScanWholeMatchesParserRow.domain false Rows.fnScanWholeMatchesParserRow.laid ((World.doorLaid Tryf.prog 26 os).forCall (fun _ _ => 0) ⟨#[], #[.slice none 0 0], []⟩).memory #[.slice none 0 0] := by
  have hw : (DataW.whole enc Tryf.prog ((World.doorLaid Tryf.prog 26 os).forCall (fun _ _ => 0) ⟨#[], #[.slice none 0 0], []⟩).memory Tryf.f3.params.toList (OpenSpec.ofChange Rows.fnScanWholeMatchesParserSpec).vars false #[Value.slice none 0 0].toList 8).map (fun x => (x.1, x.2.1)) =
      some ([.nil], [Rows.laid_example_com_polweave_polweave_polFields]) := by kernel_rfl
  obtain ⟨⟨x1, x2, x3⟩, hx, hx1⟩ := Option.map_eq_some_iff.1 hw
  simp only [Prod.mk.injEq] at hx1
  obtain ⟨rfl, rfl⟩ := hx1
  exact OpenSpec.preRow_of_cond 8 hx (by kernel_rfl) (fun k hk => by cases hk) (by kernel_rfl) (door_met os _)

/-- What the walk is told of the slice that came in. -/
def IsRow (w : World) (a : Option Addr) (len cap : Nat) (zs : List Int) : Prop :=
  (a = none ∧ len = 0 ∧ cap = 0) ∨
  ∃ x, a = some x ∧ len ≤ cap ∧ zs.length = cap ∧ (∀ i, i < zs.length → w.cell? (x.add i) = some (.int .u8 (zs.getD i 0))) ∧ ∀ n ∈ zs, (Lit.int .u8 n).wf = true

theorem wf_u8 {n : Int} (h : (Lit.int .u8 n).wf = true) : 0 ≤ n ∧ n < 256 := by
  simp [Lit.wf, IntKind.min, IntKind.max, IntKind.signed, IntKind.bits] at h
  omega

theorem walk (F : Interp) (a : Option Addr) (len cap : Nat) (zs : List Int) (mx : Int) (nm : Nat → ByteArray) (w : World) (hF : F.answers w.tape) (hr : IsRow w a len cap zs) (hG : Glob w mx nm) :
    Calls Tryf.prog 3 #[.slice a len cap] w fun e w' => e = .returned (.bool true) ∧ Below w.heap.size w w' := by
  by_cases hbig : 1048576 < len
  · exact law_big a len cap w hbig
  rcases hr with ⟨rfl, rfl, rfl⟩ | ⟨x, rfl, hl, hz, hcell, hwz⟩
  · exact law_nil w
  · have hg : ∀ j, 0 ≤ zs.getD j 0 ∧ zs.getD j 0 < 256 := fun j => by
      by_cases hj : j < zs.length
      · have : zs.getD j 0 = zs[j] := by simp [List.getD, hj]
        rw [this]
        exact wf_u8 (hwz _ (List.getElem_mem _))
      · have : zs.getD j 0 = 0 := by simp [List.getD, List.getElem?_eq_none (Nat.le_of_not_lt hj)]
        rw [this]
        omega
    obtain ⟨b, off, spot⟩ := x
    rcases Nat.eq_zero_or_pos len with h0 | h0
    · subst h0
      exact law_zero F _ cap mx nm w hF hG
    · have hc := hcell 0 (by omega)
      have hspot : spot = none := by simpa [Addr.add] using World.cell?_spot hc
      subst hspot
      exact law_some F b off len cap (fun j => zs.getD j 0) mx nm w hF (by omega) hg (Or.inr (Lib.lt_of_cell hc)) (fun j hj => by have := hcell j (by omega); rw [addr_add] at this; exact this) hG

set_option maxRecDepth 100000 in
set_option maxHeartbeats 4000000 in
theorem lifted (os : Os) (started : os.Started) (H : Type) (enc : TypeId × Value → H) :
    ReturnsInTold none {} Tryf.checked os 3 .any Input.okWide ((OpenSpec.ofChange Rows.fnScanWholeMatchesParserSpec).preRow enc Tryf.prog Tryf.f3 Rows.fnScanWholeMatchesParserRow.domain false Rows.fnScanWholeMatchesParserRow.laid)
      (fun F => ((OpenSpec.ofChange Rows.fnScanWholeMatchesParserSpec).at F).post enc Tryf.prog Tryf.f3 false true false false) (aloneAtReturn Tryf.prog) nothingAlways := by
  intro F
  show ReturnsInOpen {} (some F.told) Tryf.checked os 3 .any Input.okWide _ _ (aloneAtReturn Tryf.prog) nothingAlways
  refine returnsInOpen_of_calls_wide (by kernel_rfl) own started (by kernel_rfl) (OpenSpec.witness_stopped_atRef (enc := enc) (C := Tryf.checked) false (World.doorLaid Tryf.prog 26 os) #[.slice none 0 0] rfl (by kernel_rfl) (by kernel_rfl) (by kernel_rfl) (witness_row os enc) F.told) ?_
  intro w0 tape i hos hsh _ hok hpre hholds hF
  obtain ⟨_, _, _, fn', hfn', _, _, _, _, hval0⟩ := hok
  have e : fn' = Tryf.f3 := Option.some.inj (hfn'.symm.trans Tryf.func3)
  subst e
  obtain ⟨⟨hp, hl⟩, hz⟩ := hpre
  obtain ⟨ds, gs, before, hw, hc, hk⟩ := OpenSpec.pre_parts hp
  have hW := DataW.Whole.of_heap (w' := w0.forCall tape i) (by rfl) hw
  have hL := hl.of_heap (w' := w0.forCall tape i) (by rfl)
  have hF1 : F.told.answers (w0.forCall tape i).tape := hF
  clear hF
  obtain ⟨blocks, args, ivars⟩ := i
  generalize hWeq : w0.forCall tape ⟨blocks, args, ivars⟩ = W at hW hL hsh hF1 hval0 ⊢
  have hval : ∀ (j : Nat) t v, Tryf.f3.params[j]? = some t → args[j]? = some v → Value.okWide Tryf.prog W .any w0.heap.size t v := hval0
  have hW' := hW
  obtain ⟨p, q, hA0, hV, rfl, hfz, hnd⟩ := hW
  have hA : DataW.TrodAll enc Tryf.prog W 0 (fun _ => true) true Tryf.f3.params.toList args.toList ds p := hA0
  rw [Tryf.params3] at hA hval
  obtain ⟨v0, vs0, d0, ds0, p0, q0, hargs, rfl, rfl, h0, r0⟩ := trodAll_cons hA
  obtain ⟨rfl, rfl, rfl⟩ := trodAll_nil r0
  obtain rfl : args = #[v0] := by cases args; simp_all
  obtain ⟨g1, t1, cs1, f1, dg, p1, rfl, _, _, _, _, _⟩ := trodVars_one hV
  obtain ⟨a0, len0, cap0, rfl⟩ := okWide_slice Tryf.underlying22 (hval 0 22 v0 rfl rfl)
  have k0 := h0
  have lt0 : ∀ x ∈ p0, x.block < W.heap.size := by obtain ⟨m, hm⟩ := k0; exact DataW.trod_lt m _ _ _ hm
  obtain ⟨z0, w1⟩ : ∃ zs, IsRow W a0 len0 cap0 zs := by
    obtain ⟨fuel, hf⟩ := h0
    rcases open_ints Tryf.underlying22 Tryf.underlying5 (by kernel_rfl) hf with ⟨hcs, _⟩ | ⟨x, l, c, zs, hcs, _, hl, hm, hz, _, hcell, hwz⟩
    · simp [Value.cells] at hcs
      obtain ⟨rfl, rfl, rfl⟩ := hcs
      exact ⟨[], .inl ⟨rfl, rfl, rfl⟩⟩
    · simp [Value.cells] at hcs
      obtain ⟨rfl, rfl, rfl⟩ := hcs
      exact ⟨zs, .inr ⟨_, rfl, hl, by simpa using hz, hcell, hwz⟩⟩
  rw [MakeChecks.laidMetH_plain _ _ _ (by kernel_rfl)] at hL
  obtain ⟨mx, hG⟩ := glob hL hsh
  refine (walk F.told a0 len0 cap0 z0 mx _ W hF1 w1 hG).mono ?_
  rintro e W' ⟨rfl, bel⟩
  have hp : ((OpenSpec.ofChange Rows.fnScanWholeMatchesParserSpec).at F.told).post enc Tryf.prog Tryf.f3 false true false false W #[.slice a0 len0 cap0] (.bool true) W' :=
    ⟨_, _, _, [], _, _, hW', trodAll_mk1 (shut_bool Tryf.underlying4 _), trodAll_cons_mk (Below.trod laidOut (by kernel_rfl) (of_decide_eq_true (by kernel_rfl)) k0 bel lt0) trodAll_mk0, Below.trodVars laidOut bel (by kernel_rfl) hV, bel.frame _, fun h => by cases h⟩
  exact ChangeSpec.post_blind hp

theorem stops : Tryf.pinned.checked.prog.stops = ["fmt.Sprintf"] := by kernel_rfl
theorem stopKnobs : Tryf.pinned.checked.prog.stopKnobs = [] := by kernel_rfl
theorem quiet (os : Os) : Stop.quiet Tryf.pinned.checked.prog os := by
  intro k hk
  rw [stopKnobs] at hk
  cases hk

/-- The statement. -/
theorem proved : Rows.FnScanWholeMatchesParserToldSaid :=
  Claim7.holds_of_told_tied_any_at .later 3 Tryf.f3 "fmt.Sprintf" [] [] _ _ _ _ _ (by kernel_rfl) rfl rfl rfl laidOut (by kernel_rfl) rfl ⟨rfl, rfl, rfl, rfl, rfl, rfl, rfl⟩ rfl rfl (by kernel_rfl) (by kernel_rfl) Tryf.func3 (by kernel_rfl)
    (of_decide_eq_true (by kernel_rfl)) (by unfold Func.isWrapper; first | (rw [if_pos (by decide +kernel)]; kernel_rfl) | (rw [if_neg (by decide +kernel)]; exact ⟨rfl, rfl⟩)) stops.symm rfl stopKnobs.symm (by kernel_rfl)
    (by kernel_rfl) (by kernel_rfl) (by kernel_rfl) (by kernel_rfl) (by kernel_rfl) (by kernel_rfl) (by kernel_rfl) (by kernel_rfl) (by kernel_rfl) rfl (by kernel_rfl) rfl rfl
    rfl rfl
    rfl (by kernel_rfl) (by kernel_rfl) (by kernel_rfl) (by decide) (by kernel_rfl) fnScanWholeMatchesParser_row_tie
    (OpenClaim.moreEntering_of (by kernel_rfl) (by kernel_rfl) (by kernel_rfl) (by kernel_rfl) (by kernel_rfl) (by kernel_rfl) (by kernel_rfl) (by kernel_rfl) (by kernel_rfl) (by kernel_rfl))
    ⟨_, WideRow.started_initial, quiet _⟩
    (fun os started _ H enc _ => lifted os started H enc)
end Go.Proofs.Qxb6612846aFmt.cardA
