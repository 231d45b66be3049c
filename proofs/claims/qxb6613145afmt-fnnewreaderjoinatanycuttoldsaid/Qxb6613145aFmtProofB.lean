/- Seat b6613145aF: the told and tied card of FnNewReaderJoinAtAnyCut. -/
import Derived.Test.Qxb6613145aFmtCards
import Derived.Test.Qxb6613145aFmtTie
import Derived.Test.Qxb6613145aFmtLawB
import Derived.ProofKit
import Derived.OpenShut
import Derived.ShutString
import Derived.LaidMore
import Derived.Deep.DeepWitnessRef
import Derived.Stop.JoinedTold
import Derived.Stop.JoinedAt
import Derived.Stop.LaidErr
import Derived.SevenTiedAt
namespace Go.Proofs.Qxb6613145aFmt.cardB
open Go.ChangeShapes Go.WideShapes Go.ChangeAt Go.RowKit
open Go.ChangeMaps (open_string shut_string)
open Go.Extern.Stop Go.Stop Go.Extern
set_option linter.unusedVariables false

theorem own : ownKnob Tryf.prog.godebug = none := by kernel_rfl
/-- The door's own heap meets the condition. -/
theorem door_met (os : Os) (args : Array Value) : laidMetH Tryf.prog Rows.fnNewReaderJoinAtAnyCutRow.laid ((World.doorLaid Tryf.prog 142 os).forCall (fun _ _ => 0) ⟨#[], args, []⟩).memory :=
  laidMetH_of_parts3 (fuel := 8) (laidMet_of_run' 8 (by kernel_rfl) (by kernel_rfl)) (by kernel_rfl) (by kernel_rfl)

theorem witness_row (os : Os) {H : Type} (enc : TypeId × Value → H) :
    (OpenSpec.ofChange Rows.fnNewReaderJoinAtAnyCutSpec).preRow enc Tryf.prog Tryf.f4 Rows.fnNewReaderJoinAtAnyCutRow.domain false Rows.fnNewReaderJoinAtAnyCutRow.laid ((World.doorLaid Tryf.prog 142 os).forCall (fun _ _ => 0) ⟨#[], #[.string ⟨#[]⟩, .string ⟨#[]⟩], []⟩).memory #[.string ⟨#[]⟩, .string ⟨#[]⟩] := by
  have hw : (DataW.whole enc Tryf.prog ((World.doorLaid Tryf.prog 142 os).forCall (fun _ _ => 0) ⟨#[], #[.string ⟨#[]⟩, .string ⟨#[]⟩], []⟩).memory Tryf.f4.params.toList (OpenSpec.ofChange Rows.fnNewReaderJoinAtAnyCutSpec).vars false #[Value.string ⟨#[]⟩, Value.string ⟨#[]⟩].toList 8).map (fun x => (x.1, x.2.1)) =
      some ([.lit (.string []), .lit (.string [])], []) := by kernel_rfl
  obtain ⟨⟨x1, x2, x3⟩, hx, hx1⟩ := Option.map_eq_some_iff.1 hw
  simp only [Prod.mk.injEq] at hx1
  obtain ⟨rfl, rfl⟩ := hx1
  exact OpenSpec.preRow_of_cond 8 hx (by kernel_rfl) (fun k hk => by cases hk) (by kernel_rfl) (door_met os _)

set_option maxRecDepth 100000 in
set_option maxHeartbeats 4000000 in
theorem lifted (os : Os) (started : os.Started) (H : Type) (enc : TypeId × Value → H) :
    ReturnsInTold none {} Tryf.checked os 4 .any Input.okWide ((OpenSpec.ofChange Rows.fnNewReaderJoinAtAnyCutSpec).preRow enc Tryf.prog Tryf.f4 Rows.fnNewReaderJoinAtAnyCutRow.domain false Rows.fnNewReaderJoinAtAnyCutRow.laid)
      (fun F => ((OpenSpec.ofChange Rows.fnNewReaderJoinAtAnyCutSpec).at F).post enc Tryf.prog Tryf.f4 false true false false) (aloneAtReturn Tryf.prog) nothingAlways := by
  refine returnsInTold_of_row (C := Tryf.checked) (s := OpenSpec.ofChange Rows.fnNewReaderJoinAtAnyCutSpec) (by kernel_rfl) own started (by kernel_rfl) Tryf.func4
    (OpenSpec.witness_stopped_atRef (enc := enc) (C := Tryf.checked) false (World.doorLaid Tryf.prog 142 os) #[.string ⟨#[]⟩, .string ⟨#[]⟩] rfl (by kernel_rfl) (by kernel_rfl) (by kernel_rfl) (witness_row os enc)) ?_
  intro F W base args ds gs before _ hF hval0 hW _ _ _ hL _
  have hval : ∀ (j : Nat) t v, Tryf.f4.params[j]? = some t → args[j]? = some v → Value.okWide Tryf.prog W .any base t v := hval0
  have hW' := hW
  obtain ⟨p, q, hA0, hV, rfl, hfz, hnd⟩ := hW
  have hA : DataW.TrodAll enc Tryf.prog W 0 (fun _ => true) true Tryf.f4.params.toList args.toList ds p := hA0
  rw [Tryf.params4] at hA hval
  obtain ⟨v0, vs0, d0, ds0, p0, q0, hargs, rfl, rfl, h0, r0⟩ := trodAll_cons hA
  obtain ⟨v1, vs1, d1, ds1, p1, q1, rfl, rfl, rfl, h1, r1⟩ := trodAll_cons r0
  obtain ⟨rfl, rfl, rfl⟩ := trodAll_nil r1
  obtain rfl : args = #[v0, v1] := by cases args; simp_all
  obtain ⟨rfl, rfl⟩ := trodVars_none hV
  obtain ⟨a0, rfl, rfl, rfl, w0⟩ := open_string Tryf.underlying9 (hval 0 9 v0 rfl rfl) h0
  obtain ⟨a1, rfl, rfl, rfl, w1⟩ := open_string Tryf.underlying9 (hval 1 9 v1 rfl rfl) h1
  clear hA0 hval0
  simp only [List.append_nil] at hW'
  rw [MakeChecks.laidMetH_plain _ _ _ (by kernel_rfl)] at hL
  have hL' : laidMet Tryf.prog (_ :: _ :: _ :: _ :: _ :: _ :: [_]) W := hL
  obtain ⟨b4, s4, hg4, _, _, _⟩ := laid_sentinel (g := 4) hL' (by kernel_rfl) (by kernel_rfl) Tryf.underlying32 (fun u h => typeName_ptr_named (nm := "errors.errorString") (tp := 54) (by kernel_rfl) (by kernel_rfl) (by decide) u (h.trans (congrArg some (by decide)))) Tryf.underlying54 Tryf.underlying56 rfl rfl Tryf.underlying9 (by kernel_rfl) (by kernel_rfl)
  obtain ⟨b0, s0, hg0, _, _, _⟩ := laid_sentinel (g := 0) hL'.tail.tail (by kernel_rfl) (by kernel_rfl) Tryf.underlying32 (fun u h => typeName_ptr_named (nm := "errors.errorString") (tp := 54) (by kernel_rfl) (by kernel_rfl) (by decide) u (h.trans (congrArg some (by decide)))) Tryf.underlying54 Tryf.underlying56 rfl rfl Tryf.underlying9 (by kernel_rfl) (by kernel_rfl)
  obtain ⟨b6, s6, hg6, _, _, _⟩ := laid_sentinel (g := 6) hL'.tail.tail.tail.tail (by kernel_rfl) (by kernel_rfl) Tryf.underlying32 (fun u h => typeName_ptr_named (nm := "errors.errorString") (tp := 54) (by kernel_rfl) (by kernel_rfl) (by decide) u (h.trans (congrArg some (by decide)))) Tryf.underlying54 Tryf.underlying56 rfl rfl Tryf.underlying9 (by kernel_rfl) (by kernel_rfl)
  have hc4 : W.cell? ⟨4, 0, none⟩ = some (.iface 54 (.pointer (some b4))) := by
    have := World.var?_cell (g := 4) (by kernel_rfl) hg4 0
    simpa using this
  have hc0 : W.cell? ⟨0, 0, none⟩ = some (.iface 54 (.pointer (some b0))) := by
    have := World.var?_cell (g := 0) (by kernel_rfl) hg0 0
    simpa using this
  have hc6 : W.cell? ⟨6, 0, none⟩ = some (.iface 54 (.pointer (some b6))) := by
    have := World.var?_cell (g := 6) (by kernel_rfl) hg6 0
    simpa using this
  have h6 : 6 < W.heap.size := Lib.lt_of_cell hc6
  clear hL hL' hg4 hg0 hg6
  refine (lawB_c a0 a1 b4 b0 W h6 hc4 hc0).mono ?_
  rintro e W' ⟨rfl, hap⟩
  have bel : Below W.heap.size W W' := ⟨hap.os, hap.tape, hap.output, hap.size, fun k hk => hap.block k hk (fun x => x)⟩
  refine ⟨_, rfl, _, _, _, [], [], [], hW', ?_, ?_, ?_, bel.frame _, fun h => by cases h⟩
  · exact trodAll_mk1 (shut_bool Tryf.underlying4 _)
  · exact (trodAll_cons_mk (shut_string Tryf.underlying9 w0) (trodAll_cons_mk (shut_string Tryf.underlying9 w1) trodAll_mk0))
  · rfl

theorem laidOut : laidOutB Tryf.pinned.checked.prog = true := by kernel_rfl
theorem stops : Tryf.pinned.checked.prog.stops = ["fmt.errorf"] := by kernel_rfl
theorem stopKnobs : Tryf.pinned.checked.prog.stopKnobs = [] := by kernel_rfl
theorem quiet (os : Os) : Stop.quiet Tryf.pinned.checked.prog os := by
  intro k hk
  rw [stopKnobs] at hk
  cases hk

/-- The statement. -/
theorem proved : Rows.FnNewReaderJoinAtAnyCutToldSaid :=
  Claim7.holds_of_told_tied_any_at .later 4 Tryf.f4 "fmt.errorf" [] [] _ _ _ _ _ (by kernel_rfl) rfl rfl rfl laidOut (by kernel_rfl) rfl ⟨rfl, rfl, rfl, rfl, rfl, rfl, rfl⟩ rfl rfl (by kernel_rfl) (by kernel_rfl) Tryf.func4 (by kernel_rfl)
    (of_decide_eq_true (by kernel_rfl)) (by unfold Func.isWrapper; first | (rw [if_pos (by decide +kernel)]; kernel_rfl) | (rw [if_neg (by decide +kernel)]; exact ⟨rfl, rfl⟩)) stops.symm rfl stopKnobs.symm (by kernel_rfl)
    (by kernel_rfl) (by kernel_rfl) (by kernel_rfl) (by kernel_rfl) (by kernel_rfl) (by kernel_rfl) (by kernel_rfl) (by kernel_rfl) (by kernel_rfl) rfl (by kernel_rfl) rfl rfl
    rfl rfl
    rfl (by kernel_rfl) (by kernel_rfl) (by kernel_rfl) (by decide) (by kernel_rfl) fnNewReaderJoinAtAnyCut_row_tie
    (OpenClaim.moreEntering_of (by kernel_rfl) (by kernel_rfl) (by kernel_rfl) (by kernel_rfl) (by kernel_rfl) (by kernel_rfl) (by kernel_rfl) (by kernel_rfl) (by kernel_rfl) (by kernel_rfl))
    ⟨_, WideRow.started_initial, quiet _⟩
    (fun os started _ H enc _ => lifted os started H enc)
end Go.Proofs.Qxb6613145aFmt.cardB
