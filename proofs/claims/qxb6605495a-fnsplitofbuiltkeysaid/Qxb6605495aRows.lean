/-
  No cell of these rows narrows 'for every input' (looked for: loops, veiled, ifaces, maps, wideKeys, modest, calm, conditions, laid).
  DERIVED. THE GIVEN ROWS OF THIS SEAT. 4 by the template 'for every input the law returns true; each argument reads behind the call as it read before'; 0 by the template 'total and deterministic' (their statements: Qxb6605495aTotals.lean).
  GIVEN WITH THE SEED: the statements are not yours to turn. If you find one false, say at which input.
  Laid BY PROGRAM, IN A SANDBOX (cutbox-rows.mjs): the forced cells as the released guide's own fill.sh prints them over the translation e45abf33cadcbe4d… (all of the seat's roots in one cut). By AI agents, Wed Nov 11 2026. No macro, syntax, notation, axiom, sorry.
-/
import Derived.Test.Qxb6605495aChecked
import GoSem.Claim
import GoSem.ClaimJoined
import GoSem.ClaimMapViews
import Derived.JoinedTies
import Derived.KernelRfl
namespace Go.Proofs.Qxb6605495a
/- THE CELL 'sum', in the pinned program and in every row, IS THE sha256 OF THE DUMP (.gsa) THAT Qxb6605495aProg.lean LOADS. Nothing in Lean hashes anything: it is a label: what it is worth is what the hold of that sum in a sandbox is worth. -/
noncomputable def Try.pinned : Pinned := { name := "qxb6605495a", sum := "e45abf33cadcbe4d82b38a2571f1f0a23681be6ed9fec3b790664fee977fb25e", checked := Try.checked }
namespace Rows
def none {H : Type} : Left H := { results := [], args := [] }

/-- 'zzlaws_pkg_objkey_b1.FnDatatypeIsFirstLevel': WHATEVER THE INPUT: true; the input reads as it did. -/
def fnDatatypeIsFirstLevelSpec : ChangeSpec := { name := "fnDatatypeIsFirstLevel", fn := fun _ => fun
  | [d] => { results := [.lit (.bool true)], args := [d] }
  | _ => none }
def fnDatatypeIsFirstLevelRow : OpenClaim := { program := "qxb6605495a", sum := "e45abf33cadcbe4d82b38a2571f1f0a23681be6ed9fec3b790664fee977fb25e", func := "example.com/stowline/stowline/zzlaws_pkg_objkey_b1.FnDatatypeIsFirstLevel", spec := "fnDatatypeIsFirstLevel", inPlace := ["internal/bytealg.IndexByteString", "internal/bytealg.IndexString"], named := ["internal/bytealg.MaxLen"], apart := false }
def FnDatatypeIsFirstLevelSaid : Prop := fnDatatypeIsFirstLevelRow.holds Try.pinned (OpenSpec.ofChange fnDatatypeIsFirstLevelSpec)

/-- ITS FALSE NEIGHBOUR: 'it returns false'. Refute it at one input. -/
def fnDatatypeIsFirstLevelWrong : ChangeSpec := { name := "fnDatatypeIsFirstLevel", fn := fun _ => fun
  | [d] => { results := [.lit (.bool false)], args := [d] }
  | _ => none }
def FnDatatypeIsFirstLevelWrongFalsely : Prop := fnDatatypeIsFirstLevelRow.holds Try.pinned (OpenSpec.ofChange fnDatatypeIsFirstLevelWrong)

/-- 'zzlaws_pkg_objkey_b1.FnDatatypeOfBuiltGroup': WHATEVER THE INPUT: true; the input reads as it did. -/
def fnDatatypeOfBuiltGroupSpec : ChangeSpec := { name := "fnDatatypeOfBuiltGroup", fn := fun _ => fun
  | [d1, d2] => { results := [.lit (.bool true)], args := [d1, d2] }
  | _ => none }
def fnDatatypeOfBuiltGroupRow : OpenClaim := { program := "qxb6605495a", sum := "e45abf33cadcbe4d82b38a2571f1f0a23681be6ed9fec3b790664fee977fb25e", func := "example.com/stowline/stowline/zzlaws_pkg_objkey_b1.FnDatatypeOfBuiltGroup", spec := "fnDatatypeOfBuiltGroup", inPlace := ["internal/bytealg.IndexByteString", "internal/bytealg.IndexString"], named := ["internal/bytealg.MaxLen"], apart := false }
def FnDatatypeOfBuiltGroupSaid : Prop := fnDatatypeOfBuiltGroupRow.holds Try.pinned (OpenSpec.ofChange fnDatatypeOfBuiltGroupSpec)

/-- ITS FALSE NEIGHBOUR: 'it returns false'. Refute it at one input. -/
def fnDatatypeOfBuiltGroupWrong : ChangeSpec := { name := "fnDatatypeOfBuiltGroup", fn := fun _ => fun
  | [d1, d2] => { results := [.lit (.bool false)], args := [d1, d2] }
  | _ => none }
def FnDatatypeOfBuiltGroupWrongFalsely : Prop := fnDatatypeOfBuiltGroupRow.holds Try.pinned (OpenSpec.ofChange fnDatatypeOfBuiltGroupWrong)

/-- 'zzlaws_pkg_objkey_b1.FnSplitExact': WHATEVER THE INPUT: true; the input reads as it did. -/
def fnSplitExactSpec : ChangeSpec := { name := "fnSplitExact", fn := fun _ => fun
  | [d] => { results := [.lit (.bool true)], args := [d] }
  | _ => none }
def fnSplitExactRow : OpenClaim := { program := "qxb6605495a", sum := "e45abf33cadcbe4d82b38a2571f1f0a23681be6ed9fec3b790664fee977fb25e", func := "example.com/stowline/stowline/zzlaws_pkg_objkey_b1.FnSplitExact", spec := "fnSplitExact", inPlace := ["internal/bytealg.IndexByteString", "internal/bytealg.IndexString"], named := ["internal/bytealg.MaxLen"], apart := false }
def FnSplitExactSaid : Prop := fnSplitExactRow.holds Try.pinned (OpenSpec.ofChange fnSplitExactSpec)

/-- ITS FALSE NEIGHBOUR: 'it returns false'. Refute it at one input. -/
def fnSplitExactWrong : ChangeSpec := { name := "fnSplitExact", fn := fun _ => fun
  | [d] => { results := [.lit (.bool false)], args := [d] }
  | _ => none }
def FnSplitExactWrongFalsely : Prop := fnSplitExactRow.holds Try.pinned (OpenSpec.ofChange fnSplitExactWrong)

/-- 'zzlaws_pkg_objkey_b1.FnSplitOfBuiltKey': WHATEVER THE INPUT: true; the input reads as it did. -/
def fnSplitOfBuiltKeySpec : ChangeSpec := { name := "fnSplitOfBuiltKey", fn := fun _ => fun
  | [d1, d2, d3] => { results := [.lit (.bool true)], args := [d1, d2, d3] }
  | _ => none }
def fnSplitOfBuiltKeyRow : OpenClaim := { program := "qxb6605495a", sum := "e45abf33cadcbe4d82b38a2571f1f0a23681be6ed9fec3b790664fee977fb25e", func := "example.com/stowline/stowline/zzlaws_pkg_objkey_b1.FnSplitOfBuiltKey", spec := "fnSplitOfBuiltKey", inPlace := ["internal/bytealg.IndexByteString", "internal/bytealg.IndexString"], named := ["internal/bytealg.MaxLen"], apart := false }
def FnSplitOfBuiltKeySaid : Prop := fnSplitOfBuiltKeyRow.holds Try.pinned (OpenSpec.ofChange fnSplitOfBuiltKeySpec)

/-- ITS FALSE NEIGHBOUR: 'it returns false'. Refute it at one input. -/
def fnSplitOfBuiltKeyWrong : ChangeSpec := { name := "fnSplitOfBuiltKey", fn := fun _ => fun
  | [d1, d2, d3] => { results := [.lit (.bool false)], args := [d1, d2, d3] }
  | _ => none }
def FnSplitOfBuiltKeyWrongFalsely : Prop := fnSplitOfBuiltKeyRow.holds Try.pinned (OpenSpec.ofChange fnSplitOfBuiltKeyWrong)

end Rows
end Go.Proofs.Qxb6605495a
