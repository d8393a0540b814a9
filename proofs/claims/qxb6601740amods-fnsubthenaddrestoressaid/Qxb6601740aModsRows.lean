/-
  No cell of these rows narrows 'for every input' (looked for: loops, veiled, ifaces, maps, wideKeys, modest, calm, conditions, laid).
  DERIVED. THE GIVEN ROWS OF THIS SEAT. 6 by the template 'for every input the law returns true; each argument reads behind the call as it read before'; 0 by the template 'total and deterministic' (their statements: Qxb6601740aModsTotals.lean).
  GIVEN WITH THE SEED: the statements are not yours to turn. If you find one false, say at which input.
  Laid BY PROGRAM, IN A SANDBOX (cutbox-rows.mjs): the forced cells as the released guide's own fill.sh prints them over the translation 5939811e17d16e90… (all of the seat's roots in one cut). By AI agents, Wed Nov 11 2026. No macro, syntax, notation, axiom, sorry.
-/
import Derived.Test.Qxb6601740aModsChecked
import GoSem.Claim
import GoSem.ClaimJoined
import GoSem.ClaimMapViews
import Derived.JoinedTies
import Derived.KernelRfl
namespace Go.Proofs.Qxb6601740aMods
/- THE CELL 'sum', in the pinned program and in every row, IS THE sha256 OF THE DUMP (.gsa) THAT Qxb6601740aModsProg.lean LOADS. Nothing in Lean hashes anything: it is a label: what it is worth is what the hold of that sum in a sandbox is worth. -/
noncomputable def Trym.pinned : Pinned := { name := "qxb6601740amods", sum := "5939811e17d16e9003299ade08c54abc8087b3d0fc2d71924c2dab0a4d76e37f", checked := Trym.checked }
namespace Rows
def none {H : Type} : Left H := { results := [], args := [] }

/-- 'zzlaws_internal_plan_b1.FnAddAgreesWithSubOfNegation': WHATEVER THE INPUT: true; the input reads as it did. -/
def fnAddAgreesWithSubOfNegationSpec : ChangeSpec := { name := "fnAddAgreesWithSubOfNegation", fn := fun _ => fun
  | [d1, d2] => { results := [.lit (.bool true)], args := [d1, d2] }
  | _ => none }
def fnAddAgreesWithSubOfNegationRow : OpenClaim := { program := "qxb6601740amods", sum := "5939811e17d16e9003299ade08c54abc8087b3d0fc2d71924c2dab0a4d76e37f", func := "example.com/ebbtide/ebbtide/zzlaws_internal_plan_b1.FnAddAgreesWithSubOfNegation", spec := "fnAddAgreesWithSubOfNegation", make := .lifted ["publicsums"], apart := false }
def FnAddAgreesWithSubOfNegationSaid : Prop := fnAddAgreesWithSubOfNegationRow.holds Trym.pinned (OpenSpec.ofChange fnAddAgreesWithSubOfNegationSpec)

/-- ITS FALSE NEIGHBOUR: 'it returns false'. Refute it at one input. -/
def fnAddAgreesWithSubOfNegationWrong : ChangeSpec := { name := "fnAddAgreesWithSubOfNegation", fn := fun _ => fun
  | [d1, d2] => { results := [.lit (.bool false)], args := [d1, d2] }
  | _ => none }
def FnAddAgreesWithSubOfNegationWrongFalsely : Prop := fnAddAgreesWithSubOfNegationRow.holds Trym.pinned (OpenSpec.ofChange fnAddAgreesWithSubOfNegationWrong)

/-- 'zzlaws_internal_plan_b1.FnAddOrderFree': WHATEVER THE INPUT: true; the input reads as it did. -/
def fnAddOrderFreeSpec : ChangeSpec := { name := "fnAddOrderFree", fn := fun _ => fun
  | [d1, d2, d3] => { results := [.lit (.bool true)], args := [d1, d2, d3] }
  | _ => none }
def fnAddOrderFreeRow : OpenClaim := { program := "qxb6601740amods", sum := "5939811e17d16e9003299ade08c54abc8087b3d0fc2d71924c2dab0a4d76e37f", func := "example.com/ebbtide/ebbtide/zzlaws_internal_plan_b1.FnAddOrderFree", spec := "fnAddOrderFree", make := .lifted ["publicsums"], apart := false }
def FnAddOrderFreeSaid : Prop := fnAddOrderFreeRow.holds Trym.pinned (OpenSpec.ofChange fnAddOrderFreeSpec)

/-- ITS FALSE NEIGHBOUR: 'it returns false'. Refute it at one input. -/
def fnAddOrderFreeWrong : ChangeSpec := { name := "fnAddOrderFree", fn := fun _ => fun
  | [d1, d2, d3] => { results := [.lit (.bool false)], args := [d1, d2, d3] }
  | _ => none }
def FnAddOrderFreeWrongFalsely : Prop := fnAddOrderFreeRow.holds Trym.pinned (OpenSpec.ofChange fnAddOrderFreeWrong)

/-- 'zzlaws_internal_plan_b1.FnSubThenAddRestores': WHATEVER THE INPUT: true; the input reads as it did. -/
def fnSubThenAddRestoresSpec : ChangeSpec := { name := "fnSubThenAddRestores", fn := fun _ => fun
  | [d1, d2] => { results := [.lit (.bool true)], args := [d1, d2] }
  | _ => none }
def fnSubThenAddRestoresRow : OpenClaim := { program := "qxb6601740amods", sum := "5939811e17d16e9003299ade08c54abc8087b3d0fc2d71924c2dab0a4d76e37f", func := "example.com/ebbtide/ebbtide/zzlaws_internal_plan_b1.FnSubThenAddRestores", spec := "fnSubThenAddRestores", make := .lifted ["publicsums"], apart := false }
def FnSubThenAddRestoresSaid : Prop := fnSubThenAddRestoresRow.holds Trym.pinned (OpenSpec.ofChange fnSubThenAddRestoresSpec)

/-- ITS FALSE NEIGHBOUR: 'it returns false'. Refute it at one input. -/
def fnSubThenAddRestoresWrong : ChangeSpec := { name := "fnSubThenAddRestores", fn := fun _ => fun
  | [d1, d2] => { results := [.lit (.bool false)], args := [d1, d2] }
  | _ => none }
def FnSubThenAddRestoresWrongFalsely : Prop := fnSubThenAddRestoresRow.holds Trym.pinned (OpenSpec.ofChange fnSubThenAddRestoresWrong)

/-- 'zzlaws_internal_plan_b1.FnSubAntisymmetric': WHATEVER THE INPUT: true; the input reads as it did. -/
def fnSubAntisymmetricSpec : ChangeSpec := { name := "fnSubAntisymmetric", fn := fun _ => fun
  | [d1, d2] => { results := [.lit (.bool true)], args := [d1, d2] }
  | _ => none }
def fnSubAntisymmetricRow : OpenClaim := { program := "qxb6601740amods", sum := "5939811e17d16e9003299ade08c54abc8087b3d0fc2d71924c2dab0a4d76e37f", func := "example.com/ebbtide/ebbtide/zzlaws_internal_plan_b1.FnSubAntisymmetric", spec := "fnSubAntisymmetric", make := .lifted ["publicsums"], apart := false }
def FnSubAntisymmetricSaid : Prop := fnSubAntisymmetricRow.holds Trym.pinned (OpenSpec.ofChange fnSubAntisymmetricSpec)

/-- ITS FALSE NEIGHBOUR: 'it returns false'. Refute it at one input. -/
def fnSubAntisymmetricWrong : ChangeSpec := { name := "fnSubAntisymmetric", fn := fun _ => fun
  | [d1, d2] => { results := [.lit (.bool false)], args := [d1, d2] }
  | _ => none }
def FnSubAntisymmetricWrongFalsely : Prop := fnSubAntisymmetricRow.holds Trym.pinned (OpenSpec.ofChange fnSubAntisymmetricWrong)

/-- 'zzlaws_internal_plan_b1.FnFitsInAgreesWithAdd': WHATEVER THE INPUT: true; the input reads as it did. -/
def fnFitsInAgreesWithAddSpec : ChangeSpec := { name := "fnFitsInAgreesWithAdd", fn := fun _ => fun
  | [d1, d2, d3] => { results := [.lit (.bool true)], args := [d1, d2, d3] }
  | _ => none }
def fnFitsInAgreesWithAddRow : OpenClaim := { program := "qxb6601740amods", sum := "5939811e17d16e9003299ade08c54abc8087b3d0fc2d71924c2dab0a4d76e37f", func := "example.com/ebbtide/ebbtide/zzlaws_internal_plan_b1.FnFitsInAgreesWithAdd", spec := "fnFitsInAgreesWithAdd", make := .lifted ["publicsums"], apart := false }
def FnFitsInAgreesWithAddSaid : Prop := fnFitsInAgreesWithAddRow.holds Trym.pinned (OpenSpec.ofChange fnFitsInAgreesWithAddSpec)

/-- ITS FALSE NEIGHBOUR: 'it returns false'. Refute it at one input. -/
def fnFitsInAgreesWithAddWrong : ChangeSpec := { name := "fnFitsInAgreesWithAdd", fn := fun _ => fun
  | [d1, d2, d3] => { results := [.lit (.bool false)], args := [d1, d2, d3] }
  | _ => none }
def FnFitsInAgreesWithAddWrongFalsely : Prop := fnFitsInAgreesWithAddRow.holds Trym.pinned (OpenSpec.ofChange fnFitsInAgreesWithAddWrong)

/-- 'zzlaws_internal_plan_b1.FnFitsInMonotone': WHATEVER THE INPUT: true; the input reads as it did. -/
def fnFitsInMonotoneSpec : ChangeSpec := { name := "fnFitsInMonotone", fn := fun _ => fun
  | [d1, d2, d3, d4] => { results := [.lit (.bool true)], args := [d1, d2, d3, d4] }
  | _ => none }
def fnFitsInMonotoneRow : OpenClaim := { program := "qxb6601740amods", sum := "5939811e17d16e9003299ade08c54abc8087b3d0fc2d71924c2dab0a4d76e37f", func := "example.com/ebbtide/ebbtide/zzlaws_internal_plan_b1.FnFitsInMonotone", spec := "fnFitsInMonotone", make := .lifted ["publicsums"], apart := false }
def FnFitsInMonotoneSaid : Prop := fnFitsInMonotoneRow.holds Trym.pinned (OpenSpec.ofChange fnFitsInMonotoneSpec)

/-- ITS FALSE NEIGHBOUR: 'it returns false'. Refute it at one input. -/
def fnFitsInMonotoneWrong : ChangeSpec := { name := "fnFitsInMonotone", fn := fun _ => fun
  | [d1, d2, d3, d4] => { results := [.lit (.bool false)], args := [d1, d2, d3, d4] }
  | _ => none }
def FnFitsInMonotoneWrongFalsely : Prop := fnFitsInMonotoneRow.holds Trym.pinned (OpenSpec.ofChange fnFitsInMonotoneWrong)

end Rows
end Go.Proofs.Qxb6601740aMods
