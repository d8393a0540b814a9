/-
  No cell of these rows narrows 'for every input' (looked for: loops, veiled, ifaces, maps, wideKeys, modest, calm, conditions, laid).
  DERIVED. THE GIVEN ROWS OF THIS SEAT. 2 by the template 'for every input the law returns true; each argument reads behind the call as it read before'; 0 by the template 'total and deterministic' (their statements: Qxb6601880aModsTotals.lean).
  GIVEN WITH THE SEED: the statements are not yours to turn. If you find one false, say at which input.
  Laid BY PROGRAM, IN A SANDBOX (cutbox-rows.mjs): the forced cells as the released guide's own fill.sh prints them over the translation 516925d5c6156581… (all of the seat's roots in one cut). By AI agents, Wed Nov 11 2026. No macro, syntax, notation, axiom, sorry.
-/
import Derived.Test.Qxb6601880aModsChecked
import GoSem.Claim
import GoSem.ClaimJoined
import GoSem.ClaimMapViews
import Derived.JoinedTies
import Derived.KernelRfl
namespace Go.Proofs.Qxb6601880aMods
/- THE CELL 'sum', in the pinned program and in every row, IS THE sha256 OF THE DUMP (.gsa) THAT Qxb6601880aModsProg.lean LOADS. Nothing in Lean hashes anything: it is a label: what it is worth is what the hold of that sum in a sandbox is worth. -/
noncomputable def Trym.pinned : Pinned := { name := "qxb6601880amods", sum := "516925d5c615658185f4ce2077deb82d94ae83ef27a86a723771ad00afc28eed", checked := Trym.checked }
namespace Rows
def none {H : Type} : Left H := { results := [], args := [] }

/-- 'zzlaws_internal_push_b1.FnFieldsLookupRoundTrip': WHATEVER THE INPUT: true; the input reads as it did. -/
def fnFieldsLookupRoundTripSpec : ChangeSpec := { name := "fnFieldsLookupRoundTrip", fn := fun _ => fun
  | [d1, d2, d3, d4, d5, d6, d7, d8, d9] => { results := [.lit (.bool true)], args := [d1, d2, d3, d4, d5, d6, d7, d8, d9] }
  | _ => none }
def fnFieldsLookupRoundTripRow : OpenClaim := { program := "qxb6601880amods", sum := "516925d5c615658185f4ce2077deb82d94ae83ef27a86a723771ad00afc28eed", func := "example.com/landfall/landfall/zzlaws_internal_push_b1.FnFieldsLookupRoundTrip", spec := "fnFieldsLookupRoundTrip", make := .lifted ["publicsums"], apart := false }
def FnFieldsLookupRoundTripSaid : Prop := fnFieldsLookupRoundTripRow.holds Trym.pinned (OpenSpec.ofChange fnFieldsLookupRoundTripSpec)

/-- ITS FALSE NEIGHBOUR: 'it returns false'. Refute it at one input. -/
def fnFieldsLookupRoundTripWrong : ChangeSpec := { name := "fnFieldsLookupRoundTrip", fn := fun _ => fun
  | [d1, d2, d3, d4, d5, d6, d7, d8, d9] => { results := [.lit (.bool false)], args := [d1, d2, d3, d4, d5, d6, d7, d8, d9] }
  | _ => none }
def FnFieldsLookupRoundTripWrongFalsely : Prop := fnFieldsLookupRoundTripRow.holds Trym.pinned (OpenSpec.ofChange fnFieldsLookupRoundTripWrong)

/-- 'zzlaws_internal_push_b1.FnNumberingTellsKindsApart': WHATEVER THE INPUT: true; the input reads as it did. -/
def fnNumberingTellsKindsApartSpec : ChangeSpec := { name := "fnNumberingTellsKindsApart", fn := fun _ => fun
  | [d1, d2] => { results := [.lit (.bool true)], args := [d1, d2] }
  | _ => none }
def fnNumberingTellsKindsApartRow : OpenClaim := { program := "qxb6601880amods", sum := "516925d5c615658185f4ce2077deb82d94ae83ef27a86a723771ad00afc28eed", func := "example.com/landfall/landfall/zzlaws_internal_push_b1.FnNumberingTellsKindsApart", spec := "fnNumberingTellsKindsApart", make := .lifted ["publicsums"], apart := false }
def FnNumberingTellsKindsApartSaid : Prop := fnNumberingTellsKindsApartRow.holds Trym.pinned (OpenSpec.ofChange fnNumberingTellsKindsApartSpec)

/-- ITS FALSE NEIGHBOUR: 'it returns false'. Refute it at one input. -/
def fnNumberingTellsKindsApartWrong : ChangeSpec := { name := "fnNumberingTellsKindsApart", fn := fun _ => fun
  | [d1, d2] => { results := [.lit (.bool false)], args := [d1, d2] }
  | _ => none }
def FnNumberingTellsKindsApartWrongFalsely : Prop := fnNumberingTellsKindsApartRow.holds Trym.pinned (OpenSpec.ofChange fnNumberingTellsKindsApartWrong)

end Rows
end Go.Proofs.Qxb6601880aMods
