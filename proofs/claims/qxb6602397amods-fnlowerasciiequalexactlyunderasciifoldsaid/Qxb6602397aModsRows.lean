/-
  No cell of these rows narrows 'for every input' (looked for: loops, veiled, ifaces, maps, wideKeys, modest, calm, conditions, laid).
  DERIVED. THE GIVEN ROWS OF THIS SEAT. 3 by the template 'for every input the law returns true; each argument reads behind the call as it read before'; 0 by the template 'total and deterministic' (their statements: Qxb6602397aModsTotals.lean).
  GIVEN WITH THE SEED: the statements are not yours to turn. If you find one false, say at which input.
  Laid BY PROGRAM, IN A SANDBOX (cutbox-rows.mjs): the forced cells as the released guide's own fill.sh prints them over the translation 8a7578766edaa854… (all of the seat's roots in one cut). By AI agents, Wed Nov 11 2026. No macro, syntax, notation, axiom, sorry.
-/
import Derived.Test.Qxb6602397aModsChecked
import GoSem.Claim
import GoSem.ClaimJoined
import GoSem.ClaimMapViews
import Derived.JoinedTies
import Derived.KernelRfl
namespace Go.Proofs.Qxb6602397aMods
/- THE CELL 'sum', in the pinned program and in every row, IS THE sha256 OF THE DUMP (.gsa) THAT Qxb6602397aModsProg.lean LOADS. Nothing in Lean hashes anything: it is a label: what it is worth is what the hold of that sum in a sandbox is worth. -/
noncomputable def Trym.pinned : Pinned := { name := "qxb6602397amods", sum := "8a7578766edaa85402a5520d88a00a7a43a885a01bb79a3c6e514318a23cb60d", checked := Trym.checked }
namespace Rows
def none {H : Type} : Left H := { results := [], args := [] }

/-- 'zzlaws_root_b1.FnLowerASCIIMatchesLetterTable': WHATEVER THE INPUT: true; the input reads as it did. -/
def fnLowerASCIIMatchesLetterTableSpec : ChangeSpec := { name := "fnLowerASCIIMatchesLetterTable", fn := fun _ => fun
  | [d] => { results := [.lit (.bool true)], args := [d] }
  | _ => none }
def fnLowerASCIIMatchesLetterTableRow : OpenClaim := { program := "qxb6602397amods", sum := "8a7578766edaa85402a5520d88a00a7a43a885a01bb79a3c6e514318a23cb60d", func := "example.com/wardkey/wardkey/zzlaws_root_b1.FnLowerASCIIMatchesLetterTable", spec := "fnLowerASCIIMatchesLetterTable", make := .lifted ["publicsums"], apart := false }
def FnLowerASCIIMatchesLetterTableSaid : Prop := fnLowerASCIIMatchesLetterTableRow.holds Trym.pinned (OpenSpec.ofChange fnLowerASCIIMatchesLetterTableSpec)

/-- ITS FALSE NEIGHBOUR: 'it returns false'. Refute it at one input. -/
def fnLowerASCIIMatchesLetterTableWrong : ChangeSpec := { name := "fnLowerASCIIMatchesLetterTable", fn := fun _ => fun
  | [d] => { results := [.lit (.bool false)], args := [d] }
  | _ => none }
def FnLowerASCIIMatchesLetterTableWrongFalsely : Prop := fnLowerASCIIMatchesLetterTableRow.holds Trym.pinned (OpenSpec.ofChange fnLowerASCIIMatchesLetterTableWrong)

/-- 'zzlaws_root_b1.FnLowerASCIIEqualExactlyUnderASCIIFold': WHATEVER THE INPUT: true; the input reads as it did. -/
def fnLowerASCIIEqualExactlyUnderASCIIFoldSpec : ChangeSpec := { name := "fnLowerASCIIEqualExactlyUnderASCIIFold", fn := fun _ => fun
  | [d1, d2] => { results := [.lit (.bool true)], args := [d1, d2] }
  | _ => none }
def fnLowerASCIIEqualExactlyUnderASCIIFoldRow : OpenClaim := { program := "qxb6602397amods", sum := "8a7578766edaa85402a5520d88a00a7a43a885a01bb79a3c6e514318a23cb60d", func := "example.com/wardkey/wardkey/zzlaws_root_b1.FnLowerASCIIEqualExactlyUnderASCIIFold", spec := "fnLowerASCIIEqualExactlyUnderASCIIFold", make := .lifted ["publicsums"], apart := false }
def FnLowerASCIIEqualExactlyUnderASCIIFoldSaid : Prop := fnLowerASCIIEqualExactlyUnderASCIIFoldRow.holds Trym.pinned (OpenSpec.ofChange fnLowerASCIIEqualExactlyUnderASCIIFoldSpec)

/-- ITS FALSE NEIGHBOUR: 'it returns false'. Refute it at one input. -/
def fnLowerASCIIEqualExactlyUnderASCIIFoldWrong : ChangeSpec := { name := "fnLowerASCIIEqualExactlyUnderASCIIFold", fn := fun _ => fun
  | [d1, d2] => { results := [.lit (.bool false)], args := [d1, d2] }
  | _ => none }
def FnLowerASCIIEqualExactlyUnderASCIIFoldWrongFalsely : Prop := fnLowerASCIIEqualExactlyUnderASCIIFoldRow.holds Trym.pinned (OpenSpec.ofChange fnLowerASCIIEqualExactlyUnderASCIIFoldWrong)

/-- 'zzlaws_root_b1.FnLowerASCIIIdempotent': WHATEVER THE INPUT: true; the input reads as it did. -/
def fnLowerASCIIIdempotentSpec : ChangeSpec := { name := "fnLowerASCIIIdempotent", fn := fun _ => fun
  | [d] => { results := [.lit (.bool true)], args := [d] }
  | _ => none }
def fnLowerASCIIIdempotentRow : OpenClaim := { program := "qxb6602397amods", sum := "8a7578766edaa85402a5520d88a00a7a43a885a01bb79a3c6e514318a23cb60d", func := "example.com/wardkey/wardkey/zzlaws_root_b1.FnLowerASCIIIdempotent", spec := "fnLowerASCIIIdempotent", make := .lifted ["publicsums"], apart := false }
def FnLowerASCIIIdempotentSaid : Prop := fnLowerASCIIIdempotentRow.holds Trym.pinned (OpenSpec.ofChange fnLowerASCIIIdempotentSpec)

/-- ITS FALSE NEIGHBOUR: 'it returns false'. Refute it at one input. -/
def fnLowerASCIIIdempotentWrong : ChangeSpec := { name := "fnLowerASCIIIdempotent", fn := fun _ => fun
  | [d] => { results := [.lit (.bool false)], args := [d] }
  | _ => none }
def FnLowerASCIIIdempotentWrongFalsely : Prop := fnLowerASCIIIdempotentRow.holds Trym.pinned (OpenSpec.ofChange fnLowerASCIIIdempotentWrong)

end Rows
end Go.Proofs.Qxb6602397aMods
