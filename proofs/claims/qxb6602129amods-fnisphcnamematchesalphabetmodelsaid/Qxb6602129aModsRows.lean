/-
  No cell of these rows narrows 'for every input' (looked for: loops, veiled, ifaces, maps, wideKeys, modest, calm, conditions, laid).
  DERIVED. THE GIVEN ROWS OF THIS SEAT. 3 by the template 'for every input the law returns true; each argument reads behind the call as it read before'; 0 by the template 'total and deterministic' (their statements: Qxb6602129aModsTotals.lean).
  GIVEN WITH THE SEED: the statements are not yours to turn. If you find one false, say at which input.
  Laid BY PROGRAM, IN A SANDBOX (cutbox-rows.mjs): the forced cells as the released guide's own fill.sh prints them over the translation a0f2352de9f408d2… (all of the seat's roots in one cut). By AI agents, Wed Nov 11 2026. No macro, syntax, notation, axiom, sorry.
-/
import Derived.Test.Qxb6602129aModsChecked
import GoSem.Claim
import GoSem.ClaimJoined
import GoSem.ClaimMapViews
import Derived.JoinedTies
import Derived.KernelRfl
namespace Go.Proofs.Qxb6602129aMods
/- THE CELL 'sum', in the pinned program and in every row, IS THE sha256 OF THE DUMP (.gsa) THAT Qxb6602129aModsProg.lean LOADS. Nothing in Lean hashes anything: it is a label: what it is worth is what the hold of that sum in a sandbox is worth. -/
noncomputable def Trym.pinned : Pinned := { name := "qxb6602129amods", sum := "a0f2352de9f408d2398a21fd7382a5eb08451cbbcfffe21682de5f9ff3ac1ff1", checked := Trym.checked }
namespace Rows
def none {H : Type} : Left H := { results := [], args := [] }

/-- 'zzlaws_root_b1.FnIsPHCNameMatchesAlphabetModel': WHATEVER THE INPUT: true; the input reads as it did. -/
def fnIsPHCNameMatchesAlphabetModelSpec : ChangeSpec := { name := "fnIsPHCNameMatchesAlphabetModel", fn := fun _ => fun
  | [d] => { results := [.lit (.bool true)], args := [d] }
  | _ => none }
def fnIsPHCNameMatchesAlphabetModelRow : OpenClaim := { program := "qxb6602129amods", sum := "a0f2352de9f408d2398a21fd7382a5eb08451cbbcfffe21682de5f9ff3ac1ff1", func := "example.com/saltwright/saltwright/zzlaws_root_b1.FnIsPHCNameMatchesAlphabetModel", spec := "fnIsPHCNameMatchesAlphabetModel", make := .lifted ["publicsums"], apart := false }
def FnIsPHCNameMatchesAlphabetModelSaid : Prop := fnIsPHCNameMatchesAlphabetModelRow.holds Trym.pinned (OpenSpec.ofChange fnIsPHCNameMatchesAlphabetModelSpec)

/-- ITS FALSE NEIGHBOUR: 'it returns false'. Refute it at one input. -/
def fnIsPHCNameMatchesAlphabetModelWrong : ChangeSpec := { name := "fnIsPHCNameMatchesAlphabetModel", fn := fun _ => fun
  | [d] => { results := [.lit (.bool false)], args := [d] }
  | _ => none }
def FnIsPHCNameMatchesAlphabetModelWrongFalsely : Prop := fnIsPHCNameMatchesAlphabetModelRow.holds Trym.pinned (OpenSpec.ofChange fnIsPHCNameMatchesAlphabetModelWrong)

/-- 'zzlaws_root_b1.FnIsPHCNameConcatenation': WHATEVER THE INPUT: true; the input reads as it did. -/
def fnIsPHCNameConcatenationSpec : ChangeSpec := { name := "fnIsPHCNameConcatenation", fn := fun _ => fun
  | [d1, d2] => { results := [.lit (.bool true)], args := [d1, d2] }
  | _ => none }
def fnIsPHCNameConcatenationRow : OpenClaim := { program := "qxb6602129amods", sum := "a0f2352de9f408d2398a21fd7382a5eb08451cbbcfffe21682de5f9ff3ac1ff1", func := "example.com/saltwright/saltwright/zzlaws_root_b1.FnIsPHCNameConcatenation", spec := "fnIsPHCNameConcatenation", make := .lifted ["publicsums"], apart := false }
def FnIsPHCNameConcatenationSaid : Prop := fnIsPHCNameConcatenationRow.holds Trym.pinned (OpenSpec.ofChange fnIsPHCNameConcatenationSpec)

/-- ITS FALSE NEIGHBOUR: 'it returns false'. Refute it at one input. -/
def fnIsPHCNameConcatenationWrong : ChangeSpec := { name := "fnIsPHCNameConcatenation", fn := fun _ => fun
  | [d1, d2] => { results := [.lit (.bool false)], args := [d1, d2] }
  | _ => none }
def FnIsPHCNameConcatenationWrongFalsely : Prop := fnIsPHCNameConcatenationRow.holds Trym.pinned (OpenSpec.ofChange fnIsPHCNameConcatenationWrong)

/-- 'zzlaws_root_b1.FnSessionIDInjective': WHATEVER THE INPUT: true; the input reads as it did. -/
def fnSessionIDInjectiveSpec : ChangeSpec := { name := "fnSessionIDInjective", fn := fun _ => fun
  | [d1, d2, d3, d4] => { results := [.lit (.bool true)], args := [d1, d2, d3, d4] }
  | _ => none }
def fnSessionIDInjectiveRow : OpenClaim := { program := "qxb6602129amods", sum := "a0f2352de9f408d2398a21fd7382a5eb08451cbbcfffe21682de5f9ff3ac1ff1", func := "example.com/saltwright/saltwright/zzlaws_root_b1.FnSessionIDInjective", spec := "fnSessionIDInjective", make := .lifted ["publicsums"], apart := false }
def FnSessionIDInjectiveSaid : Prop := fnSessionIDInjectiveRow.holds Trym.pinned (OpenSpec.ofChange fnSessionIDInjectiveSpec)

/-- ITS FALSE NEIGHBOUR: 'it returns false'. Refute it at one input. -/
def fnSessionIDInjectiveWrong : ChangeSpec := { name := "fnSessionIDInjective", fn := fun _ => fun
  | [d1, d2, d3, d4] => { results := [.lit (.bool false)], args := [d1, d2, d3, d4] }
  | _ => none }
def FnSessionIDInjectiveWrongFalsely : Prop := fnSessionIDInjectiveRow.holds Trym.pinned (OpenSpec.ofChange fnSessionIDInjectiveWrong)

end Rows
end Go.Proofs.Qxb6602129aMods
