/-
  No cell of these rows narrows 'for every input' (looked for: loops, veiled, ifaces, maps, wideKeys, modest, calm, conditions, laid).
  DERIVED. THE GIVEN ROWS OF THIS SEAT. 3 by the template 'for every input the law returns true; each argument reads behind the call as it read before'; 0 by the template 'total and deterministic' (their statements: Qxb6001774aModsTotals.lean).
  GIVEN WITH THE SEED: the statements are not yours to turn. If you find one false, say at which input.
  Laid BY PROGRAM, IN A SANDBOX (cutbox-rows.mjs): the forced cells as the released guide's own fill.sh prints them over the translation 24051affdd8b0846… (all of the seat's roots in one cut). By AI agents, Wed Nov 11 2026. No macro, syntax, notation, axiom, sorry.
-/
import Derived.Test.Qxb6001774aModsChecked
import GoSem.Claim
import GoSem.ClaimJoined
import GoSem.ClaimMapViews
import Derived.JoinedTies
import Derived.KernelRfl
namespace Go.Proofs.Qxb6001774aMods
/- THE CELL 'sum', in the pinned program and in every row, IS THE sha256 OF THE DUMP (.gsa) THAT Qxb6001774aModsProg.lean LOADS. Nothing in Lean hashes anything: it is a label: what it is worth is what the hold of that sum in a sandbox is worth. -/
noncomputable def Trym.pinned : Pinned := { name := "qxb6001774amods", sum := "24051affdd8b08463e1a17f50b8befe599bc6f2daf230b003a19cbb8d4dc03e8", checked := Trym.checked }
namespace Rows
def none {H : Type} : Left H := { results := [], args := [] }

/-- 'zzlaws_internal_jinja_b1.FnIntRangeAtStaysInRange': WHATEVER THE INPUT: true; the input reads as it did. -/
def fnIntRangeAtStaysInRangeSpec : ChangeSpec := { name := "fnIntRangeAtStaysInRange", fn := fun _ => fun
  | [d1, d2, d3, d4] => { results := [.lit (.bool true)], args := [d1, d2, d3, d4] }
  | _ => none }
def fnIntRangeAtStaysInRangeRow : OpenClaim := { program := "qxb6001774amods", sum := "24051affdd8b08463e1a17f50b8befe599bc6f2daf230b003a19cbb8d4dc03e8", func := "example.com/cradle/cradle/zzlaws_internal_jinja_b1.FnIntRangeAtStaysInRange", spec := "fnIntRangeAtStaysInRange", make := .lifted ["publicsums"], apart := false }
def FnIntRangeAtStaysInRangeSaid : Prop := fnIntRangeAtStaysInRangeRow.holds Trym.pinned (OpenSpec.ofChange fnIntRangeAtStaysInRangeSpec)

/-- ITS FALSE NEIGHBOUR: 'it returns false'. Refute it at one input. -/
def fnIntRangeAtStaysInRangeWrong : ChangeSpec := { name := "fnIntRangeAtStaysInRange", fn := fun _ => fun
  | [d1, d2, d3, d4] => { results := [.lit (.bool false)], args := [d1, d2, d3, d4] }
  | _ => none }
def FnIntRangeAtStaysInRangeWrongFalsely : Prop := fnIntRangeAtStaysInRangeRow.holds Trym.pinned (OpenSpec.ofChange fnIntRangeAtStaysInRangeWrong)

/-- 'zzlaws_internal_jinja_b1.FnIntRangeAtStepsByStep': WHATEVER THE INPUT: true; the input reads as it did. -/
def fnIntRangeAtStepsByStepSpec : ChangeSpec := { name := "fnIntRangeAtStepsByStep", fn := fun _ => fun
  | [d1, d2, d3, d4] => { results := [.lit (.bool true)], args := [d1, d2, d3, d4] }
  | _ => none }
def fnIntRangeAtStepsByStepRow : OpenClaim := { program := "qxb6001774amods", sum := "24051affdd8b08463e1a17f50b8befe599bc6f2daf230b003a19cbb8d4dc03e8", func := "example.com/cradle/cradle/zzlaws_internal_jinja_b1.FnIntRangeAtStepsByStep", spec := "fnIntRangeAtStepsByStep", make := .lifted ["publicsums"], apart := false }
def FnIntRangeAtStepsByStepSaid : Prop := fnIntRangeAtStepsByStepRow.holds Trym.pinned (OpenSpec.ofChange fnIntRangeAtStepsByStepSpec)

/-- ITS FALSE NEIGHBOUR: 'it returns false'. Refute it at one input. -/
def fnIntRangeAtStepsByStepWrong : ChangeSpec := { name := "fnIntRangeAtStepsByStep", fn := fun _ => fun
  | [d1, d2, d3, d4] => { results := [.lit (.bool false)], args := [d1, d2, d3, d4] }
  | _ => none }
def FnIntRangeAtStepsByStepWrongFalsely : Prop := fnIntRangeAtStepsByStepRow.holds Trym.pinned (OpenSpec.ofChange fnIntRangeAtStepsByStepWrong)

/-- 'zzlaws_internal_jinja_b1.FnIntRangeAtLastIsLast': WHATEVER THE INPUT: true; the input reads as it did. -/
def fnIntRangeAtLastIsLastSpec : ChangeSpec := { name := "fnIntRangeAtLastIsLast", fn := fun _ => fun
  | [d1, d2, d3] => { results := [.lit (.bool true)], args := [d1, d2, d3] }
  | _ => none }
def fnIntRangeAtLastIsLastRow : OpenClaim := { program := "qxb6001774amods", sum := "24051affdd8b08463e1a17f50b8befe599bc6f2daf230b003a19cbb8d4dc03e8", func := "example.com/cradle/cradle/zzlaws_internal_jinja_b1.FnIntRangeAtLastIsLast", spec := "fnIntRangeAtLastIsLast", make := .lifted ["publicsums"], apart := false }
def FnIntRangeAtLastIsLastSaid : Prop := fnIntRangeAtLastIsLastRow.holds Trym.pinned (OpenSpec.ofChange fnIntRangeAtLastIsLastSpec)

/-- ITS FALSE NEIGHBOUR: 'it returns false'. Refute it at one input. -/
def fnIntRangeAtLastIsLastWrong : ChangeSpec := { name := "fnIntRangeAtLastIsLast", fn := fun _ => fun
  | [d1, d2, d3] => { results := [.lit (.bool false)], args := [d1, d2, d3] }
  | _ => none }
def FnIntRangeAtLastIsLastWrongFalsely : Prop := fnIntRangeAtLastIsLastRow.holds Trym.pinned (OpenSpec.ofChange fnIntRangeAtLastIsLastWrong)

end Rows
end Go.Proofs.Qxb6001774aMods
