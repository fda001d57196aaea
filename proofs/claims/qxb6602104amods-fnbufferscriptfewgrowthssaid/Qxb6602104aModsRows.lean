/-
  No cell of these rows narrows 'for every input' (looked for: loops, veiled, ifaces, maps, wideKeys, modest, calm, conditions, laid).
  DERIVED. THE GIVEN ROWS OF THIS SEAT. 3 by the template 'for every input the law returns true; each argument reads behind the call as it read before'; 0 by the template 'total and deterministic' (their statements: Qxb6602104aModsTotals.lean).
  GIVEN WITH THE SEED: the statements are not yours to turn. If you find one false, say at which input.
  Laid BY PROGRAM, IN A SANDBOX (cutbox-rows.mjs): the forced cells as the released guide's own fill.sh prints them over the translation 1741717010690632… (all of the seat's roots in one cut). By AI agents, Wed Nov 11 2026. No macro, syntax, notation, axiom, sorry.
-/
import Derived.Test.Qxb6602104aModsChecked
import GoSem.Claim
import GoSem.ClaimJoined
import GoSem.ClaimMapViews
import Derived.JoinedTies
import Derived.KernelRfl
namespace Go.Proofs.Qxb6602104aMods
/- THE CELL 'sum', in the pinned program and in every row, IS THE sha256 OF THE DUMP (.gsa) THAT Qxb6602104aModsProg.lean LOADS. Nothing in Lean hashes anything: it is a label: what it is worth is what the hold of that sum in a sandbox is worth. -/
noncomputable def Trym.pinned : Pinned := { name := "qxb6602104amods", sum := "17417170106906321481477b1c88c2105f7ff6e478ec34673b299b6e5cf9e22a", checked := Trym.checked }
namespace Rows
def none {H : Type} : Left H := { results := [], args := [] }

/-- 'zzlaws_store_b1.FnBufferScriptFewGrowths': WHATEVER THE INPUT: true; the input reads as it did. -/
def fnBufferScriptFewGrowthsSpec : ChangeSpec := { name := "fnBufferScriptFewGrowths", fn := fun _ => fun
  | [d1, d2, d3] => { results := [.lit (.bool true)], args := [d1, d2, d3] }
  | _ => none }
def fnBufferScriptFewGrowthsRow : OpenClaim := { program := "qxb6602104amods", sum := "17417170106906321481477b1c88c2105f7ff6e478ec34673b299b6e5cf9e22a", func := "example.com/unifold/unifold/zzlaws_store_b1.FnBufferScriptFewGrowths", spec := "fnBufferScriptFewGrowths", make := .lifted ["publicsums"], apart := false }
def FnBufferScriptFewGrowthsSaid : Prop := fnBufferScriptFewGrowthsRow.holds Trym.pinned (OpenSpec.ofChange fnBufferScriptFewGrowthsSpec)

/-- ITS FALSE NEIGHBOUR: 'it returns false'. Refute it at one input. -/
def fnBufferScriptFewGrowthsWrong : ChangeSpec := { name := "fnBufferScriptFewGrowths", fn := fun _ => fun
  | [d1, d2, d3] => { results := [.lit (.bool false)], args := [d1, d2, d3] }
  | _ => none }
def FnBufferScriptFewGrowthsWrongFalsely : Prop := fnBufferScriptFewGrowthsRow.holds Trym.pinned (OpenSpec.ofChange fnBufferScriptFewGrowthsWrong)

/-- 'zzlaws_store_b1.FnNewGroupFilterSmallestPowerOfTwo': WHATEVER THE INPUT: true; the input reads as it did. -/
def fnNewGroupFilterSmallestPowerOfTwoSpec : ChangeSpec := { name := "fnNewGroupFilterSmallestPowerOfTwo", fn := fun _ => fun
  | [d] => { results := [.lit (.bool true)], args := [d] }
  | _ => none }
def fnNewGroupFilterSmallestPowerOfTwoRow : OpenClaim := { program := "qxb6602104amods", sum := "17417170106906321481477b1c88c2105f7ff6e478ec34673b299b6e5cf9e22a", func := "example.com/unifold/unifold/zzlaws_store_b1.FnNewGroupFilterSmallestPowerOfTwo", spec := "fnNewGroupFilterSmallestPowerOfTwo", make := .lifted ["publicsums"], apart := false }
def FnNewGroupFilterSmallestPowerOfTwoSaid : Prop := fnNewGroupFilterSmallestPowerOfTwoRow.holds Trym.pinned (OpenSpec.ofChange fnNewGroupFilterSmallestPowerOfTwoSpec)

/-- ITS FALSE NEIGHBOUR: 'it returns false'. Refute it at one input. -/
def fnNewGroupFilterSmallestPowerOfTwoWrong : ChangeSpec := { name := "fnNewGroupFilterSmallestPowerOfTwo", fn := fun _ => fun
  | [d] => { results := [.lit (.bool false)], args := [d] }
  | _ => none }
def FnNewGroupFilterSmallestPowerOfTwoWrongFalsely : Prop := fnNewGroupFilterSmallestPowerOfTwoRow.holds Trym.pinned (OpenSpec.ofChange fnNewGroupFilterSmallestPowerOfTwoWrong)

/-- 'zzlaws_store_b1.FnNewGroupFilterMonotone': WHATEVER THE INPUT: true; the input reads as it did. -/
def fnNewGroupFilterMonotoneSpec : ChangeSpec := { name := "fnNewGroupFilterMonotone", fn := fun _ => fun
  | [d1, d2] => { results := [.lit (.bool true)], args := [d1, d2] }
  | _ => none }
def fnNewGroupFilterMonotoneRow : OpenClaim := { program := "qxb6602104amods", sum := "17417170106906321481477b1c88c2105f7ff6e478ec34673b299b6e5cf9e22a", func := "example.com/unifold/unifold/zzlaws_store_b1.FnNewGroupFilterMonotone", spec := "fnNewGroupFilterMonotone", make := .lifted ["publicsums"], apart := false }
def FnNewGroupFilterMonotoneSaid : Prop := fnNewGroupFilterMonotoneRow.holds Trym.pinned (OpenSpec.ofChange fnNewGroupFilterMonotoneSpec)

/-- ITS FALSE NEIGHBOUR: 'it returns false'. Refute it at one input. -/
def fnNewGroupFilterMonotoneWrong : ChangeSpec := { name := "fnNewGroupFilterMonotone", fn := fun _ => fun
  | [d1, d2] => { results := [.lit (.bool false)], args := [d1, d2] }
  | _ => none }
def FnNewGroupFilterMonotoneWrongFalsely : Prop := fnNewGroupFilterMonotoneRow.holds Trym.pinned (OpenSpec.ofChange fnNewGroupFilterMonotoneWrong)

end Rows
end Go.Proofs.Qxb6602104aMods
