/-
  No cell of these rows narrows 'for every input' (looked for: loops, veiled, ifaces, maps, wideKeys, modest, calm, conditions, laid).
  DERIVED. THE GIVEN ROWS OF THIS SEAT. 6 by the template 'for every input the law returns true; each argument reads behind the call as it read before'; 0 by the template 'total and deterministic' (their statements: Qxb6600032aModsTotals.lean).
  GIVEN WITH THE SEED: the statements are not yours to turn. If you find one false, say at which input.
  Laid BY PROGRAM, IN A SANDBOX (cutbox-rows.mjs): the forced cells as the released guide's own fill.sh prints them over the translation eb6122d3b38640e0… (all of the seat's roots in one cut). By AI agents, Wed Nov 11 2026. No macro, syntax, notation, axiom, sorry.
-/
import Derived.Test.Qxb6600032aModsChecked
import GoSem.Claim
import GoSem.ClaimJoined
import GoSem.ClaimMapViews
import Derived.JoinedTies
import Derived.KernelRfl
namespace Go.Proofs.Qxb6600032aMods
/- THE CELL 'sum', in the pinned program and in every row, IS THE sha256 OF THE DUMP (.gsa) THAT Qxb6600032aModsProg.lean LOADS. Nothing in Lean hashes anything: it is a label: what it is worth is what the hold of that sum in a sandbox is worth. -/
noncomputable def Trym.pinned : Pinned := { name := "qxb6600032amods", sum := "eb6122d3b38640e0ed204ea4ee046a2b971e403eaf92764144343ad65359f7c0", checked := Trym.checked }
namespace Rows
def none {H : Type} : Left H := { results := [], args := [] }

/-- 'zzlaws_root_b1.FnSkipNestedCommentMatchesRecursiveDescent': WHATEVER THE INPUT: true; the input reads as it did. -/
def fnSkipNestedCommentMatchesRecursiveDescentSpec : ChangeSpec := { name := "fnSkipNestedCommentMatchesRecursiveDescent", fn := fun _ => fun
  | [d1, d2] => { results := [.lit (.bool true)], args := [d1, d2] }
  | _ => none }
def fnSkipNestedCommentMatchesRecursiveDescentRow : OpenClaim := { program := "qxb6600032amods", sum := "eb6122d3b38640e0ed204ea4ee046a2b971e403eaf92764144343ad65359f7c0", func := "example.com/quireline/quireline/zzlaws_root_b1.FnSkipNestedCommentMatchesRecursiveDescent", spec := "fnSkipNestedCommentMatchesRecursiveDescent", recurses := true, make := .lifted ["publicsums"], apart := false }
def FnSkipNestedCommentMatchesRecursiveDescentSaid : Prop := fnSkipNestedCommentMatchesRecursiveDescentRow.holds Trym.pinned (OpenSpec.ofChange fnSkipNestedCommentMatchesRecursiveDescentSpec)

/-- ITS FALSE NEIGHBOUR: 'it returns false'. Refute it at one input. -/
def fnSkipNestedCommentMatchesRecursiveDescentWrong : ChangeSpec := { name := "fnSkipNestedCommentMatchesRecursiveDescent", fn := fun _ => fun
  | [d1, d2] => { results := [.lit (.bool false)], args := [d1, d2] }
  | _ => none }
def FnSkipNestedCommentMatchesRecursiveDescentWrongFalsely : Prop := fnSkipNestedCommentMatchesRecursiveDescentRow.holds Trym.pinned (OpenSpec.ofChange fnSkipNestedCommentMatchesRecursiveDescentWrong)

/-- 'zzlaws_root_b1.FnSkipNestedCommentIgnoresWhatLiesBefore': WHATEVER THE INPUT: true; the input reads as it did. -/
def fnSkipNestedCommentIgnoresWhatLiesBeforeSpec : ChangeSpec := { name := "fnSkipNestedCommentIgnoresWhatLiesBefore", fn := fun _ => fun
  | [d1, d2, d3] => { results := [.lit (.bool true)], args := [d1, d2, d3] }
  | _ => none }
def fnSkipNestedCommentIgnoresWhatLiesBeforeRow : OpenClaim := { program := "qxb6600032amods", sum := "eb6122d3b38640e0ed204ea4ee046a2b971e403eaf92764144343ad65359f7c0", func := "example.com/quireline/quireline/zzlaws_root_b1.FnSkipNestedCommentIgnoresWhatLiesBefore", spec := "fnSkipNestedCommentIgnoresWhatLiesBefore", make := .lifted ["publicsums"], apart := false }
def FnSkipNestedCommentIgnoresWhatLiesBeforeSaid : Prop := fnSkipNestedCommentIgnoresWhatLiesBeforeRow.holds Trym.pinned (OpenSpec.ofChange fnSkipNestedCommentIgnoresWhatLiesBeforeSpec)

/-- ITS FALSE NEIGHBOUR: 'it returns false'. Refute it at one input. -/
def fnSkipNestedCommentIgnoresWhatLiesBeforeWrong : ChangeSpec := { name := "fnSkipNestedCommentIgnoresWhatLiesBefore", fn := fun _ => fun
  | [d1, d2, d3] => { results := [.lit (.bool false)], args := [d1, d2, d3] }
  | _ => none }
def FnSkipNestedCommentIgnoresWhatLiesBeforeWrongFalsely : Prop := fnSkipNestedCommentIgnoresWhatLiesBeforeRow.holds Trym.pinned (OpenSpec.ofChange fnSkipNestedCommentIgnoresWhatLiesBeforeWrong)

/-- 'zzlaws_root_b1.FnSkipNestedCommentEndsInsideAndClosedIsFinal': WHATEVER THE INPUT: true; the input reads as it did. -/
def fnSkipNestedCommentEndsInsideAndClosedIsFinalSpec : ChangeSpec := { name := "fnSkipNestedCommentEndsInsideAndClosedIsFinal", fn := fun _ => fun
  | [d1, d2, d3] => { results := [.lit (.bool true)], args := [d1, d2, d3] }
  | _ => none }
def fnSkipNestedCommentEndsInsideAndClosedIsFinalRow : OpenClaim := { program := "qxb6600032amods", sum := "eb6122d3b38640e0ed204ea4ee046a2b971e403eaf92764144343ad65359f7c0", func := "example.com/quireline/quireline/zzlaws_root_b1.FnSkipNestedCommentEndsInsideAndClosedIsFinal", spec := "fnSkipNestedCommentEndsInsideAndClosedIsFinal", make := .lifted ["publicsums"], apart := false }
def FnSkipNestedCommentEndsInsideAndClosedIsFinalSaid : Prop := fnSkipNestedCommentEndsInsideAndClosedIsFinalRow.holds Trym.pinned (OpenSpec.ofChange fnSkipNestedCommentEndsInsideAndClosedIsFinalSpec)

/-- ITS FALSE NEIGHBOUR: 'it returns false'. Refute it at one input. -/
def fnSkipNestedCommentEndsInsideAndClosedIsFinalWrong : ChangeSpec := { name := "fnSkipNestedCommentEndsInsideAndClosedIsFinal", fn := fun _ => fun
  | [d1, d2, d3] => { results := [.lit (.bool false)], args := [d1, d2, d3] }
  | _ => none }
def FnSkipNestedCommentEndsInsideAndClosedIsFinalWrongFalsely : Prop := fnSkipNestedCommentEndsInsideAndClosedIsFinalRow.holds Trym.pinned (OpenSpec.ofChange fnSkipNestedCommentEndsInsideAndClosedIsFinalWrong)

/-- 'zzlaws_root_b1.FnSkipQuotedStopsAtTheCloseOfAnEncodedText': WHATEVER THE INPUT: true; the input reads as it did. -/
def fnSkipQuotedStopsAtTheCloseOfAnEncodedTextSpec : ChangeSpec := { name := "fnSkipQuotedStopsAtTheCloseOfAnEncodedText", fn := fun _ => fun
  | [d1, d2, d3, d4] => { results := [.lit (.bool true)], args := [d1, d2, d3, d4] }
  | _ => none }
def fnSkipQuotedStopsAtTheCloseOfAnEncodedTextRow : OpenClaim := { program := "qxb6600032amods", sum := "eb6122d3b38640e0ed204ea4ee046a2b971e403eaf92764144343ad65359f7c0", func := "example.com/quireline/quireline/zzlaws_root_b1.FnSkipQuotedStopsAtTheCloseOfAnEncodedText", spec := "fnSkipQuotedStopsAtTheCloseOfAnEncodedText", make := .lifted ["publicsums"], apart := false }
def FnSkipQuotedStopsAtTheCloseOfAnEncodedTextSaid : Prop := fnSkipQuotedStopsAtTheCloseOfAnEncodedTextRow.holds Trym.pinned (OpenSpec.ofChange fnSkipQuotedStopsAtTheCloseOfAnEncodedTextSpec)

/-- ITS FALSE NEIGHBOUR: 'it returns false'. Refute it at one input. -/
def fnSkipQuotedStopsAtTheCloseOfAnEncodedTextWrong : ChangeSpec := { name := "fnSkipQuotedStopsAtTheCloseOfAnEncodedText", fn := fun _ => fun
  | [d1, d2, d3, d4] => { results := [.lit (.bool false)], args := [d1, d2, d3, d4] }
  | _ => none }
def FnSkipQuotedStopsAtTheCloseOfAnEncodedTextWrongFalsely : Prop := fnSkipQuotedStopsAtTheCloseOfAnEncodedTextRow.holds Trym.pinned (OpenSpec.ofChange fnSkipQuotedStopsAtTheCloseOfAnEncodedTextWrong)

/-- 'zzlaws_root_b1.FnSkipQuotedIgnoresWhatLiesBeforeAndAfter': WHATEVER THE INPUT: true; the input reads as it did. -/
def fnSkipQuotedIgnoresWhatLiesBeforeAndAfterSpec : ChangeSpec := { name := "fnSkipQuotedIgnoresWhatLiesBeforeAndAfter", fn := fun _ => fun
  | [d1, d2, d3, d4, d5, d6] => { results := [.lit (.bool true)], args := [d1, d2, d3, d4, d5, d6] }
  | _ => none }
def fnSkipQuotedIgnoresWhatLiesBeforeAndAfterRow : OpenClaim := { program := "qxb6600032amods", sum := "eb6122d3b38640e0ed204ea4ee046a2b971e403eaf92764144343ad65359f7c0", func := "example.com/quireline/quireline/zzlaws_root_b1.FnSkipQuotedIgnoresWhatLiesBeforeAndAfter", spec := "fnSkipQuotedIgnoresWhatLiesBeforeAndAfter", make := .lifted ["publicsums"], apart := false }
def FnSkipQuotedIgnoresWhatLiesBeforeAndAfterSaid : Prop := fnSkipQuotedIgnoresWhatLiesBeforeAndAfterRow.holds Trym.pinned (OpenSpec.ofChange fnSkipQuotedIgnoresWhatLiesBeforeAndAfterSpec)

/-- ITS FALSE NEIGHBOUR: 'it returns false'. Refute it at one input. -/
def fnSkipQuotedIgnoresWhatLiesBeforeAndAfterWrong : ChangeSpec := { name := "fnSkipQuotedIgnoresWhatLiesBeforeAndAfter", fn := fun _ => fun
  | [d1, d2, d3, d4, d5, d6] => { results := [.lit (.bool false)], args := [d1, d2, d3, d4, d5, d6] }
  | _ => none }
def FnSkipQuotedIgnoresWhatLiesBeforeAndAfterWrongFalsely : Prop := fnSkipQuotedIgnoresWhatLiesBeforeAndAfterRow.holds Trym.pinned (OpenSpec.ofChange fnSkipQuotedIgnoresWhatLiesBeforeAndAfterWrong)

/-- 'zzlaws_root_b1.FnSkipQuotedBackslashFlagIsMootWithoutBackslashes': WHATEVER THE INPUT: true; the input reads as it did. -/
def fnSkipQuotedBackslashFlagIsMootWithoutBackslashesSpec : ChangeSpec := { name := "fnSkipQuotedBackslashFlagIsMootWithoutBackslashes", fn := fun _ => fun
  | [d1, d2, d3] => { results := [.lit (.bool true)], args := [d1, d2, d3] }
  | _ => none }
def fnSkipQuotedBackslashFlagIsMootWithoutBackslashesRow : OpenClaim := { program := "qxb6600032amods", sum := "eb6122d3b38640e0ed204ea4ee046a2b971e403eaf92764144343ad65359f7c0", func := "example.com/quireline/quireline/zzlaws_root_b1.FnSkipQuotedBackslashFlagIsMootWithoutBackslashes", spec := "fnSkipQuotedBackslashFlagIsMootWithoutBackslashes", make := .lifted ["publicsums"], apart := false }
def FnSkipQuotedBackslashFlagIsMootWithoutBackslashesSaid : Prop := fnSkipQuotedBackslashFlagIsMootWithoutBackslashesRow.holds Trym.pinned (OpenSpec.ofChange fnSkipQuotedBackslashFlagIsMootWithoutBackslashesSpec)

/-- ITS FALSE NEIGHBOUR: 'it returns false'. Refute it at one input. -/
def fnSkipQuotedBackslashFlagIsMootWithoutBackslashesWrong : ChangeSpec := { name := "fnSkipQuotedBackslashFlagIsMootWithoutBackslashes", fn := fun _ => fun
  | [d1, d2, d3] => { results := [.lit (.bool false)], args := [d1, d2, d3] }
  | _ => none }
def FnSkipQuotedBackslashFlagIsMootWithoutBackslashesWrongFalsely : Prop := fnSkipQuotedBackslashFlagIsMootWithoutBackslashesRow.holds Trym.pinned (OpenSpec.ofChange fnSkipQuotedBackslashFlagIsMootWithoutBackslashesWrong)

end Rows
end Go.Proofs.Qxb6600032aMods
