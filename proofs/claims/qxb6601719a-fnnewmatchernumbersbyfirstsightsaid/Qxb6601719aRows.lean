/-
  No cell of these rows narrows 'for every input' (looked for: loops, veiled, ifaces, maps, wideKeys, modest, calm, conditions, laid).
  DERIVED. THE GIVEN ROWS OF THIS SEAT. 6 by the template 'for every input the law returns true; each argument reads behind the call as it read before'; 0 by the template 'total and deterministic' (their statements: Qxb6601719aTotals.lean).
  GIVEN WITH THE SEED: the statements are not yours to turn. If you find one false, say at which input.
  Laid BY PROGRAM, IN A SANDBOX (cutbox-rows.mjs): the forced cells as the released guide's own fill.sh prints them over the translation 9b550919748a373d… (all of the seat's roots in one cut). By AI agents, Wed Nov 11 2026. No macro, syntax, notation, axiom, sorry.
-/
import Derived.Test.Qxb6601719aChecked
import GoSem.Claim
import GoSem.ClaimJoined
import GoSem.ClaimMapViews
import Derived.JoinedTies
import Derived.KernelRfl
namespace Go.Proofs.Qxb6601719a
/- THE CELL 'sum', in the pinned program and in every row, IS THE sha256 OF THE DUMP (.gsa) THAT Qxb6601719aProg.lean LOADS. Nothing in Lean hashes anything: it is a label: what it is worth is what the hold of that sum in a sandbox is worth. -/
noncomputable def Try.pinned : Pinned := { name := "qxb6601719a", sum := "9b550919748a373de2611f309f4a4a71ff6d123f573b78d0a3567b125e5975bb", checked := Try.checked }
namespace Rows
def none {H : Type} : Left H := { results := [], args := [] }

/-- 'zzlaws_internal_diff_b1.FnSplitLinesExact': WHATEVER THE INPUT: true; the input reads as it did. -/
def fnSplitLinesExactSpec : ChangeSpec := { name := "fnSplitLinesExact", fn := fun _ => fun
  | [d] => { results := [.lit (.bool true)], args := [d] }
  | _ => none }
def fnSplitLinesExactRow : OpenClaim := { program := "qxb6601719a", sum := "9b550919748a373de2611f309f4a4a71ff6d123f573b78d0a3567b125e5975bb", func := "funcwise.example/funcwise/zzlaws_internal_diff_b1.FnSplitLinesExact", spec := "fnSplitLinesExact", inPlace := ["internal/bytealg.IndexByte"], apart := false }
def FnSplitLinesExactSaid : Prop := fnSplitLinesExactRow.holds Try.pinned (OpenSpec.ofChange fnSplitLinesExactSpec)

/-- ITS FALSE NEIGHBOUR: 'it returns false'. Refute it at one input. -/
def fnSplitLinesExactWrong : ChangeSpec := { name := "fnSplitLinesExact", fn := fun _ => fun
  | [d] => { results := [.lit (.bool false)], args := [d] }
  | _ => none }
def FnSplitLinesExactWrongFalsely : Prop := fnSplitLinesExactRow.holds Try.pinned (OpenSpec.ofChange fnSplitLinesExactWrong)

/-- 'zzlaws_internal_diff_b1.FnSplitLinesConcat': WHATEVER THE INPUT: true; the input reads as it did. -/
def fnSplitLinesConcatSpec : ChangeSpec := { name := "fnSplitLinesConcat", fn := fun _ => fun
  | [d1, d2] => { results := [.lit (.bool true)], args := [d1, d2] }
  | _ => none }
def fnSplitLinesConcatRow : OpenClaim := { program := "qxb6601719a", sum := "9b550919748a373de2611f309f4a4a71ff6d123f573b78d0a3567b125e5975bb", func := "funcwise.example/funcwise/zzlaws_internal_diff_b1.FnSplitLinesConcat", spec := "fnSplitLinesConcat", inPlace := ["internal/bytealg.IndexByte"], apart := false }
def FnSplitLinesConcatSaid : Prop := fnSplitLinesConcatRow.holds Try.pinned (OpenSpec.ofChange fnSplitLinesConcatSpec)

/-- ITS FALSE NEIGHBOUR: 'it returns false'. Refute it at one input. -/
def fnSplitLinesConcatWrong : ChangeSpec := { name := "fnSplitLinesConcat", fn := fun _ => fun
  | [d1, d2] => { results := [.lit (.bool false)], args := [d1, d2] }
  | _ => none }
def FnSplitLinesConcatWrongFalsely : Prop := fnSplitLinesConcatRow.holds Try.pinned (OpenSpec.ofChange fnSplitLinesConcatWrong)

/-- 'zzlaws_internal_diff_b1.FnNewMatcherNumbersByFirstSight': WHATEVER THE INPUT: true; the input reads as it did. -/
def fnNewMatcherNumbersByFirstSightSpec : ChangeSpec := { name := "fnNewMatcherNumbersByFirstSight", fn := fun _ => fun
  | [d1, d2] => { results := [.lit (.bool true)], args := [d1, d2] }
  | _ => none }
def fnNewMatcherNumbersByFirstSightRow : OpenClaim := { program := "qxb6601719a", sum := "9b550919748a373de2611f309f4a4a71ff6d123f573b78d0a3567b125e5975bb", func := "funcwise.example/funcwise/zzlaws_internal_diff_b1.FnNewMatcherNumbersByFirstSight", spec := "fnNewMatcherNumbersByFirstSight", unfollowed := true, recurses := true, apart := false }
def FnNewMatcherNumbersByFirstSightSaid : Prop := fnNewMatcherNumbersByFirstSightRow.holds Try.pinned (OpenSpec.ofChange fnNewMatcherNumbersByFirstSightSpec)

/-- ITS FALSE NEIGHBOUR: 'it returns false'. Refute it at one input. -/
def fnNewMatcherNumbersByFirstSightWrong : ChangeSpec := { name := "fnNewMatcherNumbersByFirstSight", fn := fun _ => fun
  | [d1, d2] => { results := [.lit (.bool false)], args := [d1, d2] }
  | _ => none }
def FnNewMatcherNumbersByFirstSightWrongFalsely : Prop := fnNewMatcherNumbersByFirstSightRow.holds Try.pinned (OpenSpec.ofChange fnNewMatcherNumbersByFirstSightWrong)

/-- 'zzlaws_internal_diff_b1.FnNewMatcherIgnoresWhereTextsMeet': WHATEVER THE INPUT: true; the input reads as it did. -/
def fnNewMatcherIgnoresWhereTextsMeetSpec : ChangeSpec := { name := "fnNewMatcherIgnoresWhereTextsMeet", fn := fun _ => fun
  | [d1, d2] => { results := [.lit (.bool true)], args := [d1, d2] }
  | _ => none }
def fnNewMatcherIgnoresWhereTextsMeetRow : OpenClaim := { program := "qxb6601719a", sum := "9b550919748a373de2611f309f4a4a71ff6d123f573b78d0a3567b125e5975bb", func := "funcwise.example/funcwise/zzlaws_internal_diff_b1.FnNewMatcherIgnoresWhereTextsMeet", spec := "fnNewMatcherIgnoresWhereTextsMeet", unfollowed := true, recurses := true, apart := false }
def FnNewMatcherIgnoresWhereTextsMeetSaid : Prop := fnNewMatcherIgnoresWhereTextsMeetRow.holds Try.pinned (OpenSpec.ofChange fnNewMatcherIgnoresWhereTextsMeetSpec)

/-- ITS FALSE NEIGHBOUR: 'it returns false'. Refute it at one input. -/
def fnNewMatcherIgnoresWhereTextsMeetWrong : ChangeSpec := { name := "fnNewMatcherIgnoresWhereTextsMeet", fn := fun _ => fun
  | [d1, d2] => { results := [.lit (.bool false)], args := [d1, d2] }
  | _ => none }
def FnNewMatcherIgnoresWhereTextsMeetWrongFalsely : Prop := fnNewMatcherIgnoresWhereTextsMeetRow.holds Try.pinned (OpenSpec.ofChange fnNewMatcherIgnoresWhereTextsMeetWrong)

/-- 'zzlaws_internal_diff_b1.FnLongestCommonFindsALongest': WHATEVER THE INPUT: true; the input reads as it did. -/
def fnLongestCommonFindsALongestSpec : ChangeSpec := { name := "fnLongestCommonFindsALongest", fn := fun _ => fun
  | [d1, d2, d3, d4, d5, d6, d7, d8] => { results := [.lit (.bool true)], args := [d1, d2, d3, d4, d5, d6, d7, d8] }
  | _ => none }
def fnLongestCommonFindsALongestRow : OpenClaim := { program := "qxb6601719a", sum := "9b550919748a373de2611f309f4a4a71ff6d123f573b78d0a3567b125e5975bb", func := "funcwise.example/funcwise/zzlaws_internal_diff_b1.FnLongestCommonFindsALongest", spec := "fnLongestCommonFindsALongest", apart := false }
def FnLongestCommonFindsALongestSaid : Prop := fnLongestCommonFindsALongestRow.holds Try.pinned (OpenSpec.ofChange fnLongestCommonFindsALongestSpec)

/-- ITS FALSE NEIGHBOUR: 'it returns false'. Refute it at one input. -/
def fnLongestCommonFindsALongestWrong : ChangeSpec := { name := "fnLongestCommonFindsALongest", fn := fun _ => fun
  | [d1, d2, d3, d4, d5, d6, d7, d8] => { results := [.lit (.bool false)], args := [d1, d2, d3, d4, d5, d6, d7, d8] }
  | _ => none }
def FnLongestCommonFindsALongestWrongFalsely : Prop := fnLongestCommonFindsALongestRow.holds Try.pinned (OpenSpec.ofChange fnLongestCommonFindsALongestWrong)

/-- 'zzlaws_internal_diff_b1.FnLongestCommonKeepsAnUnchangedStretch': WHATEVER THE INPUT: true; the input reads as it did. -/
def fnLongestCommonKeepsAnUnchangedStretchSpec : ChangeSpec := { name := "fnLongestCommonKeepsAnUnchangedStretch", fn := fun _ => fun
  | [d1, d2, d3, d4, d5, d6] => { results := [.lit (.bool true)], args := [d1, d2, d3, d4, d5, d6] }
  | _ => none }
def fnLongestCommonKeepsAnUnchangedStretchRow : OpenClaim := { program := "qxb6601719a", sum := "9b550919748a373de2611f309f4a4a71ff6d123f573b78d0a3567b125e5975bb", func := "funcwise.example/funcwise/zzlaws_internal_diff_b1.FnLongestCommonKeepsAnUnchangedStretch", spec := "fnLongestCommonKeepsAnUnchangedStretch", apart := false }
def FnLongestCommonKeepsAnUnchangedStretchSaid : Prop := fnLongestCommonKeepsAnUnchangedStretchRow.holds Try.pinned (OpenSpec.ofChange fnLongestCommonKeepsAnUnchangedStretchSpec)

/-- ITS FALSE NEIGHBOUR: 'it returns false'. Refute it at one input. -/
def fnLongestCommonKeepsAnUnchangedStretchWrong : ChangeSpec := { name := "fnLongestCommonKeepsAnUnchangedStretch", fn := fun _ => fun
  | [d1, d2, d3, d4, d5, d6] => { results := [.lit (.bool false)], args := [d1, d2, d3, d4, d5, d6] }
  | _ => none }
def FnLongestCommonKeepsAnUnchangedStretchWrongFalsely : Prop := fnLongestCommonKeepsAnUnchangedStretchRow.holds Try.pinned (OpenSpec.ofChange fnLongestCommonKeepsAnUnchangedStretchWrong)

end Rows
end Go.Proofs.Qxb6601719a
