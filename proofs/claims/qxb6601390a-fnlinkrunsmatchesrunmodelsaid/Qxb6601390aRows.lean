/-
  No cell of these rows narrows 'for every input' (looked for: loops, veiled, ifaces, maps, wideKeys, modest, calm, conditions, laid).
  DERIVED. THE GIVEN ROWS OF THIS SEAT. 4 by the template 'for every input the law returns true; each argument reads behind the call as it read before'; 0 by the template 'total and deterministic' (their statements: Qxb6601390aTotals.lean).
  GIVEN WITH THE SEED: the statements are not yours to turn. If you find one false, say at which input.
  Laid BY PROGRAM, IN A SANDBOX (cutbox-rows.mjs): the forced cells as the released guide's own fill.sh prints them over the translation 2aa3b1acc07de85b… (all of the seat's roots in one cut). By AI agents, Wed Nov 11 2026. No macro, syntax, notation, axiom, sorry.
-/
import Derived.Test.Qxb6601390aChecked
import GoSem.Claim
import GoSem.ClaimJoined
import GoSem.ClaimMapViews
import Derived.JoinedTies
import Derived.KernelRfl
namespace Go.Proofs.Qxb6601390a
/- THE CELL 'sum', in the pinned program and in every row, IS THE sha256 OF THE DUMP (.gsa) THAT Qxb6601390aProg.lean LOADS. Nothing in Lean hashes anything: it is a label: what it is worth is what the hold of that sum in a sandbox is worth. -/
noncomputable def Try.pinned : Pinned := { name := "qxb6601390a", sum := "2aa3b1acc07de85b9c4e00866bdbdbedca037965904b437caad165eb2514d641", checked := Try.checked }
namespace Rows
def none {H : Type} : Left H := { results := [], args := [] }

/-- 'zzlaws_internal_analysis_b1.FnLinkRunsMatchesRunModel': WHATEVER THE INPUT: true; the input reads as it did. -/
def fnLinkRunsMatchesRunModelSpec : ChangeSpec := { name := "fnLinkRunsMatchesRunModel", fn := fun _ => fun
  | [d1, d2, d3, d4] => { results := [.lit (.bool true)], args := [d1, d2, d3, d4] }
  | _ => none }
def fnLinkRunsMatchesRunModelRow : OpenClaim := { program := "qxb6601390a", sum := "2aa3b1acc07de85b9c4e00866bdbdbedca037965904b437caad165eb2514d641", func := "example.com/commitwise/commitwise/zzlaws_internal_analysis_b1.FnLinkRunsMatchesRunModel", spec := "fnLinkRunsMatchesRunModel", apart := false }
def FnLinkRunsMatchesRunModelSaid : Prop := fnLinkRunsMatchesRunModelRow.holds Try.pinned (OpenSpec.ofChange fnLinkRunsMatchesRunModelSpec)

/-- ITS FALSE NEIGHBOUR: 'it returns false'. Refute it at one input. -/
def fnLinkRunsMatchesRunModelWrong : ChangeSpec := { name := "fnLinkRunsMatchesRunModel", fn := fun _ => fun
  | [d1, d2, d3, d4] => { results := [.lit (.bool false)], args := [d1, d2, d3, d4] }
  | _ => none }
def FnLinkRunsMatchesRunModelWrongFalsely : Prop := fnLinkRunsMatchesRunModelRow.holds Try.pinned (OpenSpec.ofChange fnLinkRunsMatchesRunModelWrong)

/-- 'zzlaws_internal_analysis_b1.FnForceTwiceIsForceOnce': WHATEVER THE INPUT: true; the input reads as it did. -/
def fnForceTwiceIsForceOnceSpec : ChangeSpec := { name := "fnForceTwiceIsForceOnce", fn := fun _ => fun
  | [d1, d2, d3, d4, d5] => { results := [.lit (.bool true)], args := [d1, d2, d3, d4, d5] }
  | _ => none }
def fnForceTwiceIsForceOnceRow : OpenClaim := { program := "qxb6601390a", sum := "2aa3b1acc07de85b9c4e00866bdbdbedca037965904b437caad165eb2514d641", func := "example.com/commitwise/commitwise/zzlaws_internal_analysis_b1.FnForceTwiceIsForceOnce", spec := "fnForceTwiceIsForceOnce", recurses := true, apart := false }
def FnForceTwiceIsForceOnceSaid : Prop := fnForceTwiceIsForceOnceRow.holds Try.pinned (OpenSpec.ofChange fnForceTwiceIsForceOnceSpec)

/-- ITS FALSE NEIGHBOUR: 'it returns false'. Refute it at one input. -/
def fnForceTwiceIsForceOnceWrong : ChangeSpec := { name := "fnForceTwiceIsForceOnce", fn := fun _ => fun
  | [d1, d2, d3, d4, d5] => { results := [.lit (.bool false)], args := [d1, d2, d3, d4, d5] }
  | _ => none }
def FnForceTwiceIsForceOnceWrongFalsely : Prop := fnForceTwiceIsForceOnceRow.holds Try.pinned (OpenSpec.ofChange fnForceTwiceIsForceOnceWrong)

/-- 'zzlaws_internal_analysis_b1.FnNewDigraphGroupsArcsStablyByTail': WHATEVER THE INPUT: true; the input reads as it did. -/
def fnNewDigraphGroupsArcsStablyByTailSpec : ChangeSpec := { name := "fnNewDigraphGroupsArcsStablyByTail", fn := fun _ => fun
  | [d1, d2] => { results := [.lit (.bool true)], args := [d1, d2] }
  | _ => none }
def fnNewDigraphGroupsArcsStablyByTailRow : OpenClaim := { program := "qxb6601390a", sum := "2aa3b1acc07de85b9c4e00866bdbdbedca037965904b437caad165eb2514d641", func := "example.com/commitwise/commitwise/zzlaws_internal_analysis_b1.FnNewDigraphGroupsArcsStablyByTail", spec := "fnNewDigraphGroupsArcsStablyByTail", apart := false }
def FnNewDigraphGroupsArcsStablyByTailSaid : Prop := fnNewDigraphGroupsArcsStablyByTailRow.holds Try.pinned (OpenSpec.ofChange fnNewDigraphGroupsArcsStablyByTailSpec)

/-- ITS FALSE NEIGHBOUR: 'it returns false'. Refute it at one input. -/
def fnNewDigraphGroupsArcsStablyByTailWrong : ChangeSpec := { name := "fnNewDigraphGroupsArcsStablyByTail", fn := fun _ => fun
  | [d1, d2] => { results := [.lit (.bool false)], args := [d1, d2] }
  | _ => none }
def FnNewDigraphGroupsArcsStablyByTailWrongFalsely : Prop := fnNewDigraphGroupsArcsStablyByTailRow.holds Try.pinned (OpenSpec.ofChange fnNewDigraphGroupsArcsStablyByTailWrong)

/-- 'zzlaws_internal_analysis_b1.FnNewDigraphRebuildIsFixedPoint': WHATEVER THE INPUT: true; the input reads as it did. -/
def fnNewDigraphRebuildIsFixedPointSpec : ChangeSpec := { name := "fnNewDigraphRebuildIsFixedPoint", fn := fun _ => fun
  | [d1, d2] => { results := [.lit (.bool true)], args := [d1, d2] }
  | _ => none }
def fnNewDigraphRebuildIsFixedPointRow : OpenClaim := { program := "qxb6601390a", sum := "2aa3b1acc07de85b9c4e00866bdbdbedca037965904b437caad165eb2514d641", func := "example.com/commitwise/commitwise/zzlaws_internal_analysis_b1.FnNewDigraphRebuildIsFixedPoint", spec := "fnNewDigraphRebuildIsFixedPoint", apart := false }
def FnNewDigraphRebuildIsFixedPointSaid : Prop := fnNewDigraphRebuildIsFixedPointRow.holds Try.pinned (OpenSpec.ofChange fnNewDigraphRebuildIsFixedPointSpec)

/-- ITS FALSE NEIGHBOUR: 'it returns false'. Refute it at one input. -/
def fnNewDigraphRebuildIsFixedPointWrong : ChangeSpec := { name := "fnNewDigraphRebuildIsFixedPoint", fn := fun _ => fun
  | [d1, d2] => { results := [.lit (.bool false)], args := [d1, d2] }
  | _ => none }
def FnNewDigraphRebuildIsFixedPointWrongFalsely : Prop := fnNewDigraphRebuildIsFixedPointRow.holds Try.pinned (OpenSpec.ofChange fnNewDigraphRebuildIsFixedPointWrong)

end Rows
end Go.Proofs.Qxb6601390a
