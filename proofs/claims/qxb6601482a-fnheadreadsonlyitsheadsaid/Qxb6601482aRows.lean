/-
  No cell of these rows narrows 'for every input' (looked for: loops, veiled, ifaces, maps, wideKeys, modest, calm, conditions, laid).
  DERIVED. THE GIVEN ROWS OF THIS SEAT. 4 by the template 'for every input the law returns true; each argument reads behind the call as it read before'; 0 by the template 'total and deterministic' (their statements: Qxb6601482aTotals.lean).
  GIVEN WITH THE SEED: the statements are not yours to turn. If you find one false, say at which input.
  Laid BY PROGRAM, IN A SANDBOX (cutbox-rows.mjs): the forced cells as the released guide's own fill.sh prints them over the translation 2fc9627f4195a710… (all of the seat's roots in one cut). By AI agents, Wed Nov 11 2026. No macro, syntax, notation, axiom, sorry.
-/
import Derived.Test.Qxb6601482aChecked
import GoSem.Claim
import GoSem.ClaimJoined
import GoSem.ClaimMapViews
import Derived.JoinedTies
import Derived.KernelRfl
namespace Go.Proofs.Qxb6601482a
/- THE CELL 'sum', in the pinned program and in every row, IS THE sha256 OF THE DUMP (.gsa) THAT Qxb6601482aProg.lean LOADS. Nothing in Lean hashes anything: it is a label: what it is worth is what the hold of that sum in a sandbox is worth. -/
noncomputable def Try.pinned : Pinned := { name := "qxb6601482a", sum := "2fc9627f4195a7106b53ce33c43f780773a8b98ff0f6e66924d98a3ddba48c6b", checked := Try.checked }
namespace Rows
def none {H : Type} : Left H := { results := [], args := [] }

/-- 'zzlaws_internal_codec_b1.FnHeadSizeTable': WHATEVER THE INPUT: true; the input reads as it did. -/
def fnHeadSizeTableSpec : ChangeSpec := { name := "fnHeadSizeTable", fn := fun _ => fun
  | [d] => { results := [.lit (.bool true)], args := [d] }
  | _ => none }
def fnHeadSizeTableRow : OpenClaim := { program := "qxb6601482a", sum := "2fc9627f4195a7106b53ce33c43f780773a8b98ff0f6e66924d98a3ddba48c6b", func := "example.com/ledgerwell/ledgerwell/zzlaws_internal_codec_b1.FnHeadSizeTable", spec := "fnHeadSizeTable", apart := false }
def FnHeadSizeTableSaid : Prop := fnHeadSizeTableRow.holds Try.pinned (OpenSpec.ofChange fnHeadSizeTableSpec)

/-- ITS FALSE NEIGHBOUR: 'it returns false'. Refute it at one input. -/
def fnHeadSizeTableWrong : ChangeSpec := { name := "fnHeadSizeTable", fn := fun _ => fun
  | [d] => { results := [.lit (.bool false)], args := [d] }
  | _ => none }
def FnHeadSizeTableWrongFalsely : Prop := fnHeadSizeTableRow.holds Try.pinned (OpenSpec.ofChange fnHeadSizeTableWrong)

/-- 'zzlaws_internal_codec_b1.FnHeadSpec': WHATEVER THE INPUT: true; the input reads as it did. -/
def fnHeadSpecSpec : ChangeSpec := { name := "fnHeadSpec", fn := fun _ => fun
  | [d] => { results := [.lit (.bool true)], args := [d] }
  | _ => none }
def fnHeadSpecRow : OpenClaim := { program := "qxb6601482a", sum := "2fc9627f4195a7106b53ce33c43f780773a8b98ff0f6e66924d98a3ddba48c6b", func := "example.com/ledgerwell/ledgerwell/zzlaws_internal_codec_b1.FnHeadSpec", spec := "fnHeadSpec", apart := false }
def FnHeadSpecSaid : Prop := fnHeadSpecRow.holds Try.pinned (OpenSpec.ofChange fnHeadSpecSpec)

/-- ITS FALSE NEIGHBOUR: 'it returns false'. Refute it at one input. -/
def fnHeadSpecWrong : ChangeSpec := { name := "fnHeadSpec", fn := fun _ => fun
  | [d] => { results := [.lit (.bool false)], args := [d] }
  | _ => none }
def FnHeadSpecWrongFalsely : Prop := fnHeadSpecRow.holds Try.pinned (OpenSpec.ofChange fnHeadSpecWrong)

/-- 'zzlaws_internal_codec_b1.FnHeadRoundTrip': WHATEVER THE INPUT: true; the input reads as it did. -/
def fnHeadRoundTripSpec : ChangeSpec := { name := "fnHeadRoundTrip", fn := fun _ => fun
  | [d1, d2, d3, d4] => { results := [.lit (.bool true)], args := [d1, d2, d3, d4] }
  | _ => none }
def fnHeadRoundTripRow : OpenClaim := { program := "qxb6601482a", sum := "2fc9627f4195a7106b53ce33c43f780773a8b98ff0f6e66924d98a3ddba48c6b", func := "example.com/ledgerwell/ledgerwell/zzlaws_internal_codec_b1.FnHeadRoundTrip", spec := "fnHeadRoundTrip", apart := false }
def FnHeadRoundTripSaid : Prop := fnHeadRoundTripRow.holds Try.pinned (OpenSpec.ofChange fnHeadRoundTripSpec)

/-- ITS FALSE NEIGHBOUR: 'it returns false'. Refute it at one input. -/
def fnHeadRoundTripWrong : ChangeSpec := { name := "fnHeadRoundTrip", fn := fun _ => fun
  | [d1, d2, d3, d4] => { results := [.lit (.bool false)], args := [d1, d2, d3, d4] }
  | _ => none }
def FnHeadRoundTripWrongFalsely : Prop := fnHeadRoundTripRow.holds Try.pinned (OpenSpec.ofChange fnHeadRoundTripWrong)

/-- 'zzlaws_internal_codec_b1.FnHeadReadsOnlyItsHead': WHATEVER THE INPUT: true; the input reads as it did. -/
def fnHeadReadsOnlyItsHeadSpec : ChangeSpec := { name := "fnHeadReadsOnlyItsHead", fn := fun _ => fun
  | [d1, d2] => { results := [.lit (.bool true)], args := [d1, d2] }
  | _ => none }
def fnHeadReadsOnlyItsHeadRow : OpenClaim := { program := "qxb6601482a", sum := "2fc9627f4195a7106b53ce33c43f780773a8b98ff0f6e66924d98a3ddba48c6b", func := "example.com/ledgerwell/ledgerwell/zzlaws_internal_codec_b1.FnHeadReadsOnlyItsHead", spec := "fnHeadReadsOnlyItsHead", apart := false }
def FnHeadReadsOnlyItsHeadSaid : Prop := fnHeadReadsOnlyItsHeadRow.holds Try.pinned (OpenSpec.ofChange fnHeadReadsOnlyItsHeadSpec)

/-- ITS FALSE NEIGHBOUR: 'it returns false'. Refute it at one input. -/
def fnHeadReadsOnlyItsHeadWrong : ChangeSpec := { name := "fnHeadReadsOnlyItsHead", fn := fun _ => fun
  | [d1, d2] => { results := [.lit (.bool false)], args := [d1, d2] }
  | _ => none }
def FnHeadReadsOnlyItsHeadWrongFalsely : Prop := fnHeadReadsOnlyItsHeadRow.holds Try.pinned (OpenSpec.ofChange fnHeadReadsOnlyItsHeadWrong)

end Rows
end Go.Proofs.Qxb6601482a
