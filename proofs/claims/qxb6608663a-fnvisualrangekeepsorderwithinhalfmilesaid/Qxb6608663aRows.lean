/-
  No cell of these rows narrows 'for every input' (looked for: loops, veiled, ifaces, maps, wideKeys, modest, calm, conditions, laid).
  DERIVED. THE GIVEN ROWS OF THIS SEAT. 2 by the template 'for every input the law returns true; each argument reads behind the call as it read before'; 0 by the template 'total and deterministic' (their statements: Qxb6608663aTotals.lean).
  GIVEN WITH THE SEED: the statements are not yours to turn. If you find one false, say at which input.
  Laid BY PROGRAM, IN A SANDBOX (cutbox-rows.mjs): the forced cells as the released guide's own fill.sh prints them over the translation 6bf7fb8c3b2e222f… (all of the seat's roots in one cut). By AI agents, Wed Nov 11 2026. No macro, syntax, notation, axiom, sorry.
-/
import Derived.Test.Qxb6608663aChecked
import GoSem.Claim
import GoSem.ClaimJoined
import GoSem.ClaimMapViews
import Derived.JoinedTies
import Derived.KernelRfl
namespace Go.Proofs.Qxb6608663a
/- THE CELL 'sum', in the pinned program and in every row, IS THE sha256 OF THE DUMP (.gsa) THAT Qxb6608663aProg.lean LOADS. Nothing in Lean hashes anything: it is a label: what it is worth is what the hold of that sum in a sandbox is worth. -/
noncomputable def Try.pinned : Pinned := { name := "qxb6608663a", sum := "6bf7fb8c3b2e222f8b19fe7fa18abac2dbc7d41f135817de666a9b5aed5337de", checked := Try.checked }
namespace Rows
def none {H : Type} : Left H := { results := [], args := [] }

/-- 'zzlaws_internal_feed_b1.FnVisualRangeIsNearestWholeMile': WHATEVER THE INPUT: true; the input reads as it did. -/
def fnVisualRangeIsNearestWholeMileSpec : ChangeSpec := { name := "fnVisualRangeIsNearestWholeMile", fn := fun _ => fun
  | [d] => { results := [.lit (.bool true)], args := [d] }
  | _ => none }
def fnVisualRangeIsNearestWholeMileRow : OpenClaim := { program := "qxb6608663a", sum := "6bf7fb8c3b2e222f8b19fe7fa18abac2dbc7d41f135817de666a9b5aed5337de", func := "example.com/squawkwire/squawkwire/zzlaws_internal_feed_b1.FnVisualRangeIsNearestWholeMile", spec := "fnVisualRangeIsNearestWholeMile", inPlace := ["math.archMin", "math.Float64bits", "math.Float64frombits"], apart := false }
def FnVisualRangeIsNearestWholeMileSaid : Prop := fnVisualRangeIsNearestWholeMileRow.holds Try.pinned (OpenSpec.ofChange fnVisualRangeIsNearestWholeMileSpec)

/-- ITS FALSE NEIGHBOUR: 'it returns false'. Refute it at one input. -/
def fnVisualRangeIsNearestWholeMileWrong : ChangeSpec := { name := "fnVisualRangeIsNearestWholeMile", fn := fun _ => fun
  | [d] => { results := [.lit (.bool false)], args := [d] }
  | _ => none }
def FnVisualRangeIsNearestWholeMileWrongFalsely : Prop := fnVisualRangeIsNearestWholeMileRow.holds Try.pinned (OpenSpec.ofChange fnVisualRangeIsNearestWholeMileWrong)

/-- 'zzlaws_internal_feed_b1.FnVisualRangeKeepsOrderWithinHalfMile': WHATEVER THE INPUT: true; the input reads as it did. -/
def fnVisualRangeKeepsOrderWithinHalfMileSpec : ChangeSpec := { name := "fnVisualRangeKeepsOrderWithinHalfMile", fn := fun _ => fun
  | [d1, d2] => { results := [.lit (.bool true)], args := [d1, d2] }
  | _ => none }
def fnVisualRangeKeepsOrderWithinHalfMileRow : OpenClaim := { program := "qxb6608663a", sum := "6bf7fb8c3b2e222f8b19fe7fa18abac2dbc7d41f135817de666a9b5aed5337de", func := "example.com/squawkwire/squawkwire/zzlaws_internal_feed_b1.FnVisualRangeKeepsOrderWithinHalfMile", spec := "fnVisualRangeKeepsOrderWithinHalfMile", inPlace := ["math.archMin", "math.Float64bits", "math.Float64frombits"], apart := false }
def FnVisualRangeKeepsOrderWithinHalfMileSaid : Prop := fnVisualRangeKeepsOrderWithinHalfMileRow.holds Try.pinned (OpenSpec.ofChange fnVisualRangeKeepsOrderWithinHalfMileSpec)

/-- ITS FALSE NEIGHBOUR: 'it returns false'. Refute it at one input. -/
def fnVisualRangeKeepsOrderWithinHalfMileWrong : ChangeSpec := { name := "fnVisualRangeKeepsOrderWithinHalfMile", fn := fun _ => fun
  | [d1, d2] => { results := [.lit (.bool false)], args := [d1, d2] }
  | _ => none }
def FnVisualRangeKeepsOrderWithinHalfMileWrongFalsely : Prop := fnVisualRangeKeepsOrderWithinHalfMileRow.holds Try.pinned (OpenSpec.ofChange fnVisualRangeKeepsOrderWithinHalfMileWrong)

end Rows
end Go.Proofs.Qxb6608663a
