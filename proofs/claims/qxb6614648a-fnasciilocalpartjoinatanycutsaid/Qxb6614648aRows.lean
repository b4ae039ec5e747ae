/-
  No cell of these rows narrows 'for every input' (looked for: loops, veiled, ifaces, maps, wideKeys, modest, calm, conditions, laid).
  DERIVED. THE GIVEN ROWS OF THIS SEAT. 2 by the template 'for every input the law returns true; each argument reads behind the call as it read before'; 0 by the template 'total and deterministic' (their statements: Qxb6614648aTotals.lean).
  GIVEN WITH THE SEED: the statements are not yours to turn. If you find one false, say at which input.
  Laid BY PROGRAM, IN A SANDBOX (cutbox-rows.mjs): the forced cells as the released guide's own fill.sh prints them over the translation 68b18f23241a2826… (all of the seat's roots in one cut). By AI agents, Wed Nov 11 2026. No macro, syntax, notation, axiom, sorry.
-/
import Derived.Test.Qxb6614648aChecked
import GoSem.Claim
import GoSem.ClaimJoined
import GoSem.ClaimMapViews
import Derived.JoinedTies
import Derived.KernelRfl
namespace Go.Proofs.Qxb6614648a
/- THE CELL 'sum', in the pinned program and in every row, IS THE sha256 OF THE DUMP (.gsa) THAT Qxb6614648aProg.lean LOADS. Nothing in Lean hashes anything: it is a label: what it is worth is what the hold of that sum in a sandbox is worth. -/
noncomputable def Try.pinned : Pinned := { name := "qxb6614648a", sum := "68b18f23241a2826d8e20dca61f25eff4b38585e79483178885b4b233819514d", checked := Try.checked }
namespace Rows
def none {H : Type} : Left H := { results := [], args := [] }

/-- 'zzlaws_root_b1.FnAsciiLocalPartJoinAtAnyCut': WHATEVER THE INPUT: true; the input reads as it did. -/
def fnAsciiLocalPartJoinAtAnyCutSpec : ChangeSpec := { name := "fnAsciiLocalPartJoinAtAnyCut", fn := fun _ => fun
  | [d1, d2, d3] => { results := [.lit (.bool true)], args := [d1, d2, d3] }
  | _ => none }
def fnAsciiLocalPartJoinAtAnyCutRow : OpenClaim := { program := "qxb6614648a", sum := "68b18f23241a2826d8e20dca61f25eff4b38585e79483178885b4b233819514d", func := "example.com/certmail/certmail/zzlaws_root_b1.FnAsciiLocalPartJoinAtAnyCut", spec := "fnAsciiLocalPartJoinAtAnyCut", apart := false }
def FnAsciiLocalPartJoinAtAnyCutSaid : Prop := fnAsciiLocalPartJoinAtAnyCutRow.holds Try.pinned (OpenSpec.ofChange fnAsciiLocalPartJoinAtAnyCutSpec)

/-- ITS FALSE NEIGHBOUR: 'it returns false'. Refute it at one input. -/
def fnAsciiLocalPartJoinAtAnyCutWrong : ChangeSpec := { name := "fnAsciiLocalPartJoinAtAnyCut", fn := fun _ => fun
  | [d1, d2, d3] => { results := [.lit (.bool false)], args := [d1, d2, d3] }
  | _ => none }
def FnAsciiLocalPartJoinAtAnyCutWrongFalsely : Prop := fnAsciiLocalPartJoinAtAnyCutRow.holds Try.pinned (OpenSpec.ofChange fnAsciiLocalPartJoinAtAnyCutWrong)

/-- 'zzlaws_root_b1.FnAsciiLocalPartOctetDecides': WHATEVER THE INPUT: true; the input reads as it did. -/
def fnAsciiLocalPartOctetDecidesSpec : ChangeSpec := { name := "fnAsciiLocalPartOctetDecides", fn := fun _ => fun
  | [d1, d2, d3, d4] => { results := [.lit (.bool true)], args := [d1, d2, d3, d4] }
  | _ => none }
def fnAsciiLocalPartOctetDecidesRow : OpenClaim := { program := "qxb6614648a", sum := "68b18f23241a2826d8e20dca61f25eff4b38585e79483178885b4b233819514d", func := "example.com/certmail/certmail/zzlaws_root_b1.FnAsciiLocalPartOctetDecides", spec := "fnAsciiLocalPartOctetDecides", apart := false }
def FnAsciiLocalPartOctetDecidesSaid : Prop := fnAsciiLocalPartOctetDecidesRow.holds Try.pinned (OpenSpec.ofChange fnAsciiLocalPartOctetDecidesSpec)

/-- ITS FALSE NEIGHBOUR: 'it returns false'. Refute it at one input. -/
def fnAsciiLocalPartOctetDecidesWrong : ChangeSpec := { name := "fnAsciiLocalPartOctetDecides", fn := fun _ => fun
  | [d1, d2, d3, d4] => { results := [.lit (.bool false)], args := [d1, d2, d3, d4] }
  | _ => none }
def FnAsciiLocalPartOctetDecidesWrongFalsely : Prop := fnAsciiLocalPartOctetDecidesRow.holds Try.pinned (OpenSpec.ofChange fnAsciiLocalPartOctetDecidesWrong)

end Rows
end Go.Proofs.Qxb6614648a
