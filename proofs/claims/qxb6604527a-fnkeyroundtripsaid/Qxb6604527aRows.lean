/-
  No cell of these rows narrows 'for every input' (looked for: loops, veiled, ifaces, maps, wideKeys, modest, calm, conditions, laid).
  DERIVED. THE GIVEN ROWS OF THIS SEAT. 2 by the template 'for every input the law returns true; each argument reads behind the call as it read before'; 0 by the template 'total and deterministic' (their statements: Qxb6604527aTotals.lean).
  GIVEN WITH THE SEED: the statements are not yours to turn. If you find one false, say at which input.
  Laid BY PROGRAM, IN A SANDBOX (cutbox-rows.mjs): the forced cells as the released guide's own fill.sh prints them over the translation 51f7fd259f67fee6… (all of the seat's roots in one cut). By AI agents, Wed Nov 11 2026. No macro, syntax, notation, axiom, sorry.
-/
import Derived.Test.Qxb6604527aChecked
import GoSem.Claim
import GoSem.ClaimJoined
import GoSem.ClaimMapViews
import Derived.JoinedTies
import Derived.KernelRfl
namespace Go.Proofs.Qxb6604527a
/- THE CELL 'sum', in the pinned program and in every row, IS THE sha256 OF THE DUMP (.gsa) THAT Qxb6604527aProg.lean LOADS. Nothing in Lean hashes anything: it is a label: what it is worth is what the hold of that sum in a sandbox is worth. -/
noncomputable def Try.pinned : Pinned := { name := "qxb6604527a", sum := "51f7fd259f67fee6cfd95063371c21d8a328830d3fad535b8c769cff3a939342", checked := Try.checked }
namespace Rows
def none {H : Type} : Left H := { results := [], args := [] }

/-- 'zzlaws_root_b1.FnKeyExact': WHATEVER THE INPUT: true; the input reads as it did. -/
def fnKeyExactSpec : ChangeSpec := { name := "fnKeyExact", fn := fun _ => fun
  | [d1, d2] => { results := [.lit (.bool true)], args := [d1, d2] }
  | _ => none }
def fnKeyExactRow : OpenClaim := { program := "qxb6604527a", sum := "51f7fd259f67fee6cfd95063371c21d8a328830d3fad535b8c769cff3a939342", func := "example.com/tallyround/tallyround/zzlaws_root_b1.FnKeyExact", spec := "fnKeyExact", inPlace := ["internal/bytealg.IndexByte"], apart := false }
def FnKeyExactSaid : Prop := fnKeyExactRow.holds Try.pinned (OpenSpec.ofChange fnKeyExactSpec)

/-- ITS FALSE NEIGHBOUR: 'it returns false'. Refute it at one input. -/
def fnKeyExactWrong : ChangeSpec := { name := "fnKeyExact", fn := fun _ => fun
  | [d1, d2] => { results := [.lit (.bool false)], args := [d1, d2] }
  | _ => none }
def FnKeyExactWrongFalsely : Prop := fnKeyExactRow.holds Try.pinned (OpenSpec.ofChange fnKeyExactWrong)

/-- 'zzlaws_root_b1.FnKeyRoundTrip': WHATEVER THE INPUT: true; the input reads as it did. -/
def fnKeyRoundTripSpec : ChangeSpec := { name := "fnKeyRoundTrip", fn := fun _ => fun
  | [d1, d2, d3, d4] => { results := [.lit (.bool true)], args := [d1, d2, d3, d4] }
  | _ => none }
def fnKeyRoundTripRow : OpenClaim := { program := "qxb6604527a", sum := "51f7fd259f67fee6cfd95063371c21d8a328830d3fad535b8c769cff3a939342", func := "example.com/tallyround/tallyround/zzlaws_root_b1.FnKeyRoundTrip", spec := "fnKeyRoundTrip", inPlace := ["internal/bytealg.IndexByte"], apart := false }
def FnKeyRoundTripSaid : Prop := fnKeyRoundTripRow.holds Try.pinned (OpenSpec.ofChange fnKeyRoundTripSpec)

/-- ITS FALSE NEIGHBOUR: 'it returns false'. Refute it at one input. -/
def fnKeyRoundTripWrong : ChangeSpec := { name := "fnKeyRoundTrip", fn := fun _ => fun
  | [d1, d2, d3, d4] => { results := [.lit (.bool false)], args := [d1, d2, d3, d4] }
  | _ => none }
def FnKeyRoundTripWrongFalsely : Prop := fnKeyRoundTripRow.holds Try.pinned (OpenSpec.ofChange fnKeyRoundTripWrong)

end Rows
end Go.Proofs.Qxb6604527a
