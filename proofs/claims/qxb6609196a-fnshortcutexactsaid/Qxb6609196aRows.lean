/-
  No cell of these rows narrows 'for every input' (looked for: loops, veiled, ifaces, maps, wideKeys, modest, calm, conditions, laid).
  DERIVED. THE GIVEN ROWS OF THIS SEAT. 4 by the template 'for every input the law returns true; each argument reads behind the call as it read before'; 0 by the template 'total and deterministic' (their statements: Qxb6609196aTotals.lean).
  GIVEN WITH THE SEED: the statements are not yours to turn. If you find one false, say at which input.
  Laid BY PROGRAM, IN A SANDBOX (cutbox-rows.mjs): the forced cells as the released guide's own fill.sh prints them over the translation c7c484b2ff59f0f7… (all of the seat's roots in one cut). By AI agents, Wed Nov 11 2026. No macro, syntax, notation, axiom, sorry.
-/
import Derived.Test.Qxb6609196aChecked
import GoSem.Claim
import GoSem.ClaimJoined
import GoSem.ClaimMapViews
import Derived.JoinedTies
import Derived.KernelRfl
namespace Go.Proofs.Qxb6609196a
/- THE CELL 'sum', in the pinned program and in every row, IS THE sha256 OF THE DUMP (.gsa) THAT Qxb6609196aProg.lean LOADS. Nothing in Lean hashes anything: it is a label: what it is worth is what the hold of that sum in a sandbox is worth. -/
noncomputable def Try.pinned : Pinned := { name := "qxb6609196a", sum := "c7c484b2ff59f0f7ad277b3e5634820a72336bf59c08c6f34e8c8933fbd1a5c3", checked := Try.checked }
namespace Rows
def none {H : Type} : Left H := { results := [], args := [] }

/-- 'zzlaws_pkg_description_b1.FnIsOpenAPIPatchAndNeighbours': WHATEVER THE INPUT: true; the input reads as it did. -/
def fnIsOpenAPIPatchAndNeighboursSpec : ChangeSpec := { name := "fnIsOpenAPIPatchAndNeighbours", fn := fun _ => fun
  | [d1, d2] => { results := [.lit (.bool true)], args := [d1, d2] }
  | _ => none }
def fnIsOpenAPIPatchAndNeighboursRow : OpenClaim := { program := "qxb6609196a", sum := "c7c484b2ff59f0f7ad277b3e5634820a72336bf59c08c6f34e8c8933fbd1a5c3", func := "example.com/pathfold/pathfold/zzlaws_pkg_description_b1.FnIsOpenAPIPatchAndNeighbours", spec := "fnIsOpenAPIPatchAndNeighbours", apart := false }
def FnIsOpenAPIPatchAndNeighboursSaid : Prop := fnIsOpenAPIPatchAndNeighboursRow.holds Try.pinned (OpenSpec.ofChange fnIsOpenAPIPatchAndNeighboursSpec)

/-- ITS FALSE NEIGHBOUR: 'it returns false'. Refute it at one input. -/
def fnIsOpenAPIPatchAndNeighboursWrong : ChangeSpec := { name := "fnIsOpenAPIPatchAndNeighbours", fn := fun _ => fun
  | [d1, d2] => { results := [.lit (.bool false)], args := [d1, d2] }
  | _ => none }
def FnIsOpenAPIPatchAndNeighboursWrongFalsely : Prop := fnIsOpenAPIPatchAndNeighboursRow.holds Try.pinned (OpenSpec.ofChange fnIsOpenAPIPatchAndNeighboursWrong)

/-- 'zzlaws_pkg_description_b1.FnSchemaNameRoundTrip': WHATEVER THE INPUT: true; the input reads as it did. -/
def fnSchemaNameRoundTripSpec : ChangeSpec := { name := "fnSchemaNameRoundTrip", fn := fun _ => fun
  | [d1, d2] => { results := [.lit (.bool true)], args := [d1, d2] }
  | _ => none }
def fnSchemaNameRoundTripRow : OpenClaim := { program := "qxb6609196a", sum := "c7c484b2ff59f0f7ad277b3e5634820a72336bf59c08c6f34e8c8933fbd1a5c3", func := "example.com/pathfold/pathfold/zzlaws_pkg_description_b1.FnSchemaNameRoundTrip", spec := "fnSchemaNameRoundTrip", inPlace := ["internal/bytealg.IndexByteString", "internal/bytealg.IndexString"], named := ["internal/bytealg.MaxLen"], apart := false }
def FnSchemaNameRoundTripSaid : Prop := fnSchemaNameRoundTripRow.holds Try.pinned (OpenSpec.ofChange fnSchemaNameRoundTripSpec)

/-- ITS FALSE NEIGHBOUR: 'it returns false'. Refute it at one input. -/
def fnSchemaNameRoundTripWrong : ChangeSpec := { name := "fnSchemaNameRoundTrip", fn := fun _ => fun
  | [d1, d2] => { results := [.lit (.bool false)], args := [d1, d2] }
  | _ => none }
def FnSchemaNameRoundTripWrongFalsely : Prop := fnSchemaNameRoundTripRow.holds Try.pinned (OpenSpec.ofChange fnSchemaNameRoundTripWrong)

/-- 'zzlaws_pkg_description_b1.FnShortcutExact': WHATEVER THE INPUT: true; the input reads as it did. -/
def fnShortcutExactSpec : ChangeSpec := { name := "fnShortcutExact", fn := fun _ => fun
  | [d1, d2, d3] => { results := [.lit (.bool true)], args := [d1, d2, d3] }
  | _ => none }
def fnShortcutExactRow : OpenClaim := { program := "qxb6609196a", sum := "c7c484b2ff59f0f7ad277b3e5634820a72336bf59c08c6f34e8c8933fbd1a5c3", func := "example.com/pathfold/pathfold/zzlaws_pkg_description_b1.FnShortcutExact", spec := "fnShortcutExact", inPlace := ["internal/bytealg.IndexByteString", "internal/bytealg.IndexString"], unfollowed := true, recurses := true, named := ["internal/bytealg.MaxLen"], apart := false }
def FnShortcutExactSaid : Prop := fnShortcutExactRow.holds Try.pinned (OpenSpec.ofChange fnShortcutExactSpec)

/-- ITS FALSE NEIGHBOUR: 'it returns false'. Refute it at one input. -/
def fnShortcutExactWrong : ChangeSpec := { name := "fnShortcutExact", fn := fun _ => fun
  | [d1, d2, d3] => { results := [.lit (.bool false)], args := [d1, d2, d3] }
  | _ => none }
def FnShortcutExactWrongFalsely : Prop := fnShortcutExactRow.holds Try.pinned (OpenSpec.ofChange fnShortcutExactWrong)

/-- 'zzlaws_pkg_description_b1.FnShortcutScript': WHATEVER THE INPUT: true; the input reads as it did. -/
def fnShortcutScriptSpec : ChangeSpec := { name := "fnShortcutScript", fn := fun _ => fun
  | [d1, d2, d3] => { results := [.lit (.bool true)], args := [d1, d2, d3] }
  | _ => none }
def fnShortcutScriptRow : OpenClaim := { program := "qxb6609196a", sum := "c7c484b2ff59f0f7ad277b3e5634820a72336bf59c08c6f34e8c8933fbd1a5c3", func := "example.com/pathfold/pathfold/zzlaws_pkg_description_b1.FnShortcutScript", spec := "fnShortcutScript", inPlace := ["internal/bytealg.IndexByteString", "internal/bytealg.IndexString"], unfollowed := true, recurses := true, named := ["internal/bytealg.MaxLen"], apart := false }
def FnShortcutScriptSaid : Prop := fnShortcutScriptRow.holds Try.pinned (OpenSpec.ofChange fnShortcutScriptSpec)

/-- ITS FALSE NEIGHBOUR: 'it returns false'. Refute it at one input. -/
def fnShortcutScriptWrong : ChangeSpec := { name := "fnShortcutScript", fn := fun _ => fun
  | [d1, d2, d3] => { results := [.lit (.bool false)], args := [d1, d2, d3] }
  | _ => none }
def FnShortcutScriptWrongFalsely : Prop := fnShortcutScriptRow.holds Try.pinned (OpenSpec.ofChange fnShortcutScriptWrong)

end Rows
end Go.Proofs.Qxb6609196a
