/-
  No cell of these rows narrows 'for every input' (looked for: loops, veiled, ifaces, maps, wideKeys, modest, calm, conditions, laid).
  DERIVED. THE GIVEN ROWS OF THIS SEAT. 2 by the template 'for every input the law returns true; each argument reads behind the call as it read before'; 0 by the template 'total and deterministic' (their statements: Qxb6600494aTotals.lean).
  GIVEN WITH THE SEED: the statements are not yours to turn. If you find one false, say at which input.
  Laid BY PROGRAM, IN A SANDBOX (cutbox-rows.mjs): the forced cells as the released guide's own fill.sh prints them over the translation 25430a38b36908c6… (all of the seat's roots in one cut). By AI agents, Wed Nov 11 2026. No macro, syntax, notation, axiom, sorry.
-/
import Derived.Test.Qxb6600494aChecked
import GoSem.Claim
import GoSem.ClaimJoined
import GoSem.ClaimMapViews
import Derived.JoinedTies
import Derived.KernelRfl
namespace Go.Proofs.Qxb6600494a
/- THE CELL 'sum', in the pinned program and in every row, IS THE sha256 OF THE DUMP (.gsa) THAT Qxb6600494aProg.lean LOADS. Nothing in Lean hashes anything: it is a label: what it is worth is what the hold of that sum in a sandbox is worth. -/
noncomputable def Try.pinned : Pinned := { name := "qxb6600494a", sum := "25430a38b36908c6c4d827dce17d664619fdeed1d8bf7cf4f8925752236ace5e", checked := Try.checked }
namespace Rows
def none {H : Type} : Left H := { results := [], args := [] }

/-- 'zzlaws_internal_postgres_b1.FnCutZoneRoundTrip': WHATEVER THE INPUT: true; the input reads as it did. -/
def fnCutZoneRoundTripSpec : ChangeSpec := { name := "fnCutZoneRoundTrip", fn := fun _ => fun
  | [d1, d2, d3] => { results := [.lit (.bool true)], args := [d1, d2, d3] }
  | _ => none }
def fnCutZoneRoundTripRow : OpenClaim := { program := "qxb6600494a", sum := "25430a38b36908c6c4d827dce17d664619fdeed1d8bf7cf4f8925752236ace5e", func := "example.com/gridcommit/gridcommit/zzlaws_internal_postgres_b1.FnCutZoneRoundTrip", spec := "fnCutZoneRoundTrip", apart := false }
def FnCutZoneRoundTripSaid : Prop := fnCutZoneRoundTripRow.holds Try.pinned (OpenSpec.ofChange fnCutZoneRoundTripSpec)

/-- ITS FALSE NEIGHBOUR: 'it returns false'. Refute it at one input. -/
def fnCutZoneRoundTripWrong : ChangeSpec := { name := "fnCutZoneRoundTrip", fn := fun _ => fun
  | [d1, d2, d3] => { results := [.lit (.bool false)], args := [d1, d2, d3] }
  | _ => none }
def FnCutZoneRoundTripWrongFalsely : Prop := fnCutZoneRoundTripRow.holds Try.pinned (OpenSpec.ofChange fnCutZoneRoundTripWrong)

/-- 'zzlaws_internal_postgres_b1.FnCutZoneBoundsAndRefusals': WHATEVER THE INPUT: true; the input reads as it did. -/
def fnCutZoneBoundsAndRefusalsSpec : ChangeSpec := { name := "fnCutZoneBoundsAndRefusals", fn := fun _ => fun
  | [d1, d2] => { results := [.lit (.bool true)], args := [d1, d2] }
  | _ => none }
def fnCutZoneBoundsAndRefusalsRow : OpenClaim := { program := "qxb6600494a", sum := "25430a38b36908c6c4d827dce17d664619fdeed1d8bf7cf4f8925752236ace5e", func := "example.com/gridcommit/gridcommit/zzlaws_internal_postgres_b1.FnCutZoneBoundsAndRefusals", spec := "fnCutZoneBoundsAndRefusals", apart := false }
def FnCutZoneBoundsAndRefusalsSaid : Prop := fnCutZoneBoundsAndRefusalsRow.holds Try.pinned (OpenSpec.ofChange fnCutZoneBoundsAndRefusalsSpec)

/-- ITS FALSE NEIGHBOUR: 'it returns false'. Refute it at one input. -/
def fnCutZoneBoundsAndRefusalsWrong : ChangeSpec := { name := "fnCutZoneBoundsAndRefusals", fn := fun _ => fun
  | [d1, d2] => { results := [.lit (.bool false)], args := [d1, d2] }
  | _ => none }
def FnCutZoneBoundsAndRefusalsWrongFalsely : Prop := fnCutZoneBoundsAndRefusalsRow.holds Try.pinned (OpenSpec.ofChange fnCutZoneBoundsAndRefusalsWrong)

end Rows
end Go.Proofs.Qxb6600494a
