/-
  No cell of these rows narrows 'for every input' (looked for: loops, veiled, ifaces, maps, wideKeys, modest, calm, conditions, laid).
  DERIVED. THE GIVEN ROWS OF THIS SEAT. 2 by the template 'for every input the law returns true; each argument reads behind the call as it read before'; 0 by the template 'total and deterministic' (their statements: Qxb6600632aTotals.lean).
  GIVEN WITH THE SEED: the statements are not yours to turn. If you find one false, say at which input.
  Laid BY PROGRAM, IN A SANDBOX (cutbox-rows.mjs): the forced cells as the released guide's own fill.sh prints them over the translation 80aec4d50c5fdbce… (all of the seat's roots in one cut). By AI agents, Wed Nov 11 2026. No macro, syntax, notation, axiom, sorry.
-/
import Derived.Test.Qxb6600632aChecked
import GoSem.Claim
import GoSem.ClaimJoined
import GoSem.ClaimMapViews
import Derived.JoinedTies
import Derived.KernelRfl
namespace Go.Proofs.Qxb6600632a
/- THE CELL 'sum', in the pinned program and in every row, IS THE sha256 OF THE DUMP (.gsa) THAT Qxb6600632aProg.lean LOADS. Nothing in Lean hashes anything: it is a label: what it is worth is what the hold of that sum in a sandbox is worth. -/
noncomputable def Try.pinned : Pinned := { name := "qxb6600632a", sum := "80aec4d50c5fdbce3f43b0e643f0d0ceaee4b5302f6b4536d65b984d85fe2f0a", checked := Try.checked }
namespace Rows
def none {H : Type} : Left H := { results := [], args := [] }

/-- 'zzlaws_root_b1.FnFormOfIsHighestFeatureVersion': WHATEVER THE INPUT: true; the input reads as it did. -/
def fnFormOfIsHighestFeatureVersionSpec : ChangeSpec := { name := "fnFormOfIsHighestFeatureVersion", fn := fun _ => fun
  | [d1, d2, d3, d4, d5] => { results := [.lit (.bool true)], args := [d1, d2, d3, d4, d5] }
  | _ => none }
def fnFormOfIsHighestFeatureVersionRow : OpenClaim := { program := "qxb6600632a", sum := "80aec4d50c5fdbce3f43b0e643f0d0ceaee4b5302f6b4536d65b984d85fe2f0a", func := "example.com/plumbline/plumbline/zzlaws_root_b1.FnFormOfIsHighestFeatureVersion", spec := "fnFormOfIsHighestFeatureVersion", unfollowed := true, recurses := true, apart := false }
def FnFormOfIsHighestFeatureVersionSaid : Prop := fnFormOfIsHighestFeatureVersionRow.holds Try.pinned (OpenSpec.ofChange fnFormOfIsHighestFeatureVersionSpec)

/-- ITS FALSE NEIGHBOUR: 'it returns false'. Refute it at one input. -/
def fnFormOfIsHighestFeatureVersionWrong : ChangeSpec := { name := "fnFormOfIsHighestFeatureVersion", fn := fun _ => fun
  | [d1, d2, d3, d4, d5] => { results := [.lit (.bool false)], args := [d1, d2, d3, d4, d5] }
  | _ => none }
def FnFormOfIsHighestFeatureVersionWrongFalsely : Prop := fnFormOfIsHighestFeatureVersionRow.holds Try.pinned (OpenSpec.ofChange fnFormOfIsHighestFeatureVersionWrong)

/-- 'zzlaws_root_b1.FnFormOfNeverFallsAsMessageGrows': WHATEVER THE INPUT: true; the input reads as it did. -/
def fnFormOfNeverFallsAsMessageGrowsSpec : ChangeSpec := { name := "fnFormOfNeverFallsAsMessageGrows", fn := fun _ => fun
  | [d1, d2, d3, d4, d5, d6, d7] => { results := [.lit (.bool true)], args := [d1, d2, d3, d4, d5, d6, d7] }
  | _ => none }
def fnFormOfNeverFallsAsMessageGrowsRow : OpenClaim := { program := "qxb6600632a", sum := "80aec4d50c5fdbce3f43b0e643f0d0ceaee4b5302f6b4536d65b984d85fe2f0a", func := "example.com/plumbline/plumbline/zzlaws_root_b1.FnFormOfNeverFallsAsMessageGrows", spec := "fnFormOfNeverFallsAsMessageGrows", unfollowed := true, recurses := true, apart := false }
def FnFormOfNeverFallsAsMessageGrowsSaid : Prop := fnFormOfNeverFallsAsMessageGrowsRow.holds Try.pinned (OpenSpec.ofChange fnFormOfNeverFallsAsMessageGrowsSpec)

/-- ITS FALSE NEIGHBOUR: 'it returns false'. Refute it at one input. -/
def fnFormOfNeverFallsAsMessageGrowsWrong : ChangeSpec := { name := "fnFormOfNeverFallsAsMessageGrows", fn := fun _ => fun
  | [d1, d2, d3, d4, d5, d6, d7] => { results := [.lit (.bool false)], args := [d1, d2, d3, d4, d5, d6, d7] }
  | _ => none }
def FnFormOfNeverFallsAsMessageGrowsWrongFalsely : Prop := fnFormOfNeverFallsAsMessageGrowsRow.holds Try.pinned (OpenSpec.ofChange fnFormOfNeverFallsAsMessageGrowsWrong)

end Rows
end Go.Proofs.Qxb6600632a
