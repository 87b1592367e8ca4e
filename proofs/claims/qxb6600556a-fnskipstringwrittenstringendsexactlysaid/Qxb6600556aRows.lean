/-
  No cell of these rows narrows 'for every input' (looked for: loops, veiled, ifaces, maps, wideKeys, modest, calm, conditions, laid).
  DERIVED. THE GIVEN ROWS OF THIS SEAT. 5 by the template 'for every input the law returns true; each argument reads behind the call as it read before'; 0 by the template 'total and deterministic' (their statements: Qxb6600556aTotals.lean).
  GIVEN WITH THE SEED: the statements are not yours to turn. If you find one false, say at which input.
  Laid BY PROGRAM, IN A SANDBOX (cutbox-rows.mjs): the forced cells as the released guide's own fill.sh prints them over the translation 754f9e8976d6ef03… (all of the seat's roots in one cut). By AI agents, Wed Nov 11 2026. No macro, syntax, notation, axiom, sorry.
-/
import Derived.Test.Qxb6600556aChecked
import GoSem.Claim
import GoSem.ClaimJoined
import GoSem.ClaimMapViews
import Derived.JoinedTies
import Derived.KernelRfl
namespace Go.Proofs.Qxb6600556a
/- THE CELL 'sum', in the pinned program and in every row, IS THE sha256 OF THE DUMP (.gsa) THAT Qxb6600556aProg.lean LOADS. Nothing in Lean hashes anything: it is a label: what it is worth is what the hold of that sum in a sandbox is worth. -/
noncomputable def Try.pinned : Pinned := { name := "qxb6600556a", sum := "754f9e8976d6ef03e32d31d7020fd97722c2d64f031e5fa28eec7a0e5cc534cb", checked := Try.checked }
namespace Rows
def none {H : Type} : Left H := { results := [], args := [] }

/-- 'zzlaws_internal_plandoc_b1.FnSkipStringLeastUnescapedClose': WHATEVER THE INPUT: true; the input reads as it did. -/
def fnSkipStringLeastUnescapedCloseSpec : ChangeSpec := { name := "fnSkipStringLeastUnescapedClose", fn := fun _ => fun
  | [d1, d2] => { results := [.lit (.bool true)], args := [d1, d2] }
  | _ => none }
def fnSkipStringLeastUnescapedCloseRow : OpenClaim := { program := "qxb6600556a", sum := "754f9e8976d6ef03e32d31d7020fd97722c2d64f031e5fa28eec7a0e5cc534cb", func := "example.com/vestline/vestline/zzlaws_internal_plandoc_b1.FnSkipStringLeastUnescapedClose", spec := "fnSkipStringLeastUnescapedClose", inPlace := ["internal/abi.NoEscape", "internal/bytealg.MakeNoZero"], apart := false }
def FnSkipStringLeastUnescapedCloseSaid : Prop := fnSkipStringLeastUnescapedCloseRow.holds Try.pinned (OpenSpec.ofChange fnSkipStringLeastUnescapedCloseSpec)

/-- ITS FALSE NEIGHBOUR: 'it returns false'. Refute it at one input. -/
def fnSkipStringLeastUnescapedCloseWrong : ChangeSpec := { name := "fnSkipStringLeastUnescapedClose", fn := fun _ => fun
  | [d1, d2] => { results := [.lit (.bool false)], args := [d1, d2] }
  | _ => none }
def FnSkipStringLeastUnescapedCloseWrongFalsely : Prop := fnSkipStringLeastUnescapedCloseRow.holds Try.pinned (OpenSpec.ofChange fnSkipStringLeastUnescapedCloseWrong)

/-- 'zzlaws_internal_plandoc_b1.FnSkipStringWrittenStringEndsExactly': WHATEVER THE INPUT: true; the input reads as it did. -/
def fnSkipStringWrittenStringEndsExactlySpec : ChangeSpec := { name := "fnSkipStringWrittenStringEndsExactly", fn := fun _ => fun
  | [d1, d2, d3, d4] => { results := [.lit (.bool true)], args := [d1, d2, d3, d4] }
  | _ => none }
def fnSkipStringWrittenStringEndsExactlyRow : OpenClaim := { program := "qxb6600556a", sum := "754f9e8976d6ef03e32d31d7020fd97722c2d64f031e5fa28eec7a0e5cc534cb", func := "example.com/vestline/vestline/zzlaws_internal_plandoc_b1.FnSkipStringWrittenStringEndsExactly", spec := "fnSkipStringWrittenStringEndsExactly", inPlace := ["internal/abi.NoEscape", "internal/bytealg.MakeNoZero"], apart := false }
def FnSkipStringWrittenStringEndsExactlySaid : Prop := fnSkipStringWrittenStringEndsExactlyRow.holds Try.pinned (OpenSpec.ofChange fnSkipStringWrittenStringEndsExactlySpec)

/-- ITS FALSE NEIGHBOUR: 'it returns false'. Refute it at one input. -/
def fnSkipStringWrittenStringEndsExactlyWrong : ChangeSpec := { name := "fnSkipStringWrittenStringEndsExactly", fn := fun _ => fun
  | [d1, d2, d3, d4] => { results := [.lit (.bool false)], args := [d1, d2, d3, d4] }
  | _ => none }
def FnSkipStringWrittenStringEndsExactlyWrongFalsely : Prop := fnSkipStringWrittenStringEndsExactlyRow.holds Try.pinned (OpenSpec.ofChange fnSkipStringWrittenStringEndsExactlyWrong)

/-- 'zzlaws_internal_plandoc_b1.FnSkipStringEndBoundedAndStable': WHATEVER THE INPUT: true; the input reads as it did. -/
def fnSkipStringEndBoundedAndStableSpec : ChangeSpec := { name := "fnSkipStringEndBoundedAndStable", fn := fun _ => fun
  | [d1, d2, d3] => { results := [.lit (.bool true)], args := [d1, d2, d3] }
  | _ => none }
def fnSkipStringEndBoundedAndStableRow : OpenClaim := { program := "qxb6600556a", sum := "754f9e8976d6ef03e32d31d7020fd97722c2d64f031e5fa28eec7a0e5cc534cb", func := "example.com/vestline/vestline/zzlaws_internal_plandoc_b1.FnSkipStringEndBoundedAndStable", spec := "fnSkipStringEndBoundedAndStable", inPlace := ["internal/abi.NoEscape", "internal/bytealg.MakeNoZero"], apart := false }
def FnSkipStringEndBoundedAndStableSaid : Prop := fnSkipStringEndBoundedAndStableRow.holds Try.pinned (OpenSpec.ofChange fnSkipStringEndBoundedAndStableSpec)

/-- ITS FALSE NEIGHBOUR: 'it returns false'. Refute it at one input. -/
def fnSkipStringEndBoundedAndStableWrong : ChangeSpec := { name := "fnSkipStringEndBoundedAndStable", fn := fun _ => fun
  | [d1, d2, d3] => { results := [.lit (.bool false)], args := [d1, d2, d3] }
  | _ => none }
def FnSkipStringEndBoundedAndStableWrongFalsely : Prop := fnSkipStringEndBoundedAndStableRow.holds Try.pinned (OpenSpec.ofChange fnSkipStringEndBoundedAndStableWrong)

/-- 'zzlaws_internal_plandoc_b1.FnSkipBlankFirstContentOfItsLine': WHATEVER THE INPUT: true; the input reads as it did. -/
def fnSkipBlankFirstContentOfItsLineSpec : ChangeSpec := { name := "fnSkipBlankFirstContentOfItsLine", fn := fun _ => fun
  | [d1, d2] => { results := [.lit (.bool true)], args := [d1, d2] }
  | _ => none }
def fnSkipBlankFirstContentOfItsLineRow : OpenClaim := { program := "qxb6600556a", sum := "754f9e8976d6ef03e32d31d7020fd97722c2d64f031e5fa28eec7a0e5cc534cb", func := "example.com/vestline/vestline/zzlaws_internal_plandoc_b1.FnSkipBlankFirstContentOfItsLine", spec := "fnSkipBlankFirstContentOfItsLine", inPlace := ["internal/bytealg.IndexByteString"], apart := false }
def FnSkipBlankFirstContentOfItsLineSaid : Prop := fnSkipBlankFirstContentOfItsLineRow.holds Try.pinned (OpenSpec.ofChange fnSkipBlankFirstContentOfItsLineSpec)

/-- ITS FALSE NEIGHBOUR: 'it returns false'. Refute it at one input. -/
def fnSkipBlankFirstContentOfItsLineWrong : ChangeSpec := { name := "fnSkipBlankFirstContentOfItsLine", fn := fun _ => fun
  | [d1, d2] => { results := [.lit (.bool false)], args := [d1, d2] }
  | _ => none }
def FnSkipBlankFirstContentOfItsLineWrongFalsely : Prop := fnSkipBlankFirstContentOfItsLineRow.holds Try.pinned (OpenSpec.ofChange fnSkipBlankFirstContentOfItsLineWrong)

/-- 'zzlaws_internal_plandoc_b1.FnSkipBlankStopIsFixedAndLocal': WHATEVER THE INPUT: true; the input reads as it did. -/
def fnSkipBlankStopIsFixedAndLocalSpec : ChangeSpec := { name := "fnSkipBlankStopIsFixedAndLocal", fn := fun _ => fun
  | [d1, d2] => { results := [.lit (.bool true)], args := [d1, d2] }
  | _ => none }
def fnSkipBlankStopIsFixedAndLocalRow : OpenClaim := { program := "qxb6600556a", sum := "754f9e8976d6ef03e32d31d7020fd97722c2d64f031e5fa28eec7a0e5cc534cb", func := "example.com/vestline/vestline/zzlaws_internal_plandoc_b1.FnSkipBlankStopIsFixedAndLocal", spec := "fnSkipBlankStopIsFixedAndLocal", inPlace := ["internal/bytealg.IndexByteString"], apart := false }
def FnSkipBlankStopIsFixedAndLocalSaid : Prop := fnSkipBlankStopIsFixedAndLocalRow.holds Try.pinned (OpenSpec.ofChange fnSkipBlankStopIsFixedAndLocalSpec)

/-- ITS FALSE NEIGHBOUR: 'it returns false'. Refute it at one input. -/
def fnSkipBlankStopIsFixedAndLocalWrong : ChangeSpec := { name := "fnSkipBlankStopIsFixedAndLocal", fn := fun _ => fun
  | [d1, d2] => { results := [.lit (.bool false)], args := [d1, d2] }
  | _ => none }
def FnSkipBlankStopIsFixedAndLocalWrongFalsely : Prop := fnSkipBlankStopIsFixedAndLocalRow.holds Try.pinned (OpenSpec.ofChange fnSkipBlankStopIsFixedAndLocalWrong)

end Rows
end Go.Proofs.Qxb6600556a
