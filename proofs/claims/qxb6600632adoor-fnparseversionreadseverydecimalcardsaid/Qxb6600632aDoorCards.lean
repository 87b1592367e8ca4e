/-
  DERIVED. GIVEN WITH THE SEED: THE CARDS: each row of Qxb6600632aDoorRows.lean that lists a variable, with what it lists TIED to the program's text (the seventh form; the later family's looks); each row that meets fmt, with fmt's text TOLD by the authors' own Lean function (tested against real Go, not proved from fmt's source: count such statements apart). THE CARD IS WHAT COUNTS. Prove the row's statement (the work); the ties are given (Qxb6600632aDoorTie.lean); close each card by the builder's one call (the guide's Derived/Test/ToyasCard.lean, 'card_holds'). Laid BY PROGRAM, IN A SANDBOX (cutbox-door.mjs). By AI agents, Wed Nov 11 2026. No macro, syntax, notation, axiom, sorry.
-/
import Derived.Test.Qxb6600632aDoorRows
import GoSem.ClaimSeven
namespace Go.Proofs.Qxb6600632aDoor
namespace Rows

/-- THE TIED CARD OF 'zzlaws_root_b1.FnParseVersionExact'. -/
def fnParseVersionExactCard : Claim7 := { stood := { row := fnParseVersionExactRow, standIns := [], harness := (true, "3887e4bf6a3364662a7ccc0950ac59789b1bbeeb48ed489f0432308b65fc6db4"), looks := true }, kinds := [], alts := [], laidByText := true, laidKinds := [.data, .data, .data, .sentinel, .sentinel], laidTests := true, laidLooks := .later }
def FnParseVersionExactCardSaid : Prop := Claim7.holds Tryd.pinned (.plain (OpenSpec.ofChange fnParseVersionExactSpec)) fnParseVersionExactCard

/-- THE TIED CARD OF 'zzlaws_root_b1.FnParseVersionReadsEveryDecimal'. -/
def fnParseVersionReadsEveryDecimalCard : Claim7 := { stood := { row := fnParseVersionReadsEveryDecimalRow, standIns := [], harness := (true, "3887e4bf6a3364662a7ccc0950ac59789b1bbeeb48ed489f0432308b65fc6db4"), looks := true }, kinds := [], alts := [], laidByText := true, laidKinds := [.data, .data, .data, .sentinel, .sentinel], laidTests := true, laidLooks := .later }
def FnParseVersionReadsEveryDecimalCardSaid : Prop := Claim7.holds Tryd.pinned (.plain (OpenSpec.ofChange fnParseVersionReadsEveryDecimalSpec)) fnParseVersionReadsEveryDecimalCard

/-- THE TIED CARD OF 'zzlaws_root_b1.FnParseFormListReadsJoinedList'. -/
def fnParseFormListReadsJoinedListCard : Claim7 := { stood := { row := fnParseFormListReadsJoinedListRow, standIns := [], harness := (true, "3887e4bf6a3364662a7ccc0950ac59789b1bbeeb48ed489f0432308b65fc6db4"), looks := true }, kinds := [], alts := [], laidByText := true, laidKinds := [.data, .data, .data, .data, .sentinel, .sentinel, .listed, .data, .pinned], laidTests := true, laidLooks := .later }
def FnParseFormListReadsJoinedListCardSaid : Prop := Claim7.holds Tryd.pinned (.plain (OpenSpec.ofChange fnParseFormListReadsJoinedListSpec)) fnParseFormListReadsJoinedListCard

/-- THE TIED CARD OF 'zzlaws_root_b1.FnParseFormListExact'. -/
def fnParseFormListExactCard : Claim7 := { stood := { row := fnParseFormListExactRow, standIns := [], harness := (true, "3887e4bf6a3364662a7ccc0950ac59789b1bbeeb48ed489f0432308b65fc6db4"), looks := true }, kinds := [], alts := [], laidByText := true, laidKinds := [.data, .data, .data, .data, .sentinel, .sentinel, .listed, .data, .pinned], laidTests := true, laidLooks := .later }
def FnParseFormListExactCardSaid : Prop := Claim7.holds Tryd.pinned (.plain (OpenSpec.ofChange fnParseFormListExactSpec)) fnParseFormListExactCard

/-- THE TIED CARD OF 'zzlaws_root_b1.FnParseFormListSplitsAtCommas'. -/
def fnParseFormListSplitsAtCommasCard : Claim7 := { stood := { row := fnParseFormListSplitsAtCommasRow, standIns := [], harness := (true, "3887e4bf6a3364662a7ccc0950ac59789b1bbeeb48ed489f0432308b65fc6db4"), looks := true }, kinds := [], alts := [], laidByText := true, laidKinds := [.data, .data, .data, .data, .sentinel, .sentinel, .listed, .data, .pinned], laidTests := true, laidLooks := .later }
def FnParseFormListSplitsAtCommasCardSaid : Prop := Claim7.holds Tryd.pinned (.plain (OpenSpec.ofChange fnParseFormListSplitsAtCommasSpec)) fnParseFormListSplitsAtCommasCard
end Rows
end Go.Proofs.Qxb6600632aDoor
