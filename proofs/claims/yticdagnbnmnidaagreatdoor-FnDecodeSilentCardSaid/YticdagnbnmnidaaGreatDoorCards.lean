/-
  DERIVED. GIVEN WITH THE SEED: THE CARDS: each row of YticdagnbnmnidaaGreatDoorRows.lean that lists a variable, with what it lists TIED to the program's text (the seventh form; the later family's looks); each row that meets fmt, with fmt's text TOLD by the authors' own Lean function (tested against real Go, not proved from fmt's source: count such statements apart). THE CARD IS WHAT COUNTS. Prove the row's statement (the work); the ties are given (YticdagnbnmnidaaGreatDoorTie.lean); close each card by the builder's one call (the guide's Derived/Test/ToyasCard.lean, 'card_holds'). Laid BY PROGRAM, IN A SANDBOX (cutbox-door.mjs). By AI agents, Wed Nov 11 2026. No macro, syntax, notation, axiom, sorry.
-/
import Derived.Test.YticdagnbnmnidaaGreatDoorRows
import GoSem.ClaimSeven
namespace Go.Proofs.YticdagnbnmnidaaGreatDoor
namespace Rows

/-- THE TIED CARD OF 'laws.FnEncodeLong'. -/
def fnEncodeLongCard : Claim7 := { stood := { row := fnEncodeLongRow, standIns := [], harness := (true, "06ab71978e8ef816f64a2b12209e3b25dfc150f53799325921254fd87a16aaf7"), looks := true }, kinds := [], alts := [], laidByText := true, laidKinds := [.data, .data, .data, .data, .data, .sentinel, .sentinel, .pinned, .pinned, .pinned, .pinned, .pinned, .pinned, .pinned, .pinned], laidTests := true, laidLooks := .later }
def FnEncodeLongCardSaid : Prop := Claim7.holds Tryz.pinned (.plain (OpenSpec.ofChange fnEncodeLongSpec)) fnEncodeLongCard

/-- THE TIED CARD OF 'laws.FnDecodeBroken'. -/
def fnDecodeBrokenCard : Claim7 := { stood := { row := fnDecodeBrokenRow, standIns := [], harness := (true, "06ab71978e8ef816f64a2b12209e3b25dfc150f53799325921254fd87a16aaf7"), looks := true }, kinds := [], alts := [], laidByText := true, laidKinds := [.data, .data, .widerDeep, .widerDeep, .data, .data, .data, .data, .data, .data, .sentinel, .sentinel, .sentinel, .sentinel, .sentinel, .pinned, .pinned, .pinned, .pinned, .pinned, .pinned, .pinned, .pinned], laidTests := true, laidLooks := .later }
def FnDecodeBrokenCardSaid : Prop := Claim7.holds Tryz.pinned (.plain (OpenSpec.ofChange fnDecodeBrokenSpec)) fnDecodeBrokenCard

/-- THE TIED CARD OF 'laws.FnDecodeSilent'. -/
def fnDecodeSilentCard : Claim7 := { stood := { row := fnDecodeSilentRow, standIns := [], harness := (true, "06ab71978e8ef816f64a2b12209e3b25dfc150f53799325921254fd87a16aaf7"), looks := true }, kinds := [], alts := [], laidByText := true, laidKinds := [.data, .data, .widerDeep, .widerDeep, .data, .data, .data, .data, .data, .data, .sentinel, .sentinel, .sentinel, .sentinel, .sentinel, .pinned, .pinned, .pinned, .pinned, .pinned, .pinned, .pinned, .pinned], laidTests := true, laidLooks := .later }
def FnDecodeSilentCardSaid : Prop := Claim7.holds Tryz.pinned (.plain (OpenSpec.ofChange fnDecodeSilentSpec)) fnDecodeSilentCard

/-- THE TIED CARD OF 'laws.FnValueBack'. -/
def fnValueBackCard : Claim7 := { stood := { row := fnValueBackRow, standIns := [], harness := (true, "06ab71978e8ef816f64a2b12209e3b25dfc150f53799325921254fd87a16aaf7"), looks := true }, kinds := [], alts := [], laidByText := true, laidKinds := [.data, .data, .widerDeep, .widerDeep, .data, .data, .data, .data, .data, .data, .sentinel, .sentinel, .sentinel, .sentinel, .sentinel, .pinned, .pinned, .pinned, .pinned, .pinned, .pinned, .pinned, .pinned], laidTests := true, laidLooks := .later }
def FnValueBackCardSaid : Prop := Claim7.holds Tryz.pinned (.plain (OpenSpec.ofChange fnValueBackSpec)) fnValueBackCard

/-- THE SECOND FORM's CARD OF 'laws.FnEncodeLong'. -/
def fnEncodeLongUptoCard : Claim7 := { stood := { row := fnEncodeLongUptoRow, standIns := [], harness := (true, "06ab71978e8ef816f64a2b12209e3b25dfc150f53799325921254fd87a16aaf7"), looks := true }, kinds := [], alts := [], laidByText := true, laidKinds := [.data, .data, .data, .data, .data, .sentinel, .sentinel, .pinned, .pinned, .pinned, .pinned, .pinned, .pinned, .pinned, .pinned], laidTests := true, laidLooks := .later }
def FnEncodeLongUptoCardSaid : Prop := Claim7.holds Tryz.pinned (.plain (OpenSpec.upto fnEncodeLongSpec)) fnEncodeLongUptoCard

/-- THE SECOND FORM's CARD OF 'laws.FnDecodeBroken'. -/
def fnDecodeBrokenUptoCard : Claim7 := { stood := { row := fnDecodeBrokenUptoRow, standIns := [], harness := (true, "06ab71978e8ef816f64a2b12209e3b25dfc150f53799325921254fd87a16aaf7"), looks := true }, kinds := [], alts := [], laidByText := true, laidKinds := [.data, .data, .widerDeep, .widerDeep, .data, .data, .data, .data, .data, .data, .sentinel, .sentinel, .sentinel, .sentinel, .sentinel, .pinned, .pinned, .pinned, .pinned, .pinned, .pinned, .pinned, .pinned], laidTests := true, laidLooks := .later }
def FnDecodeBrokenUptoCardSaid : Prop := Claim7.holds Tryz.pinned (.plain (OpenSpec.upto fnDecodeBrokenSpec)) fnDecodeBrokenUptoCard

/-- THE SECOND FORM's CARD OF 'laws.FnDecodeSilent'. -/
def fnDecodeSilentUptoCard : Claim7 := { stood := { row := fnDecodeSilentUptoRow, standIns := [], harness := (true, "06ab71978e8ef816f64a2b12209e3b25dfc150f53799325921254fd87a16aaf7"), looks := true }, kinds := [], alts := [], laidByText := true, laidKinds := [.data, .data, .widerDeep, .widerDeep, .data, .data, .data, .data, .data, .data, .sentinel, .sentinel, .sentinel, .sentinel, .sentinel, .pinned, .pinned, .pinned, .pinned, .pinned, .pinned, .pinned, .pinned], laidTests := true, laidLooks := .later }
def FnDecodeSilentUptoCardSaid : Prop := Claim7.holds Tryz.pinned (.plain (OpenSpec.upto fnDecodeSilentSpec)) fnDecodeSilentUptoCard

/-- THE SECOND FORM's CARD OF 'laws.FnValueBack'. -/
def fnValueBackUptoCard : Claim7 := { stood := { row := fnValueBackUptoRow, standIns := [], harness := (true, "06ab71978e8ef816f64a2b12209e3b25dfc150f53799325921254fd87a16aaf7"), looks := true }, kinds := [], alts := [], laidByText := true, laidKinds := [.data, .data, .widerDeep, .widerDeep, .data, .data, .data, .data, .data, .data, .sentinel, .sentinel, .sentinel, .sentinel, .sentinel, .pinned, .pinned, .pinned, .pinned, .pinned, .pinned, .pinned, .pinned], laidTests := true, laidLooks := .later }
def FnValueBackUptoCardSaid : Prop := Claim7.holds Tryz.pinned (.plain (OpenSpec.upto fnValueBackSpec)) fnValueBackUptoCard
end Rows
end Go.Proofs.YticdagnbnmnidaaGreatDoor
