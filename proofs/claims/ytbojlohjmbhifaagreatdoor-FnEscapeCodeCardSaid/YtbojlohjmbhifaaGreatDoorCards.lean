/-
  DERIVED. GIVEN WITH THE SEED: THE CARDS: each row of YtbojlohjmbhifaaGreatDoorRows.lean that lists a variable, with what it lists TIED to the program's text (the seventh form; the later family's looks); each row that meets fmt, with fmt's text TOLD by the authors' own Lean function (tested against real Go, not proved from fmt's source: count such statements apart). THE CARD IS WHAT COUNTS. Prove the row's statement (the work); the ties are given (YtbojlohjmbhifaaGreatDoorTie.lean); close each card by the builder's one call (the guide's Derived/Test/ToyasCard.lean, 'card_holds'). Laid BY PROGRAM, IN A SANDBOX (cutbox-door.mjs). By AI agents, Wed Nov 11 2026. No macro, syntax, notation, axiom, sorry.
-/
import Derived.Test.YtbojlohjmbhifaaGreatDoorRows
import GoSem.ClaimSeven
namespace Go.Proofs.YtbojlohjmbhifaaGreatDoor
namespace Rows

/-- THE TIED CARD OF 'laws.FnDots'. -/
def fnDotsCard : Claim7 := { stood := { row := fnDotsRow, standIns := [], harness := (true, "553fcfb5a9a4a01a9c3690668eec6a67c443f11610f0745cae86489a030d88bd"), looks := true }, kinds := [], alts := [], laidByText := true, laidKinds := [.data, .sentinel, .pinned], laidTests := true, laidLooks := .later }
def FnDotsCardSaid : Prop := Claim7.holds Tryz.pinned (.plain (OpenSpec.ofChange fnDotsSpec)) fnDotsCard

/-- THE TIED CARD OF 'laws.FnEscapeCode'. -/
def fnEscapeCodeCard : Claim7 := { stood := { row := fnEscapeCodeRow, standIns := [], harness := (true, "553fcfb5a9a4a01a9c3690668eec6a67c443f11610f0745cae86489a030d88bd"), looks := true }, kinds := [], alts := [], laidByText := true, laidKinds := [.data, .sentinel, .pinned], laidTests := true, laidLooks := .later }
def FnEscapeCodeCardSaid : Prop := Claim7.holds Tryz.pinned (.plain (OpenSpec.ofChange fnEscapeCodeSpec)) fnEscapeCodeCard

/-- THE TIED CARD OF 'laws.FnNamesApart'. -/
def fnNamesApartCard : Claim7 := { stood := { row := fnNamesApartRow, standIns := [], harness := (true, "553fcfb5a9a4a01a9c3690668eec6a67c443f11610f0745cae86489a030d88bd"), looks := true }, kinds := [], alts := [], laidByText := true, laidKinds := [.data, .sentinel, .pinned], laidTests := true, laidLooks := .later }
def FnNamesApartCardSaid : Prop := Claim7.holds Tryz.pinned (.plain (OpenSpec.ofChange fnNamesApartSpec)) fnNamesApartCard

/-- THE TIED CARD OF 'laws.FnNumberParts'. -/
def fnNumberPartsCard : Claim7 := { stood := { row := fnNumberPartsRow, standIns := [], harness := (true, "553fcfb5a9a4a01a9c3690668eec6a67c443f11610f0745cae86489a030d88bd"), looks := true }, kinds := [], alts := [], laidByText := true, laidKinds := [.data, .sentinel, .pinned], laidTests := true, laidLooks := .later }
def FnNumberPartsCardSaid : Prop := Claim7.holds Tryz.pinned (.plain (OpenSpec.ofChange fnNumberPartsSpec)) fnNumberPartsCard

/-- THE TIED CARD OF 'laws.FnNumbersApart'. -/
def fnNumbersApartCard : Claim7 := { stood := { row := fnNumbersApartRow, standIns := [], harness := (true, "553fcfb5a9a4a01a9c3690668eec6a67c443f11610f0745cae86489a030d88bd"), looks := true }, kinds := [], alts := [], laidByText := true, laidKinds := [.data, .sentinel, .pinned], laidTests := true, laidLooks := .later }
def FnNumbersApartCardSaid : Prop := Claim7.holds Tryz.pinned (.plain (OpenSpec.ofChange fnNumbersApartSpec)) fnNumbersApartCard

/-- THE TIED CARD OF 'laws.FnStringBent'. -/
def fnStringBentCard : Claim7 := { stood := { row := fnStringBentRow, standIns := [], harness := (true, "553fcfb5a9a4a01a9c3690668eec6a67c443f11610f0745cae86489a030d88bd"), looks := true }, kinds := [], alts := [], laidByText := true, laidKinds := [.data, .sentinel, .pinned], laidTests := true, laidLooks := .later }
def FnStringBentCardSaid : Prop := Claim7.holds Tryz.pinned (.plain (OpenSpec.ofChange fnStringBentSpec)) fnStringBentCard

/-- THE SECOND FORM's CARD OF 'laws.FnDots'. -/
def fnDotsUptoCard : Claim7 := { stood := { row := fnDotsUptoRow, standIns := [], harness := (true, "553fcfb5a9a4a01a9c3690668eec6a67c443f11610f0745cae86489a030d88bd"), looks := true }, kinds := [], alts := [], laidByText := true, laidKinds := [.data, .sentinel, .pinned], laidTests := true, laidLooks := .later }
def FnDotsUptoCardSaid : Prop := Claim7.holds Tryz.pinned (.plain (OpenSpec.upto fnDotsSpec)) fnDotsUptoCard

/-- THE SECOND FORM's CARD OF 'laws.FnEscapeCode'. -/
def fnEscapeCodeUptoCard : Claim7 := { stood := { row := fnEscapeCodeUptoRow, standIns := [], harness := (true, "553fcfb5a9a4a01a9c3690668eec6a67c443f11610f0745cae86489a030d88bd"), looks := true }, kinds := [], alts := [], laidByText := true, laidKinds := [.data, .sentinel, .pinned], laidTests := true, laidLooks := .later }
def FnEscapeCodeUptoCardSaid : Prop := Claim7.holds Tryz.pinned (.plain (OpenSpec.upto fnEscapeCodeSpec)) fnEscapeCodeUptoCard

/-- THE SECOND FORM's CARD OF 'laws.FnNamesApart'. -/
def fnNamesApartUptoCard : Claim7 := { stood := { row := fnNamesApartUptoRow, standIns := [], harness := (true, "553fcfb5a9a4a01a9c3690668eec6a67c443f11610f0745cae86489a030d88bd"), looks := true }, kinds := [], alts := [], laidByText := true, laidKinds := [.data, .sentinel, .pinned], laidTests := true, laidLooks := .later }
def FnNamesApartUptoCardSaid : Prop := Claim7.holds Tryz.pinned (.plain (OpenSpec.upto fnNamesApartSpec)) fnNamesApartUptoCard

/-- THE SECOND FORM's CARD OF 'laws.FnNumberParts'. -/
def fnNumberPartsUptoCard : Claim7 := { stood := { row := fnNumberPartsUptoRow, standIns := [], harness := (true, "553fcfb5a9a4a01a9c3690668eec6a67c443f11610f0745cae86489a030d88bd"), looks := true }, kinds := [], alts := [], laidByText := true, laidKinds := [.data, .sentinel, .pinned], laidTests := true, laidLooks := .later }
def FnNumberPartsUptoCardSaid : Prop := Claim7.holds Tryz.pinned (.plain (OpenSpec.upto fnNumberPartsSpec)) fnNumberPartsUptoCard

/-- THE SECOND FORM's CARD OF 'laws.FnNumbersApart'. -/
def fnNumbersApartUptoCard : Claim7 := { stood := { row := fnNumbersApartUptoRow, standIns := [], harness := (true, "553fcfb5a9a4a01a9c3690668eec6a67c443f11610f0745cae86489a030d88bd"), looks := true }, kinds := [], alts := [], laidByText := true, laidKinds := [.data, .sentinel, .pinned], laidTests := true, laidLooks := .later }
def FnNumbersApartUptoCardSaid : Prop := Claim7.holds Tryz.pinned (.plain (OpenSpec.upto fnNumbersApartSpec)) fnNumbersApartUptoCard

/-- THE SECOND FORM's CARD OF 'laws.FnStringBent'. -/
def fnStringBentUptoCard : Claim7 := { stood := { row := fnStringBentUptoRow, standIns := [], harness := (true, "553fcfb5a9a4a01a9c3690668eec6a67c443f11610f0745cae86489a030d88bd"), looks := true }, kinds := [], alts := [], laidByText := true, laidKinds := [.data, .sentinel, .pinned], laidTests := true, laidLooks := .later }
def FnStringBentUptoCardSaid : Prop := Claim7.holds Tryz.pinned (.plain (OpenSpec.upto fnStringBentSpec)) fnStringBentUptoCard
end Rows
end Go.Proofs.YtbojlohjmbhifaaGreatDoor
