/-
  DERIVED. GIVEN WITH THE SEED: THE CARDS: each row of YtbjfahhfcdnkaaaGreatDoorRows.lean that lists a variable, with what it lists TIED to the program's text (the seventh form; the later family's looks); each row that meets fmt, with fmt's text TOLD by the authors' own Lean function (tested against real Go, not proved from fmt's source: count such statements apart). THE CARD IS WHAT COUNTS. Prove the row's statement (the work); the ties are given (YtbjfahhfcdnkaaaGreatDoorTie.lean); close each card by the builder's one call (the guide's Derived/Test/ToyasCard.lean, 'card_holds'). Laid BY PROGRAM, IN A SANDBOX (cutbox-door.mjs). By AI agents, Wed Nov 11 2026. No macro, syntax, notation, axiom, sorry.
-/
import Derived.Test.YtbjfahhfcdnkaaaGreatDoorRows
import GoSem.ClaimSeven
namespace Go.Proofs.YtbjfahhfcdnkaaaGreatDoor
namespace Rows

/-- THE TIED CARD OF 'laws.FnPartImplements'. -/
def fnPartImplementsCard : Claim7 := { stood := { row := fnPartImplementsRow, standIns := [], harness := (true, "666ec07a1ed6ae68dd62ea888e5d591d77ae10a8bc67de3db272d798c6a2688d"), looks := true }, kinds := [], alts := [], laidByText := true, laidKinds := [.data, .sentinel, .pinned], laidTests := true, laidLooks := .later }
def FnPartImplementsCardSaid : Prop := Claim7.holds Tryz.pinned (.plain (OpenSpec.ofChange fnPartImplementsSpec)) fnPartImplementsCard

/-- THE TIED CARD OF 'laws.FnPartLocations'. -/
def fnPartLocationsCard : Claim7 := { stood := { row := fnPartLocationsRow, standIns := [], harness := (true, "666ec07a1ed6ae68dd62ea888e5d591d77ae10a8bc67de3db272d798c6a2688d"), looks := true }, kinds := [], alts := [], laidByText := true, laidKinds := [.data, .sentinel, .pinned], laidTests := true, laidLooks := .later }
def FnPartLocationsCardSaid : Prop := Claim7.holds Tryz.pinned (.plain (OpenSpec.ofChange fnPartLocationsSpec)) fnPartLocationsCard

/-- THE SECOND FORM's CARD OF 'laws.FnPartImplements'. -/
def fnPartImplementsUptoCard : Claim7 := { stood := { row := fnPartImplementsUptoRow, standIns := [], harness := (true, "666ec07a1ed6ae68dd62ea888e5d591d77ae10a8bc67de3db272d798c6a2688d"), looks := true }, kinds := [], alts := [], laidByText := true, laidKinds := [.data, .sentinel, .pinned], laidTests := true, laidLooks := .later }
def FnPartImplementsUptoCardSaid : Prop := Claim7.holds Tryz.pinned (.plain (OpenSpec.upto fnPartImplementsSpec)) fnPartImplementsUptoCard

/-- THE SECOND FORM's CARD OF 'laws.FnPartLocations'. -/
def fnPartLocationsUptoCard : Claim7 := { stood := { row := fnPartLocationsUptoRow, standIns := [], harness := (true, "666ec07a1ed6ae68dd62ea888e5d591d77ae10a8bc67de3db272d798c6a2688d"), looks := true }, kinds := [], alts := [], laidByText := true, laidKinds := [.data, .sentinel, .pinned], laidTests := true, laidLooks := .later }
def FnPartLocationsUptoCardSaid : Prop := Claim7.holds Tryz.pinned (.plain (OpenSpec.upto fnPartLocationsSpec)) fnPartLocationsUptoCard
end Rows
end Go.Proofs.YtbjfahhfcdnkaaaGreatDoor
