/-
  DERIVED. GIVEN WITH THE SEED: THE CARDS: each row of YtdfafjfcnbfmnaaDoorRows.lean that lists a variable, with what it lists TIED to the program's text (the seventh form; the later family's looks); each row that meets fmt, with fmt's text TOLD by the authors' own Lean function (tested against real Go, not proved from fmt's source: count such statements apart). THE CARD IS WHAT COUNTS. Prove the row's statement (the work); the ties are given (YtdfafjfcnbfmnaaDoorTie.lean); close each card by the builder's one call (the guide's Derived/Test/ToyasCard.lean, 'card_holds'). Laid BY PROGRAM, IN A SANDBOX (cutbox-door.mjs). By AI agents, Wed Nov 11 2026. No macro, syntax, notation, axiom, sorry.
-/
import Derived.Test.YtdfafjfcnbfmnaaDoorRows
import GoSem.ClaimSeven
namespace Go.Proofs.YtdfafjfcnbfmnaaDoor
namespace Rows

/-- THE TIED CARD OF 'laws.FnPlace'. -/
def fnPlaceCard : Claim7 := { stood := { row := fnPlaceRow, standIns := [], harness := (true, "b50a59fba07f61c17d00857f3dabfe49f61121b3c150b56aa65f21d4b8bc7521"), looks := true }, kinds := [], alts := [], laidByText := true, laidKinds := [.data, .data, .data, .sentinel, .data], laidTests := true, laidLooks := .later }
def FnPlaceCardSaid : Prop := Claim7.holds Tryd.pinned (.plain (OpenSpec.ofChange fnPlaceSpec)) fnPlaceCard

/-- THE TIED CARD OF 'laws.FnErrorPlace'. -/
def fnErrorPlaceCard : Claim7 := { stood := { row := fnErrorPlaceRow, standIns := [], harness := (true, "b50a59fba07f61c17d00857f3dabfe49f61121b3c150b56aa65f21d4b8bc7521"), looks := true }, kinds := [], alts := [], laidByText := true, laidKinds := [.data, .data, .data, .sentinel, .data], laidTests := true, laidLooks := .later }
def FnErrorPlaceCardSaid : Prop := Claim7.holds Tryd.pinned (.plain (OpenSpec.ofChange fnErrorPlaceSpec)) fnErrorPlaceCard

/-- THE SECOND FORM's CARD OF 'laws.FnPlace'. -/
def fnPlaceUptoCard : Claim7 := { stood := { row := fnPlaceUptoRow, standIns := [], harness := (true, "b50a59fba07f61c17d00857f3dabfe49f61121b3c150b56aa65f21d4b8bc7521"), looks := true }, kinds := [], alts := [], laidByText := true, laidKinds := [.data, .data, .data, .sentinel, .data], laidTests := true, laidLooks := .later }
def FnPlaceUptoCardSaid : Prop := Claim7.holds Tryd.pinned (.plain (OpenSpec.upto fnPlaceSpec)) fnPlaceUptoCard

/-- THE SECOND FORM's CARD OF 'laws.FnErrorPlace'. -/
def fnErrorPlaceUptoCard : Claim7 := { stood := { row := fnErrorPlaceUptoRow, standIns := [], harness := (true, "b50a59fba07f61c17d00857f3dabfe49f61121b3c150b56aa65f21d4b8bc7521"), looks := true }, kinds := [], alts := [], laidByText := true, laidKinds := [.data, .data, .data, .sentinel, .data], laidTests := true, laidLooks := .later }
def FnErrorPlaceUptoCardSaid : Prop := Claim7.holds Tryd.pinned (.plain (OpenSpec.upto fnErrorPlaceSpec)) fnErrorPlaceUptoCard
end Rows
end Go.Proofs.YtdfafjfcnbfmnaaDoor
