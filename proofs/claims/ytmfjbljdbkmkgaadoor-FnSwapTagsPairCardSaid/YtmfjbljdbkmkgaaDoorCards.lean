/-
  DERIVED. GIVEN WITH THE SEED: THE CARDS: each row of YtmfjbljdbkmkgaaDoorRows.lean that lists a variable, with what it lists TIED to the program's text (the seventh form; the later family's looks); each row that meets fmt, with fmt's text TOLD by the authors' own Lean function (tested against real Go, not proved from fmt's source: count such statements apart). THE CARD IS WHAT COUNTS. Prove the row's statement (the work); the ties are given (YtmfjbljdbkmkgaaDoorTie.lean); close each card by the builder's one call (the guide's Derived/Test/ToyasCard.lean, 'card_holds'). Laid BY PROGRAM, IN A SANDBOX (cutbox-door.mjs). By AI agents, Wed Nov 11 2026. No macro, syntax, notation, axiom, sorry.
-/
import Derived.Test.YtmfjbljdbkmkgaaDoorRows
import GoSem.ClaimSeven
namespace Go.Proofs.YtmfjbljdbkmkgaaDoor
namespace Rows

/-- THE TIED CARD OF 'laws.FnSwapTagsPair'. -/
def fnSwapTagsPairCard : Claim7 := { stood := { row := fnSwapTagsPairRow, standIns := [], harness := (true, "1750c264c8a0c2577b45722aacbbcffc5baa53fe9c8844eece901f588ac14e1d"), looks := false }, kinds := [], alts := [], laidByText := true, laidKinds := [.data, .listed, .data, .pinned], laidTests := true, laidLooks := .later }
def FnSwapTagsPairCardSaid : Prop := Claim7.holds Tryd.pinned (.plain (OpenSpec.ofChange fnSwapTagsPairSpec)) fnSwapTagsPairCard

/-- THE TIED CARD OF 'laws.FnListItems'. -/
def fnListItemsCard : Claim7 := { stood := { row := fnListItemsRow, standIns := [], harness := (true, "1750c264c8a0c2577b45722aacbbcffc5baa53fe9c8844eece901f588ac14e1d"), looks := false }, kinds := [], alts := [], laidByText := true, laidKinds := [.data, .listed, .data, .pinned], laidTests := true, laidLooks := .later }
def FnListItemsCardSaid : Prop := Claim7.holds Tryd.pinned (.plain (OpenSpec.ofChange fnListItemsSpec)) fnListItemsCard

/-- THE SECOND FORM's CARD OF 'laws.FnSwapTagsPair'. -/
def fnSwapTagsPairUptoCard : Claim7 := { stood := { row := fnSwapTagsPairUptoRow, standIns := [], harness := (true, "1750c264c8a0c2577b45722aacbbcffc5baa53fe9c8844eece901f588ac14e1d"), looks := false }, kinds := [], alts := [], laidByText := true, laidKinds := [.data, .listed, .data, .pinned], laidTests := true, laidLooks := .later }
def FnSwapTagsPairUptoCardSaid : Prop := Claim7.holds Tryd.pinned (.plain (OpenSpec.upto fnSwapTagsPairSpec)) fnSwapTagsPairUptoCard

/-- THE SECOND FORM's CARD OF 'laws.FnListItems'. -/
def fnListItemsUptoCard : Claim7 := { stood := { row := fnListItemsUptoRow, standIns := [], harness := (true, "1750c264c8a0c2577b45722aacbbcffc5baa53fe9c8844eece901f588ac14e1d"), looks := false }, kinds := [], alts := [], laidByText := true, laidKinds := [.data, .listed, .data, .pinned], laidTests := true, laidLooks := .later }
def FnListItemsUptoCardSaid : Prop := Claim7.holds Tryd.pinned (.plain (OpenSpec.upto fnListItemsSpec)) fnListItemsUptoCard
end Rows
end Go.Proofs.YtmfjbljdbkmkgaaDoor
