/-
  DERIVED. GIVEN WITH THE SEED: THE CARDS: each row of YtbhcoeabhdangaaDoorRows.lean that lists a variable, with what it lists TIED to the program's text (the seventh form; the later family's looks); each row that meets fmt, with fmt's text TOLD by the authors' own Lean function (tested against real Go, not proved from fmt's source: count such statements apart). THE CARD IS WHAT COUNTS. Prove the row's statement (the work); the ties are given (YtbhcoeabhdangaaDoorTie.lean); close each card by the builder's one call (the guide's Derived/Test/ToyasCard.lean, 'card_holds'). Laid BY PROGRAM, IN A SANDBOX (cutbox-door.mjs). By AI agents, Wed Nov 11 2026. No macro, syntax, notation, axiom, sorry.
-/
import Derived.Test.YtbhcoeabhdangaaDoorRows
import GoSem.ClaimSeven
namespace Go.Proofs.YtbhcoeabhdangaaDoor
namespace Rows

/-- THE TIED CARD OF 'laws.FnStrikeTest'. -/
def fnStrikeTestCard : Claim7 := { stood := { row := fnStrikeTestRow, standIns := [], harness := (true, "8021a08bc622b5061dfeb148f833f39d98219c5cd9a883f6ac262cae8001a81a"), looks := true }, kinds := [], alts := [], laidByText := true, laidKinds := [.data, .listed, .pinned], laidTests := true, laidLooks := .later }
def FnStrikeTestCardSaid : Prop := Claim7.holds Tryd.pinned (.plain (OpenSpec.ofChange fnStrikeTestSpec)) fnStrikeTestCard

/-- THE TIED CARD OF 'laws.FnTrimNewlinesNone'. -/
def fnTrimNewlinesNoneCard : Claim7 := { stood := { row := fnTrimNewlinesNoneRow, standIns := [], harness := (true, "8021a08bc622b5061dfeb148f833f39d98219c5cd9a883f6ac262cae8001a81a"), looks := true }, kinds := [], alts := [], laidByText := true, laidKinds := [.data, .pinned], laidTests := true, laidLooks := .later }
def FnTrimNewlinesNoneCardSaid : Prop := Claim7.holds Tryd.pinned (.plain (OpenSpec.ofChange fnTrimNewlinesNoneSpec)) fnTrimNewlinesNoneCard

/-- THE TIED CARD OF 'laws.FnAlt'. -/
def fnAltCard : Claim7 := { stood := { row := fnAltRow, standIns := [], harness := (true, "8021a08bc622b5061dfeb148f833f39d98219c5cd9a883f6ac262cae8001a81a"), looks := true }, kinds := [], alts := [], laidByText := true, laidKinds := [.sentinel], laidTests := true, laidLooks := .later }
def FnAltCardSaid : Prop := Claim7.holds Tryd.pinned (.plain (OpenSpec.ofChange fnAltSpec)) fnAltCard

/-- THE TIED CARD OF 'laws.FnMultiLine'. -/
def fnMultiLineCard : Claim7 := { stood := { row := fnMultiLineRow, standIns := [], harness := (true, "8021a08bc622b5061dfeb148f833f39d98219c5cd9a883f6ac262cae8001a81a"), looks := true }, kinds := [], alts := [], laidByText := true, laidKinds := [.data, .listed, .pinned], laidTests := true, laidLooks := .later }
def FnMultiLineCardSaid : Prop := Claim7.holds Tryd.pinned (.plain (OpenSpec.ofChange fnMultiLineSpec)) fnMultiLineCard

/-- THE TIED CARD OF 'laws.FnDelimited'. -/
def fnDelimitedCard : Claim7 := { stood := { row := fnDelimitedRow, standIns := [], harness := (true, "8021a08bc622b5061dfeb148f833f39d98219c5cd9a883f6ac262cae8001a81a"), looks := true }, kinds := [], alts := [], laidByText := true, laidKinds := [.data, .listed, .sentinel, .pinned], laidTests := true, laidLooks := .later }
def FnDelimitedCardSaid : Prop := Claim7.holds Tryd.pinned (.plain (OpenSpec.ofChange fnDelimitedSpec)) fnDelimitedCard

/-- THE TIED CARD OF 'laws.FnListPrefix'. -/
def fnListPrefixCard : Claim7 := { stood := { row := fnListPrefixRow, standIns := [], harness := (true, "8021a08bc622b5061dfeb148f833f39d98219c5cd9a883f6ac262cae8001a81a"), looks := true }, kinds := [], alts := [], laidByText := true, laidKinds := [.data, .data, .data, .sentinel, .sentinel], laidTests := true, laidLooks := .later }
def FnListPrefixCardSaid : Prop := Claim7.holds Tryd.pinned (.plain (OpenSpec.ofChange fnListPrefixSpec)) fnListPrefixCard

/-- THE SECOND FORM's CARD OF 'laws.FnStrikeTest'. -/
def fnStrikeTestUptoCard : Claim7 := { stood := { row := fnStrikeTestUptoRow, standIns := [], harness := (true, "8021a08bc622b5061dfeb148f833f39d98219c5cd9a883f6ac262cae8001a81a"), looks := true }, kinds := [], alts := [], laidByText := true, laidKinds := [.data, .listed, .pinned], laidTests := true, laidLooks := .later }
def FnStrikeTestUptoCardSaid : Prop := Claim7.holds Tryd.pinned (.plain (OpenSpec.upto fnStrikeTestSpec)) fnStrikeTestUptoCard

/-- THE SECOND FORM's CARD OF 'laws.FnTrimNewlinesNone'. -/
def fnTrimNewlinesNoneUptoCard : Claim7 := { stood := { row := fnTrimNewlinesNoneUptoRow, standIns := [], harness := (true, "8021a08bc622b5061dfeb148f833f39d98219c5cd9a883f6ac262cae8001a81a"), looks := true }, kinds := [], alts := [], laidByText := true, laidKinds := [.data, .pinned], laidTests := true, laidLooks := .later }
def FnTrimNewlinesNoneUptoCardSaid : Prop := Claim7.holds Tryd.pinned (.plain (OpenSpec.upto fnTrimNewlinesNoneSpec)) fnTrimNewlinesNoneUptoCard

/-- THE SECOND FORM's CARD OF 'laws.FnAlt'. -/
def fnAltUptoCard : Claim7 := { stood := { row := fnAltUptoRow, standIns := [], harness := (true, "8021a08bc622b5061dfeb148f833f39d98219c5cd9a883f6ac262cae8001a81a"), looks := true }, kinds := [], alts := [], laidByText := true, laidKinds := [.sentinel], laidTests := true, laidLooks := .later }
def FnAltUptoCardSaid : Prop := Claim7.holds Tryd.pinned (.plain (OpenSpec.upto fnAltSpec)) fnAltUptoCard

/-- THE SECOND FORM's CARD OF 'laws.FnMultiLine'. -/
def fnMultiLineUptoCard : Claim7 := { stood := { row := fnMultiLineUptoRow, standIns := [], harness := (true, "8021a08bc622b5061dfeb148f833f39d98219c5cd9a883f6ac262cae8001a81a"), looks := true }, kinds := [], alts := [], laidByText := true, laidKinds := [.data, .listed, .pinned], laidTests := true, laidLooks := .later }
def FnMultiLineUptoCardSaid : Prop := Claim7.holds Tryd.pinned (.plain (OpenSpec.upto fnMultiLineSpec)) fnMultiLineUptoCard

/-- THE SECOND FORM's CARD OF 'laws.FnDelimited'. -/
def fnDelimitedUptoCard : Claim7 := { stood := { row := fnDelimitedUptoRow, standIns := [], harness := (true, "8021a08bc622b5061dfeb148f833f39d98219c5cd9a883f6ac262cae8001a81a"), looks := true }, kinds := [], alts := [], laidByText := true, laidKinds := [.data, .listed, .sentinel, .pinned], laidTests := true, laidLooks := .later }
def FnDelimitedUptoCardSaid : Prop := Claim7.holds Tryd.pinned (.plain (OpenSpec.upto fnDelimitedSpec)) fnDelimitedUptoCard

/-- THE SECOND FORM's CARD OF 'laws.FnListPrefix'. -/
def fnListPrefixUptoCard : Claim7 := { stood := { row := fnListPrefixUptoRow, standIns := [], harness := (true, "8021a08bc622b5061dfeb148f833f39d98219c5cd9a883f6ac262cae8001a81a"), looks := true }, kinds := [], alts := [], laidByText := true, laidKinds := [.data, .data, .data, .sentinel, .sentinel], laidTests := true, laidLooks := .later }
def FnListPrefixUptoCardSaid : Prop := Claim7.holds Tryd.pinned (.plain (OpenSpec.upto fnListPrefixSpec)) fnListPrefixUptoCard
end Rows
end Go.Proofs.YtbhcoeabhdangaaDoor
