/-
  DERIVED. GIVEN WITH THE SEED: THE CARDS: each row of YtibfoaahdbdogaaDoorRows.lean that lists a variable, with what it lists TIED to the program's text (the seventh form; the later family's looks); each row that meets fmt, with fmt's text TOLD by the authors' own Lean function (tested against real Go, not proved from fmt's source: count such statements apart). THE CARD IS WHAT COUNTS. Prove the row's statement (the work); the ties are given (YtibfoaahdbdogaaDoorTie.lean); close each card by the builder's one call (the guide's Derived/Test/ToyasCard.lean, 'card_holds'). Laid BY PROGRAM, IN A SANDBOX (cutbox-door.mjs). By AI agents, Wed Nov 11 2026. No macro, syntax, notation, axiom, sorry.
-/
import Derived.Test.YtibfoaahdbdogaaDoorRows
import GoSem.ClaimSeven
namespace Go.Proofs.YtibfoaahdbdogaaDoor
namespace Rows

/-- THE TIED CARD OF 'laws.FnDomText'. -/
def fnDomTextCard : Claim7 := { stood := { row := fnDomTextRow, standIns := [], harness := (true, "f827e1f945728a26ba5288b95a9c86fd9f8e34eaff24a1c3828cfb0b9ef59399"), looks := false }, kinds := [], alts := [], laidByText := true, laidKinds := [.sentinel], laidTests := true, laidLooks := .later }
def FnDomTextCardSaid : Prop := Claim7.holds Tryd.pinned (.plain (OpenSpec.ofChange fnDomTextSpec)) fnDomTextCard

/-- THE TIED CARD OF 'laws.FnDomClasses'. -/
def fnDomClassesCard : Claim7 := { stood := { row := fnDomClassesRow, standIns := [], harness := (true, "f827e1f945728a26ba5288b95a9c86fd9f8e34eaff24a1c3828cfb0b9ef59399"), looks := false }, kinds := [], alts := [], laidByText := true, laidKinds := [.listed, .data], laidTests := true, laidLooks := .later }
def FnDomClassesCardSaid : Prop := Claim7.holds Tryd.pinned (.plain (OpenSpec.ofChange fnDomClassesSpec)) fnDomClassesCard

/-- THE SECOND FORM's CARD OF 'laws.FnDomText'. -/
def fnDomTextUptoCard : Claim7 := { stood := { row := fnDomTextUptoRow, standIns := [], harness := (true, "f827e1f945728a26ba5288b95a9c86fd9f8e34eaff24a1c3828cfb0b9ef59399"), looks := false }, kinds := [], alts := [], laidByText := true, laidKinds := [.sentinel], laidTests := true, laidLooks := .later }
def FnDomTextUptoCardSaid : Prop := Claim7.holds Tryd.pinned (.plain (OpenSpec.upto fnDomTextSpec)) fnDomTextUptoCard

/-- THE SECOND FORM's CARD OF 'laws.FnDomClasses'. -/
def fnDomClassesUptoCard : Claim7 := { stood := { row := fnDomClassesUptoRow, standIns := [], harness := (true, "f827e1f945728a26ba5288b95a9c86fd9f8e34eaff24a1c3828cfb0b9ef59399"), looks := false }, kinds := [], alts := [], laidByText := true, laidKinds := [.listed, .data], laidTests := true, laidLooks := .later }
def FnDomClassesUptoCardSaid : Prop := Claim7.holds Tryd.pinned (.plain (OpenSpec.upto fnDomClassesSpec)) fnDomClassesUptoCard
end Rows
end Go.Proofs.YtibfoaahdbdogaaDoor
