/- dom.NodeName of a node of a table. -/
import Derived.Test.YtibfoaahdbdogaaMadeX
namespace Go.Proofs.Ytibfoaahdbdogaa.Dom
open Go.RowKit Go.Proofs.YtibfoaahdbdogaaW.PrintWords Go.Proofs.YtibfoaahdbdogaaW.PrintLast Go.Proofs.YtibfoaahdbdogaaW.PrintMore Go.Proofs.Ytibfoaahdbdogaa.PDom
set_option linter.unusedVariables false
set_option linter.unusedSimpArgs false

abbrev docName : ByteArray := ⟨#[35, 100, 111, 99, 117, 109, 101, 110, 116]⟩
abbrev textName : ByteArray := ⟨#[35, 116, 101, 120, 116]⟩
abbrev commentName : ByteArray := ⟨#[35, 99, 111, 109, 109, 101, 110, 116]⟩
def nameOf (i : Info) : ByteArray := if i.ty = 1 then textName else if i.ty = 2 then docName else if i.ty = 4 then commentName else i.data
theorem node_calls (w : World) (D : Tab) (b : Nat) (i : Info) (h : Dom w D) (hb : D b = some i) (ht : i.ty = 1 ∨ i.ty = 2 ∨ i.ty = 3 ∨ i.ty = 4) :
    Calls Try.prog 36 #[ptr (some b)] w fun e w' => e = .returned (.string (nameOf i)) ∧ w' = w := by
  obtain ⟨v, hH, _⟩ := h.has hb
  have c5 : w.cell? ⟨b, 5, none⟩ = some (.int .u32 i.ty) := hH.cell 5
  have c7 : w.cell? ⟨b, 7, none⟩ = some (.string i.data) := hH.cell 7
  unfold nameOf ptr
  clear hH h hb
  generalize i.data = d at *
  generalize i.ty = y at *
  go_enter Try.func36, Try.ntmps36
  rcases ht with rfl | rfl | rfl | rfl
  all_goals (go_wp2; go_ret; exact ⟨rfl, rfl⟩)
end Go.Proofs.Ytibfoaahdbdogaa.Dom
