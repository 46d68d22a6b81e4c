/- A node with one attribute: what dom.GetAttributeOr returns. -/
import Derived.Test.YtbhcoeabhdangaaWMore
import Derived.Test.YtbhcoeabhdangaaProg
import Derived.Test.YtbhcoeabhdangaaTxt
namespace Go.Proofs.Ytbhcoeabhdangaa.AttrX
open Go.Proofs.Ytbhcoeabhdangaa.Txt Go.RowKit Go.Proofs.YtbhcoeabhdangaaW.PrintWords Go.Proofs.YtbhcoeabhdangaaW.PrintLast Go.Proofs.YtbhcoeabhdangaaW.PrintMore
set_option linter.unusedVariables false
set_option linter.unusedSimpArgs false

theorem attrOr_calls (nb ab : Nat) (key v : ByteArray) (w : World) (cs : Array Value)
    (hn : w.heap[nb]? = some (.cells cs 44 (0, 0))) (h9 : cs[9]? = some (.slice (some ⟨ab, 0, none⟩) 1 1))
    (ha : w.heap[ab]? = some (.cells #[.string ByteArray.empty, .string key, .string v] 40 (0, 0))) (s : ByteArray) :
    Calls Try.prog 54 #[.pointer (some ⟨nb, 0, none⟩), .string key, .string s] w fun e w' => e = .returned (.string v) ∧ Below w.heap.size w w' := by
  have hc9 : w.cell? ⟨nb, 9, none⟩ = some (.slice (some ⟨ab, 0, none⟩) 1 1) := by simp [World.cell?, hn, h9]
  have ha0 : w.cell? ⟨ab, 0, none⟩ = some (.string ByteArray.empty) := by simp [World.cell?, ha]
  have ha1 : w.cell? ⟨ab, 1, none⟩ = some (.string key) := by simp [World.cell?, ha]
  have ha2 : w.cell? ⟨ab, 2, none⟩ = some (.string v) := by simp [World.cell?, ha]
  go_enter Try.func54, Try.ntmps54
  go_wp2
  go_loopw [14] (fun i w' => i = .int .i64 0 ∧ w' = w) (fun _ _ => 0)
  case atStart => exact ⟨rfl, rfl⟩
  case round =>
    obtain ⟨rfl, rfl⟩ := hrel
    go_wp2
    go_ret
    exact ⟨rfl, below_alloc (Below.refl _ _) _⟩
end Go.Proofs.Ytbhcoeabhdangaa.AttrX
