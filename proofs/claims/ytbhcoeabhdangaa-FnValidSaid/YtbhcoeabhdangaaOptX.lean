/- impl.options: begun. -/
import Derived.Test.YtbhcoeabhdangaaCountX
import Derived.Deep.DeepMust
import Derived.Tactics2
namespace Go.Proofs.Ytbhcoeabhdangaa.PVal
open Go.Proofs.Ytbhcoeabhdangaa.Txt Go.RowKit Go.Proofs.YtbhcoeabhdangaaW.PrintWords Go.Proofs.YtbhcoeabhdangaaW.PrintLast Go.Proofs.YtbhcoeabhdangaaW.PrintMore
set_option linter.unusedVariables false
set_option linter.unusedSimpArgs false
/-- What makes an option leaves: a closure over a box that holds the text. -/
def OptP (F : Nat) (s : ByteArray) (w : World) (e : Ending) (w' : World) : Prop := e = .returned (.func (.func F) #[] #[.pointer (some ⟨w.heap.size, 0, none⟩)]) ∧ w'.heap[w.heap.size]? = some (.cells #[.string s] 9 (0, 0)) ∧ Below w.heap.size w w'
theorem em_calls (s : ByteArray) (w : World) : Calls Try.prog 35 #[.string s] w (OptP 61 s w) := by
  go_enter Try.func35, Try.ntmps35
  go_wp2
  go_ret
  exact ⟨rfl, heap_alloc_new w _, below_alloc (Below.refl _ _) _⟩
theorem strong_calls (s : ByteArray) (w : World) : Calls Try.prog 36 #[.string s] w (OptP 62 s w) := by
  go_enter Try.func36, Try.ntmps36
  go_wp2
  go_ret
  exact ⟨rfl, heap_alloc_new w _, below_alloc (Below.refl _ _) _⟩
theorem bullet_calls (s : ByteArray) (w : World) : Calls Try.prog 37 #[.string s] w (OptP 63 s w) := by
  go_enter Try.func37, Try.ntmps37
  go_wp2
  go_ret
  exact ⟨rfl, heap_alloc_new w _, below_alloc (Below.refl _ _) _⟩
theorem fence_calls (s : ByteArray) (w : World) : Calls Try.prog 38 #[.string s] w (OptP 64 s w) := by
  go_enter Try.func38, Try.ntmps38
  go_wp2
  go_ret
  exact ⟨rfl, heap_alloc_new w _, below_alloc (Below.refl _ _) _⟩
/-- An option writes its text into a config. -/
theorem opt_call (F j : Nat) (hF : (F = 61 ∧ j = 0) ∨ (F = 62 ∧ j = 1) ∨ (F = 63 ∧ j = 3) ∨ (F = 64 ∧ j = 5)) (s : ByteArray) (g b : Nat) (w : World) (cs : Array Value) (hs : cs.size = 10) (hg : w.heap[g]? = some (.cells cs 57 (0, 0))) (hb : w.heap[b]? = some (.cells #[.string s] 9 (0, 0))) :
    Calls Try.prog F #[.pointer (some ⟨g, 0, none⟩), .pointer (some ⟨b, 0, none⟩)] w fun e w' => e = .returned (.tuple #[]) ∧ w' = w.setCell ⟨g, j, none⟩ (.string s) := by
  have r := blk_cell hb 0
  have c : ∀ i, i < 10 → ∃ v, w.cell? ⟨g, i, none⟩ = some v := fun i hi => ⟨cs[i], by rw [blk_cell hg i]; exact Array.getElem?_eq_getElem (by omega)⟩
  have f := blk_frozen hg
  obtain ⟨v0, c0⟩ := c 0 (by omega)
  obtain ⟨v1, c1⟩ := c 1 (by omega)
  obtain ⟨v3, c3⟩ := c 3 (by omega)
  obtain ⟨v5, c5⟩ := c 5 (by omega)
  have f0 := f 0
  have f1 := f 1
  have f3 := f 3
  have f5 := f 5
  rcases hF with ⟨rfl, rfl⟩ | ⟨rfl, rfl⟩ | ⟨rfl, rfl⟩ | ⟨rfl, rfl⟩
  · go_enter Try.func61, Try.ntmps61
    go_wp2
    go_end0
    exact ⟨rfl, rfl⟩
  · go_enter Try.func62, Try.ntmps62
    go_wp2
    go_end0
    exact ⟨rfl, rfl⟩
  · go_enter Try.func63, Try.ntmps63
    go_wp2
    go_end0
    exact ⟨rfl, rfl⟩
  · go_enter Try.func64, Try.ntmps64
    go_wp2
    go_end0
    exact ⟨rfl, rfl⟩
end Go.Proofs.Ytbhcoeabhdangaa.PVal
