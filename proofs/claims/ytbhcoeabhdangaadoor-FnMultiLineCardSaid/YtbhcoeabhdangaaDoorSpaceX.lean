/- unicode.IsSpace below 256, walked: no table is read. -/
import Derived.Test.YtbhcoeabhdangaaDoorDecX
import Derived.Test.YtbhcoeabhdangaaDoorProg
import Derived.Deep.DeepMust
import Derived.Tactics2
namespace Go.Proofs.YtbhcoeabhdangaaDoor.PInl
open Go.Proofs.YtbhcoeabhdangaaDoor.Txt Go.RowKit Go.Proofs.YtbhcoeabhdangaaDoorW.PrintWords Go.Proofs.YtbhcoeabhdangaaDoorW.PrintLast Go.Proofs.YtbhcoeabhdangaaDoorW.PrintMore
set_option linter.unusedVariables false
set_option linter.unusedSimpArgs false

/-- White space of ASCII. -/
def spc (x : Int) : Bool := decide (x = 9 ∨ x = 10 ∨ x = 11 ∨ x = 12 ∨ x = 13 ∨ x = 32)
set_option maxHeartbeats 1000000 in
theorem space_calls (x : Int) (w : World) (h0 : 0 ≤ x) (h1 : x < 128) :
    Calls Tryd.prog 32 #[.int .i32 x] w fun e w' => e = .returned (.bool (spc x)) ∧ w' = w := by
  unfold spc
  go_enter Tryd.func32, Tryd.ntmps32
  go_wp2
  all_goals
    go_ret
    refine ⟨congrArg (fun b => Ending.returned (Value.bool b)) (Eq.symm ?_), rfl⟩
    simp only [beq_iff_eq, beq_eq_false_iff_ne] at *
    first
    | exact decide_eq_true (by omega)
    | exact decide_eq_false (by omega)
def unicode_IsSpace.f (_ : Nat) (a0 : Int) : Option Bool := if 0 ≤ a0 ∧ a0 < 128 then some (spc a0) else none
theorem unicode_IsSpace.mono : ∀ a0 k, LeO (unicode_IsSpace.f k a0) (unicode_IsSpace.f (k + 1) a0) := fun _ _ => LeO.refl _
theorem unicode_IsSpace.calls (k : Nat) (a0 : Int) (r : Bool) (w : World) (h : unicode_IsSpace.f k a0 = some r) :
    Calls Tryd.prog 32 #[.int .i32 a0] w fun e w' => e = .returned (.bool r) ∧ Below w.heap.size w w' := by
  unfold unicode_IsSpace.f at h
  split at h
  · rename_i hx
    obtain rfl := Option.some.inj h
    refine (space_calls a0 w hx.1 hx.2).mono ?_
    rintro e w' ⟨rfl, rfl⟩
    exact ⟨rfl, Below.refl _ _⟩
  · cases h
end Go.Proofs.YtbhcoeabhdangaaDoor.PInl
