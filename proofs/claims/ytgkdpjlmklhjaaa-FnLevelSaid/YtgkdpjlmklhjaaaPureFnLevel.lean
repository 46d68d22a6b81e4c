/- The law FnLevel answers true for every whole number: numbers outside 1 to 6 are let by, and the six others are computed. No further conditions. -/
import Derived.Test.YtgkdpjlmklhjaaaPFnLevelx1
namespace Go.Proofs.Ytgkdpjlmklhjaaa.Pure
open Go.RowKit Go.Proofs.Ytgkdpjlmklhjaaa.PFnLevel Go.Proofs.YtgkdpjlmklhjaaaW.PrintWords Go.Proofs.YtgkdpjlmklhjaaaW.PrintLast

theorem FnLevel : laws_FnLevel.Pure := by
  intro a0 _
  by_cases h1 : a0 < 1
  · exact ⟨2, by unfold laws_FnLevel.f; rw [if_pos h1]⟩
  by_cases h6 : a0 > 6
  · exact ⟨2, by unfold laws_FnLevel.f; rw [if_neg h1, if_pos h6]⟩
  have h : a0 = 1 ∨ a0 = 2 ∨ a0 = 3 ∨ a0 = 4 ∨ a0 = 5 ∨ a0 = 6 := by omega
  rcases h with rfl | rfl | rfl | rfl | rfl | rfl <;> exact ⟨2, by decide +kernel⟩

end Go.Proofs.Ytgkdpjlmklhjaaa.Pure
