/- impl.Blanks, and laws.inlineLives: it is true. -/
import Derived.Test.YtbhcoeabhdangaaDoorBlankY
import Derived.Test.YtbhcoeabhdangaaDoorQuotX
import Derived.Deep.DeepMust
namespace Go.Proofs.YtbhcoeabhdangaaDoor.PInl
open Go.Proofs.YtbhcoeabhdangaaDoor.Keep Go.RowKit Go.Proofs.YtbhcoeabhdangaaDoorW.PrintWords Go.Proofs.YtbhcoeabhdangaaDoorW.PrintLast Go.Proofs.YtbhcoeabhdangaaDoorW.PrintMore
set_option linter.unusedVariables false
set_option linter.unusedSimpArgs false

theorem zzblanks_calls (a0 : ByteArray) (w : World) (hs : a0.size ≤ 2147483647) (hne : a0.size ≠ 0) :
    Calls Tryd.prog 40 #[.string a0] w fun e w' => e = .returned (.string (strOfNums (Blank.norm false (bytesOf a0)))) ∧ Below w.heap.size w w' := by
  go_enter Tryd.func40, Tryd.ntmps40
  go_wp2_with (go_at_call 54; go_must (refine (Blank.blank_calls a0 w hs hne).mono ?_; rintro e w1 ⟨rfl, hB⟩; have HB := Aside0.mk hB; clear hB))
  go_ret
  exact ⟨rfl, HB.out⟩
theorem blanks_calls (a0 : ByteArray) (w : World) (hs : a0.size ≤ 2147483647) (hne : a0.size ≠ 0) :
    Calls Tryd.prog 28 #[.string a0] w fun e w' => e = .returned (.string (strOfNums (Blank.norm false (bytesOf a0)))) ∧ Below w.heap.size w w' := by
  go_enter Tryd.func28, Tryd.ntmps28
  go_wp2_with (go_at_call 40; go_must (refine (zzblanks_calls a0 w hs hne).mono ?_; rintro e w1 ⟨rfl, hB⟩; have HB := Aside0.mk hB; clear hB))
  go_ret
  exact ⟨rfl, HB.out⟩
theorem quoted_a : impl_Quoted.f 5 ⟨#[97]⟩ = some ⟨#[34, 97, 34]⟩ := by kernel_rfl
theorem norm_ab : strOfNums (Blank.norm false (bytesOf ⟨#[97, 32, 32, 98]⟩)) = ⟨#[97, 32, 98]⟩ := by kernel_rfl
def laws_inlineLives.f (_ : Nat) : Option Bool := some true
theorem laws_inlineLives.mono : ∀ k, LeO (laws_inlineLives.f k) (laws_inlineLives.f (k + 1)) := fun _ => LeO.refl _
theorem laws_inlineLives.calls (k : Nat) (r : Bool) (w : World) (h : laws_inlineLives.f k = some r) :
    Calls Tryd.prog 14 #[] w fun e w' => e = .returned (.bool r) ∧ Below w.heap.size w w' := by
  obtain rfl := Option.some.inj h
  have HQ := Aside0.mk quoted_a
  have HNA := Aside0.mk norm_ab
  clear h
  go_enter Tryd.func14, Tryd.ntmps14
  go_wp2_with (first
    | (go_at_call 28; go_must (refine (blanks_calls _ w (by decide) (by decide)).mono ?_; rw [HNA.out]; rintro e w1 ⟨rfl, hB⟩; have HB := Aside0.mk hB; clear hB))
    | (go_at_call 29; go_must (refine (impl_Quoted.calls 5 _ _ _ HQ.out).mono ?_; rintro e w2 ⟨rfl, hB2⟩; have HB2 := Aside0.mk (below_step HB.out hB2); clear hB2)))
  go_ret
  exact ⟨rfl, HB2.out⟩
end Go.Proofs.YtbhcoeabhdangaaDoor.PInl
