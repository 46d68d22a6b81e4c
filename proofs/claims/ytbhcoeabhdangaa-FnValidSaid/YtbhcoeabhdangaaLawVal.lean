/- The law FnValid, walked: true. -/
import Derived.Test.YtbhcoeabhdangaaValL
import Derived.Deep.DeepMust
import Derived.Tactics2
namespace Go.Proofs.Ytbhcoeabhdangaa.PVal
open Go.Proofs.Ytbhcoeabhdangaa.Txt Go.RowKit Go.Proofs.YtbhcoeabhdangaaW.PrintWords Go.Proofs.YtbhcoeabhdangaaW.PrintLast Go.Proofs.YtbhcoeabhdangaaW.PrintMore
set_option linter.unusedVariables false
set_option linter.unusedSimpArgs false

set_option maxRecDepth 100000 in
set_option maxHeartbeats 4000000 in
theorem law_calls (a0 a1 a2 a3 : ByteArray) (w : World) (h0 : a0.size ≤ 140737488351232) (h1 : a1.size ≤ 140737488351232) (h2 : a2.size ≤ 140737488351232) (h3 : a3.size ≤ 140737488351232) :
    Calls Try.prog 6 #[.string a0, .string a1, .string a2, .string a3] w fun e w' => e = .returned (.bool true) ∧ Below w.heap.size w w' := by
  by_cases hb : (a0.size : Int) > 2147483647 ∨ (a1.size : Int) > 2147483647 ∨ (a2.size : Int) > 2147483647 ∨ (a3.size : Int) > 2147483647
  · by_cases b0 : (a0.size : Int) > 2147483647
    · go_enter Try.func6, Try.ntmps6
      go_wp2_with fail
      go_ret
      exact ⟨rfl, Below.refl _ _⟩
    by_cases b1 : (a1.size : Int) > 2147483647
    · go_enter Try.func6, Try.ntmps6
      go_wp2_with fail
      go_ret
      exact ⟨rfl, Below.refl _ _⟩
    by_cases b2 : (a2.size : Int) > 2147483647
    · go_enter Try.func6, Try.ntmps6
      go_wp2_with fail
      go_ret
      exact ⟨rfl, Below.refl _ _⟩
    by_cases b3 : (a3.size : Int) > 2147483647
    · go_enter Try.func6, Try.ntmps6
      go_wp2_with fail
      go_ret
      exact ⟨rfl, Below.refl _ _⟩
    omega
  · obtain ⟨k0, e0⟩ := (pure_ev a0 (by omega)).rounds
    obtain ⟨k1, e1⟩ := (pure_ev a1 (by omega)).rounds
    obtain ⟨k2, e2⟩ := (taken_ev a0 a1 a2 a3).rounds
    have C0 := Aside0.mk (fun wx => spec_Pure.calls k0 a0 _ wx e0)
    have C1 := Aside0.mk (fun wx => spec_Pure.calls k1 a1 _ wx e1)
    have CT := Aside0.mk (fun wx => spec_Taken.calls k2 a0 a1 a2 a3 _ wx e2)
    have CV := Aside0.mk (fun wx => valid_door a0 a1 a2 a3 false false false false (by omega) (by omega) wx)
    have HL := Aside0.mk (taken_law a0 a1 a2 a3)
    have s0 : ¬ (a0.size : Int) > 2147483647 := by omega
    have s1 : ¬ (a1.size : Int) > 2147483647 := by omega
    have s2 : ¬ (a2.size : Int) > 2147483647 := by omega
    have s3 : ¬ (a3.size : Int) > 2147483647 := by omega
    clear e0 e1 e2 hb
    generalize pureB a0 = p0 at C0 HL
    generalize pureB a1 = p1 at C1 HL
    have HB := Aside0.mk (Below.refl w.heap.size w)
    cases p0 with
    | false =>
      go_enter Try.func6, Try.ntmps6
      go_wp2_with (go_at_call 15; go_must (refine (C0.out _).mono ?_; rintro e w4 ⟨rfl, hb⟩; have n_ := Aside0.mk (below_step HB.out hb.below); clear HB hb; have HB := n_; clear n_))
      go_ret
      exact ⟨rfl, HB.out⟩
    | true =>
      cases p1 with
      | false =>
        go_enter Try.func6, Try.ntmps6
        go_wp2_with (go_at_call 15; go_must (first | with_reducible refine (C0.out _).mono ?_ | with_reducible refine (C1.out _).mono ?_); rintro e w4 ⟨rfl, hb⟩; have n_ := Aside0.mk (below_step HB.out hb.below); clear HB hb; have HB := n_; clear n_)
        go_ret
        exact ⟨rfl, HB.out⟩
      | true =>
        have HE := Aside0.mk (HL.out rfl rfl)
        clear HL
        generalize okB a0 a1 a2 a3 = v at CV HE
        generalize takenB a0 a1 a2 a3 = t at CT HE
        obtain rfl := HE.out
        go_enter Try.func6, Try.ntmps6
        go_wp2_with (first
          | (go_at_call 15; go_must (first | with_reducible refine (C0.out _).mono ?_ | with_reducible refine (C1.out _).mono ?_); rintro e w4 ⟨rfl, hb⟩; have n_ := Aside0.mk (below_step HB.out hb.below); clear HB hb; have HB := n_; clear n_)
          | (go_at_call 16; go_must (refine (CV.out _).mono ?_); rintro e w4 ⟨rfl, hb⟩; have n_ := Aside0.mk (below_step HB.out hb); clear HB hb; have HB := n_; clear n_)
          | (go_at_call 17; go_must (refine (CT.out _).mono ?_); rintro e w4 ⟨rfl, hb⟩; have n_ := Aside0.mk (below_step HB.out hb); clear HB hb; have HB := n_; clear n_))
        go_ret
        exact ⟨by simp, HB.out⟩
end Go.Proofs.Ytbhcoeabhdangaa.PVal
