/- Printed by the program extprint.py of this session, out of the kit's print and contracts of this session's own; Lean checks it. -/
import Derived.Test.YtgkdpjlmklhjaaaEFnSpanx0
import Derived.Test.YtgkdpjlmklhjaaaEFnSpanx1
import Derived.Test.YtgkdpjlmklhjaaaSpanX
namespace Go.Proofs.Ytgkdpjlmklhjaaa.PFnSpan
open Go.RowKit Go.Proofs.YtgkdpjlmklhjaaaW.PrintWords Go.Proofs.YtgkdpjlmklhjaaaW.PrintLast Go.Proofs.YtgkdpjlmklhjaaaW.PrintMore
attribute [local go_sem] max2_int min2_int max_two min_two max_three min_three max_four min_four   -- for this text's walks alone
set_option linter.unusedVariables false
set_option linter.unusedSimpArgs false




/-! ### laws_FnSpan: function 5 -/
mutual
def laws_FnSpan.j0 : Nat → Int → Int → Int → Int → ByteArray → Bool → Option (Bool)
  | 0, _, _, _, _, _, _ => none
  | k + 1, x0, x1, x2, x3, x4, x47 => if x47 = true then (some true) else ((impl_Span.f k x0 x1 x2 x3 x4).bind fun t118 => (if (t118.length : Int) = (wrap64 ((wrap64 (x2 * x3)) - 1)) then (laws_FnSpan.l0 k x0 x1 x3 x4 t118 (t118.length : Int) 0) else (some false)))
def laws_FnSpan.l0 : Nat → Int → Int → Int → ByteArray → List (S30) → Int → Int → Option (Bool)
  | 0, _, _, _, _, _, _, _ => none
  | k + 1, x0, x1, x3, x4, x61, x62, x63 => if x63 < x62 then (if 0 ≤ x63 then (if x63 < (x61.length : Int) then (if x3 = 0 then (none) else (if ((rd_T30 x61 x63).f0) = (wrap64 (x0 + (wrap64 (Int.tdiv (wrap64 (x63 + 1)) x3)))) then (if ((rd_T30 x61 x63).f1) = (wrap64 (x1 + (Int.tmod (wrap64 (x63 + 1)) x3))) then (if ((rd_T30 x61 x63).f2).toList = x4.toList then (laws_FnSpan.l0 k x0 x1 x3 x4 x61 x62 (wrap64 (x63 + 1))) else (some false)) else (some false)) else (some false))) else (none)) else (none)) else ((impl_Span.f k 0 0 1 2 (⟨#[]⟩ : ByteArray)).bind fun t123 => (some ((t123.length : Int) == 1)))
end
def laws_FnSpan.f (k : Nat) (a0 : Int) (a1 : Int) (a2 : Int) (a3 : Int) (a4 : ByteArray) : Option (Bool) := if (a4.size : Int) > 2147483647 then (some true) else (if a0 < 0 then (laws_FnSpan.j0 k a0 a1 a2 a3 a4 true) else (if a0 > 1000 then (laws_FnSpan.j0 k a0 a1 a2 a3 a4 true) else (if a1 < 0 then (laws_FnSpan.j0 k a0 a1 a2 a3 a4 true) else (if a1 > 1000 then (laws_FnSpan.j0 k a0 a1 a2 a3 a4 true) else (if a2 < 1 then (laws_FnSpan.j0 k a0 a1 a2 a3 a4 true) else (if a2 > 40 then (laws_FnSpan.j0 k a0 a1 a2 a3 a4 true) else (if a3 < 1 then (laws_FnSpan.j0 k a0 a1 a2 a3 a4 true) else (laws_FnSpan.j0 k a0 a1 a2 a3 a4 (decide (a3 > 40))))))))))
theorem laws_FnSpan.mono_l : ∀ k, (∀ y0 y1 y2 y3 y4 y5, LeO (laws_FnSpan.j0 k y0 y1 y2 y3 y4 y5) (laws_FnSpan.j0 (k + 1) y0 y1 y2 y3 y4 y5)) ∧ (∀ y0 y1 y2 y3 y4 y5 y6, LeO (laws_FnSpan.l0 k y0 y1 y2 y3 y4 y5 y6) (laws_FnSpan.l0 (k + 1) y0 y1 y2 y3 y4 y5 y6))
  | 0 => ⟨fun _ _ _ _ _ _ r h => by simp [laws_FnSpan.j0] at h, fun _ _ _ _ _ _ _ r h => by simp [laws_FnSpan.l0] at h⟩
  | k + 1 => by
    obtain ⟨ih0, ih1⟩ := laws_FnSpan.mono_l k
    refine ⟨?_, ?_⟩
    · intro y0 y1 y2 y3 y4 y5
      unfold laws_FnSpan.j0
      repeat' first
      | (with_reducible exact ih0 _ _ _ _ _ _)
      | (with_reducible exact ih1 _ _ _ _ _ _ _)
      | (with_reducible exact impl_Span.mono _ _ _ _ _ _)
      | (with_reducible exact LeO.refl _)
      | (with_reducible exact LeO.none _)
      | (with_reducible refine LeO.ite ?_ ?_)
      | (with_reducible refine LeO.bind ?_ (fun _ => ?_))
      | exact ih0 _ _ _ _ _ _
      | exact ih1 _ _ _ _ _ _ _
      | exact impl_Span.mono _ _ _ _ _ _
      | exact LeO.none _
      | refine LeO.ite ?_ ?_
      | refine LeO.bind ?_ (fun _ => ?_)
    · intro y0 y1 y2 y3 y4 y5 y6
      unfold laws_FnSpan.l0
      repeat' first
      | (with_reducible exact ih0 _ _ _ _ _ _)
      | (with_reducible exact ih1 _ _ _ _ _ _ _)
      | (with_reducible exact impl_Span.mono _ _ _ _ _ _)
      | (with_reducible exact LeO.refl _)
      | (with_reducible exact LeO.none _)
      | (with_reducible refine LeO.ite ?_ ?_)
      | (with_reducible refine LeO.bind ?_ (fun _ => ?_))
      | exact ih0 _ _ _ _ _ _
      | exact ih1 _ _ _ _ _ _ _
      | exact impl_Span.mono _ _ _ _ _ _
      | exact LeO.none _
      | refine LeO.ite ?_ ?_
      | refine LeO.bind ?_ (fun _ => ?_)
theorem laws_FnSpan.mono : ∀ a0 a1 a2 a3 a4 k, LeO (laws_FnSpan.f k a0 a1 a2 a3 a4) (laws_FnSpan.f (k + 1) a0 a1 a2 a3 a4) := by
  intro a0 a1 a2 a3 a4 k
  obtain ⟨ih0, ih1⟩ := laws_FnSpan.mono_l k
  unfold laws_FnSpan.f
  repeat' first
      | (with_reducible exact ih0 _ _ _ _ _ _)
      | (with_reducible exact ih1 _ _ _ _ _ _ _)
      | (with_reducible exact impl_Span.mono _ _ _ _ _ _)
      | (with_reducible exact LeO.refl _)
      | (with_reducible exact LeO.none _)
      | (with_reducible refine LeO.ite ?_ ?_)
      | (with_reducible refine LeO.bind ?_ (fun _ => ?_))
      | exact ih0 _ _ _ _ _ _
      | exact ih1 _ _ _ _ _ _ _
      | exact impl_Span.mono _ _ _ _ _ _
      | exact LeO.none _
      | refine LeO.ite ?_ ?_
      | refine LeO.bind ?_ (fun _ => ?_)
set_option maxHeartbeats 8000000 in
set_option maxRecDepth 100000 in
theorem laws_FnSpan.calls (k : Nat) (a0 : Int) (a1 : Int) (a2 : Int) (a3 : Int) (a4 : ByteArray) (r : Bool) (w : World) (h : laws_FnSpan.f k a0 a1 a2 a3 a4 = some r) :
    Calls Try.prog 5 #[.int .i64 a0, .int .i64 a1, .int .i64 a2, .int .i64 a3, .string a4] w fun e w' => e = .returned (.bool r) ∧ Below w.heap.size w w' := by
  have hu30 := Try.underlying30
  have HB := Aside0.mk (Below.refl w.heap.size w)
  have H : (if (a4.size : Int) > 2147483647 then (some true) else (if a0 < 0 then (laws_FnSpan.j0 k a0 a1 a2 a3 a4 true) else (if a0 > 1000 then (laws_FnSpan.j0 k a0 a1 a2 a3 a4 true) else (if a1 < 0 then (laws_FnSpan.j0 k a0 a1 a2 a3 a4 true) else (if a1 > 1000 then (laws_FnSpan.j0 k a0 a1 a2 a3 a4 true) else (if a2 < 1 then (laws_FnSpan.j0 k a0 a1 a2 a3 a4 true) else (if a2 > 40 then (laws_FnSpan.j0 k a0 a1 a2 a3 a4 true) else (if a3 < 1 then (laws_FnSpan.j0 k a0 a1 a2 a3 a4 true) else (laws_FnSpan.j0 k a0 a1 a2 a3 a4 (decide (a3 > 40))))))))))) = some r := h
  clear h
  by_cases c6 : (a4.size : Int) > 2147483647
  · rw [if_pos c6] at H
    have c6b0 : decide (2147483647 < (a4.size : Int)) = true := decide_eq_true c6
    have c6b1 : decide (2147483647 < a4.size) = true := decide_eq_true (by omega)
    clear c6
    obtain rfl := Option.some.inj H
    go_enter Try.func5, Try.ntmps5
    go_wp2
    repeat (go_quiet (fail); try go_wp2)
    go_ret
    exact ⟨by first | rfl | (simp [errW_none, errW_some] <;> rfl) | (simp [*, errW_none, errW_some] <;> rfl), by repeat (first | (with_reducible first | exact HB.out | apply below_alloc | apply pw_below_drewN | apply below_drew1) | exact HB.out)⟩
  · rw [if_neg c6] at H
    have c6b0 : decide (2147483647 < (a4.size : Int)) = false := decide_eq_false c6
    have c6b1 : decide (2147483647 < a4.size) = false := decide_eq_false (by omega)
    clear c6
    have HC7 := Aside0.mk H
    clear H
    go_enter Try.func5, Try.ntmps5
    go_upto_region 3 with (fail)
    repeat (go_quiet (fail); go_upto_region 3 with (fail))
    go_cut [47] (fun v47 wc => ∃ (kq : Nat) (x47_6 : Bool), v47 = .bool x47_6 ∧ Aside0 (laws_FnSpan.j0 kq a0 a1 a2 a3 a4 x47_6 = some r) ∧ Aside0 (kq ≤ k) ∧ Aside0 (Below w.heap.size w wc))
    case first =>
      have H := HC7.out
      clear HC7
      by_cases c8 : a0 < 0
      · rw [if_pos c8] at H
        have c8b0 : decide (a0 < 0) = true := decide_eq_true c8
        clear c8
        (first | rw [c8b0] | (simp only [i64_w, i32_w]; rw [c8b0]) | skip)
        have H' := Aside0.mk H
        clear H
        go_wp2
        repeat (go_quiet (fail); try go_wp2)
        go_meet
        case rel => exact ⟨_, (true), (by first | rfl | (simp; done) | (simp [*]; done)), H', ⟨by first | omega | exact Nat.le_refl _⟩, ⟨by repeat (first | (with_reducible first | exact HB.out | apply below_alloc | apply pw_below_drewN | apply below_drew1) | exact HB.out)⟩⟩
      · rw [if_neg c8] at H
        have c8b0 : decide (a0 < 0) = false := decide_eq_false c8
        clear c8
        (first | rw [c8b0] | (simp only [i64_w, i32_w]; rw [c8b0]) | skip)
        by_cases c9 : a0 > 1000
        · rw [if_pos c9] at H
          have c9b0 : decide (1000 < a0) = true := decide_eq_true c9
          clear c9
          have H' := Aside0.mk H
          clear H
          go_wp2
          repeat (go_quiet (fail); try go_wp2)
          go_meet
          case rel => exact ⟨_, (true), (by first | rfl | (simp; done) | (simp [*]; done)), H', ⟨by first | omega | exact Nat.le_refl _⟩, ⟨by repeat (first | (with_reducible first | exact HB.out | apply below_alloc | apply pw_below_drewN | apply below_drew1) | exact HB.out)⟩⟩
        · rw [if_neg c9] at H
          have c9b0 : decide (1000 < a0) = false := decide_eq_false c9
          clear c9
          by_cases c10 : a1 < 0
          · rw [if_pos c10] at H
            have c10b0 : decide (a1 < 0) = true := decide_eq_true c10
            clear c10
            have H' := Aside0.mk H
            clear H
            go_wp2
            repeat (go_quiet (fail); try go_wp2)
            go_meet
            case rel => exact ⟨_, (true), (by first | rfl | (simp; done) | (simp [*]; done)), H', ⟨by first | omega | exact Nat.le_refl _⟩, ⟨by repeat (first | (with_reducible first | exact HB.out | apply below_alloc | apply pw_below_drewN | apply below_drew1) | exact HB.out)⟩⟩
          · rw [if_neg c10] at H
            have c10b0 : decide (a1 < 0) = false := decide_eq_false c10
            clear c10
            by_cases c11 : a1 > 1000
            · rw [if_pos c11] at H
              have c11b0 : decide (1000 < a1) = true := decide_eq_true c11
              clear c11
              have H' := Aside0.mk H
              clear H
              go_wp2
              repeat (go_quiet (fail); try go_wp2)
              go_meet
              case rel => exact ⟨_, (true), (by first | rfl | (simp; done) | (simp [*]; done)), H', ⟨by first | omega | exact Nat.le_refl _⟩, ⟨by repeat (first | (with_reducible first | exact HB.out | apply below_alloc | apply pw_below_drewN | apply below_drew1) | exact HB.out)⟩⟩
            · rw [if_neg c11] at H
              have c11b0 : decide (1000 < a1) = false := decide_eq_false c11
              clear c11
              by_cases c12 : a2 < 1
              · rw [if_pos c12] at H
                have c12b0 : decide (a2 < 1) = true := decide_eq_true c12
                clear c12
                have H' := Aside0.mk H
                clear H
                go_wp2
                repeat (go_quiet (fail); try go_wp2)
                go_meet
                case rel => exact ⟨_, (true), (by first | rfl | (simp; done) | (simp [*]; done)), H', ⟨by first | omega | exact Nat.le_refl _⟩, ⟨by repeat (first | (with_reducible first | exact HB.out | apply below_alloc | apply pw_below_drewN | apply below_drew1) | exact HB.out)⟩⟩
              · rw [if_neg c12] at H
                have c12b0 : decide (a2 < 1) = false := decide_eq_false c12
                clear c12
                by_cases c13 : a2 > 40
                · rw [if_pos c13] at H
                  have c13b0 : decide (40 < a2) = true := decide_eq_true c13
                  clear c13
                  have H' := Aside0.mk H
                  clear H
                  go_wp2
                  repeat (go_quiet (fail); try go_wp2)
                  go_meet
                  case rel => exact ⟨_, (true), (by first | rfl | (simp; done) | (simp [*]; done)), H', ⟨by first | omega | exact Nat.le_refl _⟩, ⟨by repeat (first | (with_reducible first | exact HB.out | apply below_alloc | apply pw_below_drewN | apply below_drew1) | exact HB.out)⟩⟩
                · rw [if_neg c13] at H
                  have c13b0 : decide (40 < a2) = false := decide_eq_false c13
                  clear c13
                  by_cases c14 : a3 < 1
                  · rw [if_pos c14] at H
                    have c14b0 : decide (a3 < 1) = true := decide_eq_true c14
                    clear c14
                    have H' := Aside0.mk H
                    clear H
                    go_wp2
                    repeat (go_quiet (fail); try go_wp2)
                    go_meet
                    case rel => exact ⟨_, (true), (by first | rfl | (simp; done) | (simp [*]; done)), H', ⟨by first | omega | exact Nat.le_refl _⟩, ⟨by repeat (first | (with_reducible first | exact HB.out | apply below_alloc | apply pw_below_drewN | apply below_drew1) | exact HB.out)⟩⟩
                  · rw [if_neg c14] at H
                    have c14b0 : decide (a3 < 1) = false := decide_eq_false c14
                    clear c14
                    have H' := Aside0.mk H
                    clear H
                    go_wp2
                    repeat (go_quiet (fail); try go_wp2)
                    go_meet
                    case rel => exact ⟨_, (decide (a3 > 40)), (by first | rfl | (simp; done) | (simp [*]; done)), H', ⟨by first | omega | exact Nat.le_refl _⟩, ⟨by repeat (first | (with_reducible first | exact HB.out | apply below_alloc | apply pw_below_drewN | apply below_drew1) | exact HB.out)⟩⟩
    case rest =>
      clear HC7
      try clear c1
      try clear p2
      try clear c5
      try clear c6
      try clear c6b0
      try clear c6b1
      try clear c8
      try clear c8b0
      try clear c9
      try clear c9b0
      try clear c10
      try clear c10b0
      try clear c11
      try clear c11b0
      try clear c12
      try clear c12b0
      try clear c13
      try clear c13b0
      try clear c14
      try clear c14b0
      obtain ⟨kq, x47_6, rfl, HA, HJ6, HB⟩ := hcut
      cases kq with
      | zero => exact absurd HA.out (by simp [laws_FnSpan.j0])
      | succ kj6 =>
        have H := HA.out
        clear HA
        simp only [laws_FnSpan.j0] at H
        by_cases c15 : x47_6 = true
        · subst c15
          have H1 : (some true) = some r := by rw [if_pos rfl] at H; exact H
          clear H
          have H := H1
          clear H1
          obtain rfl := Option.some.inj H
          go_wp2
          repeat (go_quiet (fail); try go_wp2)
          go_ret
          exact ⟨by first | rfl | (simp [errW_none, errW_some] <;> rfl) | (simp [*, errW_none, errW_some] <;> rfl), by repeat (first | (with_reducible first | exact HB.out | apply below_alloc | apply pw_below_drewN | apply below_drew1) | exact HB.out)⟩
        · replace c15 := Bool.eq_false_iff.mpr c15
          subst c15
          have H1 : ((impl_Span.f kj6 a0 a1 a2 a3 a4).bind fun t118 => (if (t118.length : Int) = (wrap64 ((wrap64 (a2 * a3)) - 1)) then (laws_FnSpan.l0 kj6 a0 a1 a3 a4 t118 (t118.length : Int) 0) else (some false))) = some r := by rw [if_neg (show ¬ (false = true) by decide)] at H; exact H
          clear H
          have H := H1
          clear H1
          replace H := Option.bind_eq_some_iff.mp H
          obtain ⟨t118, A160, H⟩ := H
          replace H : (if (t118.length : Int) = (wrap64 ((wrap64 (a2 * a3)) - 1)) then (laws_FnSpan.l0 kj6 a0 a1 a3 a4 t118 (t118.length : Int) 0) else (some false)) = some r := H
          have A16 := Aside0.mk A160
          clear A160
          by_cases c17 : (t118.length : Int) = (wrap64 ((wrap64 (a2 * a3)) - 1))
          · rw [if_pos c17] at H
            have c17b0 : ((t118.length : Int) == (wrap64 ((wrap64 (a2 * a3)) - 1))) = true := beq_iff_eq.mpr c17
            have c17b1 : ((t118.length : Int) != (wrap64 ((wrap64 (a2 * a3)) - 1))) = false := bne_eq_false_iff_eq.mpr c17
            clear c17
            have H' := Aside0.mk H
            clear H
            go_wp2_with (first | (go_at_call 12; (with_reducible refine (impl_Span.calls kj6 a0 a1 a2 a3 a4 t118 _ A16.out).mono ?_); rintro e w18 ⟨v119, rfl, ho0, hb⟩; have n0_ := Aside0.mk (Kd.R_lower ho0 (below_size (by repeat (first | (with_reducible first | exact HB.out | apply below_alloc | apply pw_below_drewN | apply below_drew1) | exact HB.out)))); have n1_ := Aside0.mk (below_step (by repeat (first | (with_reducible first | exact HB.out | apply below_alloc | apply pw_below_drewN | apply below_drew1) | exact HB.out)) hb); clear HB; have HO120 := n0_; have HB := n1_; clear n0_ n1_; (try clear hb); (try clear hb2); (try clear hk); (try clear hi); (try clear ho0); obtain ⟨Ao19, co19, eo19⟩ := Kd.R_slice HO120.out; subst eo19))
            repeat (go_quiet (first | (go_at_call 12; (with_reducible refine (impl_Span.calls kj6 a0 a1 a2 a3 a4 t118 _ A16.out).mono ?_); rintro e w18 ⟨v119, rfl, ho0, hb⟩; have n0_ := Aside0.mk (Kd.R_lower ho0 (below_size (by repeat (first | (with_reducible first | exact HB.out | apply below_alloc | apply pw_below_drewN | apply below_drew1) | exact HB.out)))); have n1_ := Aside0.mk (below_step (by repeat (first | (with_reducible first | exact HB.out | apply below_alloc | apply pw_below_drewN | apply below_drew1) | exact HB.out)) hb); clear HB; have HO120 := n0_; have HB := n1_; clear n0_ n1_; (try clear hb); (try clear hb2); (try clear hk); (try clear hi); (try clear ho0); obtain ⟨Ao19, co19, eo19⟩ := Kd.R_slice HO120.out; subst eo19)); try go_wp2_with (first | (go_at_call 12; (with_reducible refine (impl_Span.calls kj6 a0 a1 a2 a3 a4 t118 _ A16.out).mono ?_); rintro e w18 ⟨v119, rfl, ho0, hb⟩; have n0_ := Aside0.mk (Kd.R_lower ho0 (below_size (by repeat (first | (with_reducible first | exact HB.out | apply below_alloc | apply pw_below_drewN | apply below_drew1) | exact HB.out)))); have n1_ := Aside0.mk (below_step (by repeat (first | (with_reducible first | exact HB.out | apply below_alloc | apply pw_below_drewN | apply below_drew1) | exact HB.out)) hb); clear HB; have HO120 := n0_; have HB := n1_; clear n0_ n1_; (try clear hb); (try clear hb2); (try clear hk); (try clear hi); (try clear ho0); obtain ⟨Ao19, co19, eo19⟩ := Kd.R_slice HO120.out; subst eo19)))
            go_loopg [63] kj6 (fun kq v63 w' => ∃ (x63_2 : Int), v63 = .int .i64 x63_2 ∧ Aside0 (laws_FnSpan.l0 kq a0 a1 a3 a4 t118 (t118.length : Int) x63_2 = some r) ∧ Aside0 (kq ≤ kj6) ∧ Aside0 (Kd.R k30 30 w' w.heap.size (fun _ => True) (.slice Ao19 t118.length co19) t118) ∧ Aside0 (Below w.heap.size w w'))
            case atStart => exact ⟨(0), (by first | rfl | (simp; done) | (simp [*]; done)), H', ⟨Nat.le_refl _⟩, ⟨by (with_reducible repeat (first | apply Kd.R_alloc | apply Kd.R_drewN | apply Kd.R_drew)); exact HO120.out⟩, ⟨by repeat (first | (with_reducible first | exact HB.out | apply below_alloc | apply pw_below_drewN | apply below_drew1) | exact HB.out)⟩⟩
            case round =>
              clear H'
              try clear c1
              try clear p2
              try clear c5
              try clear c6
              try clear c6b0
              try clear c6b1
              try clear p6
              try clear c8
              try clear c8b0
              try clear c9
              try clear c9b0
              try clear c10
              try clear c10b0
              try clear c11
              try clear c11b0
              try clear c12
              try clear c12b0
              try clear c13
              try clear c13b0
              try clear c14
              try clear c14b0
              try clear c15
              try clear c17
              try clear c17b0
              try clear c17b1
              try clear p2
              obtain ⟨x63_2, rfl, HA, HK2, HO_61, HB⟩ := hrel
              cases gk with
              | zero => exact absurd HA.out (by simp [laws_FnSpan.l0])
              | succ k2 =>
                have H := HA.out
                clear HA
                simp only [laws_FnSpan.l0] at H
                by_cases c20 : x63_2 < (t118.length : Int)
                · rw [if_pos c20] at H
                  have c20b0 : decide (x63_2 < (t118.length : Int)) = true := decide_eq_true c20
                  clear c20
                  by_cases c21 : 0 ≤ x63_2
                  · rw [if_pos c21] at H
                    have c21b0 : decide (0 ≤ x63_2) = true := decide_eq_true c21
                    clear c21
                    by_cases c22 : x63_2 < (t118.length : Int)
                    · rw [if_pos c22] at H
                      have c22b0 : decide (x63_2 < (t118.length : Int)) = true := decide_eq_true c22
                      clear c22
                      by_cases c23 : a3 = 0
                      · rw [if_pos c23] at H
                        exact absurd H (by simp)
                      · rw [if_neg c23] at H
                        have c23b0 : (a3 == 0) = false := beq_eq_false_iff_ne.mpr c23
                        have c23b1 : (a3 != 0) = true := bne_iff_ne.mpr c23
                        by_cases c24 : ((rd_T30 t118 x63_2).f0) = (wrap64 (a0 + (wrap64 (Int.tdiv (wrap64 (x63_2 + 1)) a3))))
                        · rw [if_pos c24] at H
                          have c24b0 : (((rd_T30 t118 x63_2).f0) == (wrap64 (a0 + (wrap64 (Int.tdiv (wrap64 (x63_2 + 1)) a3))))) = true := beq_iff_eq.mpr c24
                          have c24b1 : (((rd_T30 t118 x63_2).f0) != (wrap64 (a0 + (wrap64 (Int.tdiv (wrap64 (x63_2 + 1)) a3))))) = false := bne_eq_false_iff_eq.mpr c24
                          clear c24
                          by_cases c25 : ((rd_T30 t118 x63_2).f1) = (wrap64 (a1 + (Int.tmod (wrap64 (x63_2 + 1)) a3)))
                          · rw [if_pos c25] at H
                            have c25b0 : (((rd_T30 t118 x63_2).f1) == (wrap64 (a1 + (Int.tmod (wrap64 (x63_2 + 1)) a3)))) = true := beq_iff_eq.mpr c25
                            have c25b1 : (((rd_T30 t118 x63_2).f1) != (wrap64 (a1 + (Int.tmod (wrap64 (x63_2 + 1)) a3)))) = false := bne_eq_false_iff_eq.mpr c25
                            clear c25
                            by_cases c26 : ((rd_T30 t118 x63_2).f2).toList = a4.toList
                            · rw [if_pos c26] at H
                              have c26b0 : (((rd_T30 t118 x63_2).f2).toList == a4.toList) = true := beq_iff_eq.mpr c26
                              have c26b1 : (((rd_T30 t118 x63_2).f2).toList != a4.toList) = false := bne_eq_false_iff_eq.mpr c26
                              clear c26
                              have H' := Aside0.mk H
                              clear H
                              have p121 : 0 ≤ (x63_2 : Int) := of_decide_eq_true (by first | (with_reducible assumption) | assumption)
                              have q121 : x63_2 < (t118.length : Int) := of_decide_eq_true (by first | (with_reducible assumption) | assumption)
                              obtain ⟨ad121, e121, hx121_0, hx121_1, hx121_2⟩ := at_T30 (Kd.R_reads' HO_61.out).2.2 x63_2 p121 q121
                              cases e121
                              replace p121 := eq_true p121
                              replace q121 := eq_true q121
                              go_wp2_with (first | ((with_reducible refine gate_dst (N := 13) rfl ?_); refine box_event ?hg (N := 13) ?hd (cs := #[.int .i64 0, .int .i64 0, .string (⟨#[]⟩ : ByteArray)]) (t := 30) ?hr ?_; (case hd => rfl); (case hg => rfl); (case hr => first | (go_simp; done) | (go_simp; rfl)); intro gb122 hg w27 hbox hb; have n0_ := Aside0.mk (Kd.R_below (Kd.R_elderB (by (with_reducible repeat (first | apply Kd.R_alloc | apply Kd.R_drewN | apply Kd.R_drew)); exact HO_61.out) gb122 (Nat.le_of_eq hg.symm)) hb); have n1_ := Aside0.mk (below_step (by repeat (first | (with_reducible first | exact HB.out | apply below_alloc | apply pw_below_drewN | apply below_drew1) | exact HB.out)) hb); have n2_ := Aside0.mk (hbox); have n3_ := Aside0.mk ((by rw [hg]; exact (below_size (by repeat (first | (with_reducible first | exact HB.out | apply below_alloc | apply pw_below_drewN | apply below_drew1) | exact HB.out))) : w.heap.size ≤ gb122)); have n4_ := Aside0.mk ((by rw [hg]; exact (below_size (by repeat (first | (with_reducible first | exact HB.out | apply below_alloc | apply pw_below_drewN | apply below_drew1) | exact HB.out))) : w.heap.size ≤ gb122)); clear HO_61; clear HB; have HO_61 := n0_; have HB := n1_; have BK122 := n2_; have GW122 := n3_; have GE122 := n4_; clear n0_ n1_ n2_ n3_ n4_; clear hb hbox hg; have hcz28_0 : w27.cell? ⟨gb122, 0, none⟩ = some (.int .i64 0) := (blk_cell BK122.out 0).trans rfl; have hcz28_1 : w27.cell? ⟨gb122, 1, none⟩ = some (.int .i64 0) := (blk_cell BK122.out 1).trans rfl; have hcz28_2 : w27.cell? ⟨gb122, 2, none⟩ = some (.string (⟨#[]⟩ : ByteArray)) := (blk_cell BK122.out 2).trans rfl; have hfz28_0 := blk_frozen BK122.out 0; have hfz28_1 := blk_frozen BK122.out 1; have hfz28_2 := blk_frozen BK122.out 2))
                              repeat (go_quiet (first | ((with_reducible refine gate_dst (N := 13) rfl ?_); refine box_event ?hg (N := 13) ?hd (cs := #[.int .i64 0, .int .i64 0, .string (⟨#[]⟩ : ByteArray)]) (t := 30) ?hr ?_; (case hd => rfl); (case hg => rfl); (case hr => first | (go_simp; done) | (go_simp; rfl)); intro gb122 hg w27 hbox hb; have n0_ := Aside0.mk (Kd.R_below (Kd.R_elderB (by (with_reducible repeat (first | apply Kd.R_alloc | apply Kd.R_drewN | apply Kd.R_drew)); exact HO_61.out) gb122 (Nat.le_of_eq hg.symm)) hb); have n1_ := Aside0.mk (below_step (by repeat (first | (with_reducible first | exact HB.out | apply below_alloc | apply pw_below_drewN | apply below_drew1) | exact HB.out)) hb); have n2_ := Aside0.mk (hbox); have n3_ := Aside0.mk ((by rw [hg]; exact (below_size (by repeat (first | (with_reducible first | exact HB.out | apply below_alloc | apply pw_below_drewN | apply below_drew1) | exact HB.out))) : w.heap.size ≤ gb122)); have n4_ := Aside0.mk ((by rw [hg]; exact (below_size (by repeat (first | (with_reducible first | exact HB.out | apply below_alloc | apply pw_below_drewN | apply below_drew1) | exact HB.out))) : w.heap.size ≤ gb122)); clear HO_61; clear HB; have HO_61 := n0_; have HB := n1_; have BK122 := n2_; have GW122 := n3_; have GE122 := n4_; clear n0_ n1_ n2_ n3_ n4_; clear hb hbox hg; have hcz28_0 : w27.cell? ⟨gb122, 0, none⟩ = some (.int .i64 0) := (blk_cell BK122.out 0).trans rfl; have hcz28_1 : w27.cell? ⟨gb122, 1, none⟩ = some (.int .i64 0) := (blk_cell BK122.out 1).trans rfl; have hcz28_2 : w27.cell? ⟨gb122, 2, none⟩ = some (.string (⟨#[]⟩ : ByteArray)) := (blk_cell BK122.out 2).trans rfl; have hfz28_0 := blk_frozen BK122.out 0; have hfz28_1 := blk_frozen BK122.out 1; have hfz28_2 := blk_frozen BK122.out 2)); try go_wp2_with (first | ((with_reducible refine gate_dst (N := 13) rfl ?_); refine box_event ?hg (N := 13) ?hd (cs := #[.int .i64 0, .int .i64 0, .string (⟨#[]⟩ : ByteArray)]) (t := 30) ?hr ?_; (case hd => rfl); (case hg => rfl); (case hr => first | (go_simp; done) | (go_simp; rfl)); intro gb122 hg w27 hbox hb; have n0_ := Aside0.mk (Kd.R_below (Kd.R_elderB (by (with_reducible repeat (first | apply Kd.R_alloc | apply Kd.R_drewN | apply Kd.R_drew)); exact HO_61.out) gb122 (Nat.le_of_eq hg.symm)) hb); have n1_ := Aside0.mk (below_step (by repeat (first | (with_reducible first | exact HB.out | apply below_alloc | apply pw_below_drewN | apply below_drew1) | exact HB.out)) hb); have n2_ := Aside0.mk (hbox); have n3_ := Aside0.mk ((by rw [hg]; exact (below_size (by repeat (first | (with_reducible first | exact HB.out | apply below_alloc | apply pw_below_drewN | apply below_drew1) | exact HB.out))) : w.heap.size ≤ gb122)); have n4_ := Aside0.mk ((by rw [hg]; exact (below_size (by repeat (first | (with_reducible first | exact HB.out | apply below_alloc | apply pw_below_drewN | apply below_drew1) | exact HB.out))) : w.heap.size ≤ gb122)); clear HO_61; clear HB; have HO_61 := n0_; have HB := n1_; have BK122 := n2_; have GW122 := n3_; have GE122 := n4_; clear n0_ n1_ n2_ n3_ n4_; clear hb hbox hg; have hcz28_0 : w27.cell? ⟨gb122, 0, none⟩ = some (.int .i64 0) := (blk_cell BK122.out 0).trans rfl; have hcz28_1 : w27.cell? ⟨gb122, 1, none⟩ = some (.int .i64 0) := (blk_cell BK122.out 1).trans rfl; have hcz28_2 : w27.cell? ⟨gb122, 2, none⟩ = some (.string (⟨#[]⟩ : ByteArray)) := (blk_cell BK122.out 2).trans rfl; have hfz28_0 := blk_frozen BK122.out 0; have hfz28_1 := blk_frozen BK122.out 1; have hfz28_2 := blk_frozen BK122.out 2)))
                              go_roundg k2
                              case measure => have := HJ6.out; have := HK2.out; omega
                              case rel => exact ⟨(wrap64 (x63_2 + 1)), (by first | rfl | (simp; done) | (simp [*]; done)), H', ⟨by have := HJ6.out; have := HK2.out; omega⟩, ⟨by (with_reducible repeat (first | apply Kd.R_alloc | apply Kd.R_drewN | apply Kd.R_drew)); exact Kd.R_mono (Kd.R_far (p := ⟨gb122, 2, none⟩) (Kd.R_far (p := ⟨gb122, 1, none⟩) (Kd.R_far (p := ⟨gb122, 0, none⟩) (Kd.R_mono HO_61.out (fun k_ hk => (⟨hk, hk.2⟩ : _ ∧ k_ ≠ gb122))) (fun _ hk => hk.2) (.int .i64 ((rd_T30 t118 x63_2).f0))) (fun _ hk => hk.2) (.int .i64 ((rd_T30 t118 x63_2).f1))) (fun _ hk => hk.2) (.string ((rd_T30 t118 x63_2).f2))) (fun _ hk => trivial)⟩, ⟨by repeat (first | (with_reducible first | exact HB.out | apply below_alloc | apply pw_below_drewN | apply below_drew1 | refine below_set ?_ GE122.out) | exact HB.out)⟩⟩
                            · rw [if_neg c26] at H
                              have c26b0 : (((rd_T30 t118 x63_2).f2).toList == a4.toList) = false := beq_eq_false_iff_ne.mpr c26
                              have c26b1 : (((rd_T30 t118 x63_2).f2).toList != a4.toList) = true := bne_iff_ne.mpr c26
                              obtain rfl := Option.some.inj H
                              have p121 : 0 ≤ (x63_2 : Int) := of_decide_eq_true (by first | (with_reducible assumption) | assumption)
                              have q121 : x63_2 < (t118.length : Int) := of_decide_eq_true (by first | (with_reducible assumption) | assumption)
                              obtain ⟨ad121, e121, hx121_0, hx121_1, hx121_2⟩ := at_T30 (Kd.R_reads' HO_61.out).2.2 x63_2 p121 q121
                              cases e121
                              replace p121 := eq_true p121
                              replace q121 := eq_true q121
                              go_wp2_with (first | ((with_reducible refine gate_dst (N := 13) rfl ?_); refine box_event ?hg (N := 13) ?hd (cs := #[.int .i64 0, .int .i64 0, .string (⟨#[]⟩ : ByteArray)]) (t := 30) ?hr ?_; (case hd => rfl); (case hg => rfl); (case hr => first | (go_simp; done) | (go_simp; rfl)); intro gb122 hg w29 hbox hb; have n0_ := Aside0.mk (Kd.R_below (Kd.R_elderB (by (with_reducible repeat (first | apply Kd.R_alloc | apply Kd.R_drewN | apply Kd.R_drew)); exact HO_61.out) gb122 (Nat.le_of_eq hg.symm)) hb); have n1_ := Aside0.mk (below_step (by repeat (first | (with_reducible first | exact HB.out | apply below_alloc | apply pw_below_drewN | apply below_drew1) | exact HB.out)) hb); have n2_ := Aside0.mk (hbox); have n3_ := Aside0.mk ((by rw [hg]; exact (below_size (by repeat (first | (with_reducible first | exact HB.out | apply below_alloc | apply pw_below_drewN | apply below_drew1) | exact HB.out))) : w.heap.size ≤ gb122)); have n4_ := Aside0.mk ((by rw [hg]; exact (below_size (by repeat (first | (with_reducible first | exact HB.out | apply below_alloc | apply pw_below_drewN | apply below_drew1) | exact HB.out))) : w.heap.size ≤ gb122)); clear HO_61; clear HB; have HO_61 := n0_; have HB := n1_; have BK122 := n2_; have GW122 := n3_; have GE122 := n4_; clear n0_ n1_ n2_ n3_ n4_; clear hb hbox hg; have hcz30_0 : w29.cell? ⟨gb122, 0, none⟩ = some (.int .i64 0) := (blk_cell BK122.out 0).trans rfl; have hcz30_1 : w29.cell? ⟨gb122, 1, none⟩ = some (.int .i64 0) := (blk_cell BK122.out 1).trans rfl; have hcz30_2 : w29.cell? ⟨gb122, 2, none⟩ = some (.string (⟨#[]⟩ : ByteArray)) := (blk_cell BK122.out 2).trans rfl; have hfz30_0 := blk_frozen BK122.out 0; have hfz30_1 := blk_frozen BK122.out 1; have hfz30_2 := blk_frozen BK122.out 2))
                              repeat (go_quiet (first | ((with_reducible refine gate_dst (N := 13) rfl ?_); refine box_event ?hg (N := 13) ?hd (cs := #[.int .i64 0, .int .i64 0, .string (⟨#[]⟩ : ByteArray)]) (t := 30) ?hr ?_; (case hd => rfl); (case hg => rfl); (case hr => first | (go_simp; done) | (go_simp; rfl)); intro gb122 hg w29 hbox hb; have n0_ := Aside0.mk (Kd.R_below (Kd.R_elderB (by (with_reducible repeat (first | apply Kd.R_alloc | apply Kd.R_drewN | apply Kd.R_drew)); exact HO_61.out) gb122 (Nat.le_of_eq hg.symm)) hb); have n1_ := Aside0.mk (below_step (by repeat (first | (with_reducible first | exact HB.out | apply below_alloc | apply pw_below_drewN | apply below_drew1) | exact HB.out)) hb); have n2_ := Aside0.mk (hbox); have n3_ := Aside0.mk ((by rw [hg]; exact (below_size (by repeat (first | (with_reducible first | exact HB.out | apply below_alloc | apply pw_below_drewN | apply below_drew1) | exact HB.out))) : w.heap.size ≤ gb122)); have n4_ := Aside0.mk ((by rw [hg]; exact (below_size (by repeat (first | (with_reducible first | exact HB.out | apply below_alloc | apply pw_below_drewN | apply below_drew1) | exact HB.out))) : w.heap.size ≤ gb122)); clear HO_61; clear HB; have HO_61 := n0_; have HB := n1_; have BK122 := n2_; have GW122 := n3_; have GE122 := n4_; clear n0_ n1_ n2_ n3_ n4_; clear hb hbox hg; have hcz30_0 : w29.cell? ⟨gb122, 0, none⟩ = some (.int .i64 0) := (blk_cell BK122.out 0).trans rfl; have hcz30_1 : w29.cell? ⟨gb122, 1, none⟩ = some (.int .i64 0) := (blk_cell BK122.out 1).trans rfl; have hcz30_2 : w29.cell? ⟨gb122, 2, none⟩ = some (.string (⟨#[]⟩ : ByteArray)) := (blk_cell BK122.out 2).trans rfl; have hfz30_0 := blk_frozen BK122.out 0; have hfz30_1 := blk_frozen BK122.out 1; have hfz30_2 := blk_frozen BK122.out 2)); try go_wp2_with (first | ((with_reducible refine gate_dst (N := 13) rfl ?_); refine box_event ?hg (N := 13) ?hd (cs := #[.int .i64 0, .int .i64 0, .string (⟨#[]⟩ : ByteArray)]) (t := 30) ?hr ?_; (case hd => rfl); (case hg => rfl); (case hr => first | (go_simp; done) | (go_simp; rfl)); intro gb122 hg w29 hbox hb; have n0_ := Aside0.mk (Kd.R_below (Kd.R_elderB (by (with_reducible repeat (first | apply Kd.R_alloc | apply Kd.R_drewN | apply Kd.R_drew)); exact HO_61.out) gb122 (Nat.le_of_eq hg.symm)) hb); have n1_ := Aside0.mk (below_step (by repeat (first | (with_reducible first | exact HB.out | apply below_alloc | apply pw_below_drewN | apply below_drew1) | exact HB.out)) hb); have n2_ := Aside0.mk (hbox); have n3_ := Aside0.mk ((by rw [hg]; exact (below_size (by repeat (first | (with_reducible first | exact HB.out | apply below_alloc | apply pw_below_drewN | apply below_drew1) | exact HB.out))) : w.heap.size ≤ gb122)); have n4_ := Aside0.mk ((by rw [hg]; exact (below_size (by repeat (first | (with_reducible first | exact HB.out | apply below_alloc | apply pw_below_drewN | apply below_drew1) | exact HB.out))) : w.heap.size ≤ gb122)); clear HO_61; clear HB; have HO_61 := n0_; have HB := n1_; have BK122 := n2_; have GW122 := n3_; have GE122 := n4_; clear n0_ n1_ n2_ n3_ n4_; clear hb hbox hg; have hcz30_0 : w29.cell? ⟨gb122, 0, none⟩ = some (.int .i64 0) := (blk_cell BK122.out 0).trans rfl; have hcz30_1 : w29.cell? ⟨gb122, 1, none⟩ = some (.int .i64 0) := (blk_cell BK122.out 1).trans rfl; have hcz30_2 : w29.cell? ⟨gb122, 2, none⟩ = some (.string (⟨#[]⟩ : ByteArray)) := (blk_cell BK122.out 2).trans rfl; have hfz30_0 := blk_frozen BK122.out 0; have hfz30_1 := blk_frozen BK122.out 1; have hfz30_2 := blk_frozen BK122.out 2)))
                              go_ret
                              exact ⟨by first | rfl | (simp [errW_none, errW_some] <;> rfl) | (simp [*, errW_none, errW_some] <;> rfl), by repeat (first | (with_reducible first | exact HB.out | apply below_alloc | apply pw_below_drewN | apply below_drew1 | refine below_set ?_ GE122.out) | exact HB.out)⟩
                          · rw [if_neg c25] at H
                            have c25b0 : (((rd_T30 t118 x63_2).f1) == (wrap64 (a1 + (Int.tmod (wrap64 (x63_2 + 1)) a3)))) = false := beq_eq_false_iff_ne.mpr c25
                            have c25b1 : (((rd_T30 t118 x63_2).f1) != (wrap64 (a1 + (Int.tmod (wrap64 (x63_2 + 1)) a3)))) = true := bne_iff_ne.mpr c25
                            obtain rfl := Option.some.inj H
                            have p121 : 0 ≤ (x63_2 : Int) := of_decide_eq_true (by first | (with_reducible assumption) | assumption)
                            have q121 : x63_2 < (t118.length : Int) := of_decide_eq_true (by first | (with_reducible assumption) | assumption)
                            obtain ⟨ad121, e121, hx121_0, hx121_1, hx121_2⟩ := at_T30 (Kd.R_reads' HO_61.out).2.2 x63_2 p121 q121
                            cases e121
                            replace p121 := eq_true p121
                            replace q121 := eq_true q121
                            go_wp2_with (first | ((with_reducible refine gate_dst (N := 13) rfl ?_); refine box_event ?hg (N := 13) ?hd (cs := #[.int .i64 0, .int .i64 0, .string (⟨#[]⟩ : ByteArray)]) (t := 30) ?hr ?_; (case hd => rfl); (case hg => rfl); (case hr => first | (go_simp; done) | (go_simp; rfl)); intro gb122 hg w31 hbox hb; have n0_ := Aside0.mk (Kd.R_below (Kd.R_elderB (by (with_reducible repeat (first | apply Kd.R_alloc | apply Kd.R_drewN | apply Kd.R_drew)); exact HO_61.out) gb122 (Nat.le_of_eq hg.symm)) hb); have n1_ := Aside0.mk (below_step (by repeat (first | (with_reducible first | exact HB.out | apply below_alloc | apply pw_below_drewN | apply below_drew1) | exact HB.out)) hb); have n2_ := Aside0.mk (hbox); have n3_ := Aside0.mk ((by rw [hg]; exact (below_size (by repeat (first | (with_reducible first | exact HB.out | apply below_alloc | apply pw_below_drewN | apply below_drew1) | exact HB.out))) : w.heap.size ≤ gb122)); have n4_ := Aside0.mk ((by rw [hg]; exact (below_size (by repeat (first | (with_reducible first | exact HB.out | apply below_alloc | apply pw_below_drewN | apply below_drew1) | exact HB.out))) : w.heap.size ≤ gb122)); clear HO_61; clear HB; have HO_61 := n0_; have HB := n1_; have BK122 := n2_; have GW122 := n3_; have GE122 := n4_; clear n0_ n1_ n2_ n3_ n4_; clear hb hbox hg; have hcz32_0 : w31.cell? ⟨gb122, 0, none⟩ = some (.int .i64 0) := (blk_cell BK122.out 0).trans rfl; have hcz32_1 : w31.cell? ⟨gb122, 1, none⟩ = some (.int .i64 0) := (blk_cell BK122.out 1).trans rfl; have hcz32_2 : w31.cell? ⟨gb122, 2, none⟩ = some (.string (⟨#[]⟩ : ByteArray)) := (blk_cell BK122.out 2).trans rfl; have hfz32_0 := blk_frozen BK122.out 0; have hfz32_1 := blk_frozen BK122.out 1; have hfz32_2 := blk_frozen BK122.out 2))
                            repeat (go_quiet (first | ((with_reducible refine gate_dst (N := 13) rfl ?_); refine box_event ?hg (N := 13) ?hd (cs := #[.int .i64 0, .int .i64 0, .string (⟨#[]⟩ : ByteArray)]) (t := 30) ?hr ?_; (case hd => rfl); (case hg => rfl); (case hr => first | (go_simp; done) | (go_simp; rfl)); intro gb122 hg w31 hbox hb; have n0_ := Aside0.mk (Kd.R_below (Kd.R_elderB (by (with_reducible repeat (first | apply Kd.R_alloc | apply Kd.R_drewN | apply Kd.R_drew)); exact HO_61.out) gb122 (Nat.le_of_eq hg.symm)) hb); have n1_ := Aside0.mk (below_step (by repeat (first | (with_reducible first | exact HB.out | apply below_alloc | apply pw_below_drewN | apply below_drew1) | exact HB.out)) hb); have n2_ := Aside0.mk (hbox); have n3_ := Aside0.mk ((by rw [hg]; exact (below_size (by repeat (first | (with_reducible first | exact HB.out | apply below_alloc | apply pw_below_drewN | apply below_drew1) | exact HB.out))) : w.heap.size ≤ gb122)); have n4_ := Aside0.mk ((by rw [hg]; exact (below_size (by repeat (first | (with_reducible first | exact HB.out | apply below_alloc | apply pw_below_drewN | apply below_drew1) | exact HB.out))) : w.heap.size ≤ gb122)); clear HO_61; clear HB; have HO_61 := n0_; have HB := n1_; have BK122 := n2_; have GW122 := n3_; have GE122 := n4_; clear n0_ n1_ n2_ n3_ n4_; clear hb hbox hg; have hcz32_0 : w31.cell? ⟨gb122, 0, none⟩ = some (.int .i64 0) := (blk_cell BK122.out 0).trans rfl; have hcz32_1 : w31.cell? ⟨gb122, 1, none⟩ = some (.int .i64 0) := (blk_cell BK122.out 1).trans rfl; have hcz32_2 : w31.cell? ⟨gb122, 2, none⟩ = some (.string (⟨#[]⟩ : ByteArray)) := (blk_cell BK122.out 2).trans rfl; have hfz32_0 := blk_frozen BK122.out 0; have hfz32_1 := blk_frozen BK122.out 1; have hfz32_2 := blk_frozen BK122.out 2)); try go_wp2_with (first | ((with_reducible refine gate_dst (N := 13) rfl ?_); refine box_event ?hg (N := 13) ?hd (cs := #[.int .i64 0, .int .i64 0, .string (⟨#[]⟩ : ByteArray)]) (t := 30) ?hr ?_; (case hd => rfl); (case hg => rfl); (case hr => first | (go_simp; done) | (go_simp; rfl)); intro gb122 hg w31 hbox hb; have n0_ := Aside0.mk (Kd.R_below (Kd.R_elderB (by (with_reducible repeat (first | apply Kd.R_alloc | apply Kd.R_drewN | apply Kd.R_drew)); exact HO_61.out) gb122 (Nat.le_of_eq hg.symm)) hb); have n1_ := Aside0.mk (below_step (by repeat (first | (with_reducible first | exact HB.out | apply below_alloc | apply pw_below_drewN | apply below_drew1) | exact HB.out)) hb); have n2_ := Aside0.mk (hbox); have n3_ := Aside0.mk ((by rw [hg]; exact (below_size (by repeat (first | (with_reducible first | exact HB.out | apply below_alloc | apply pw_below_drewN | apply below_drew1) | exact HB.out))) : w.heap.size ≤ gb122)); have n4_ := Aside0.mk ((by rw [hg]; exact (below_size (by repeat (first | (with_reducible first | exact HB.out | apply below_alloc | apply pw_below_drewN | apply below_drew1) | exact HB.out))) : w.heap.size ≤ gb122)); clear HO_61; clear HB; have HO_61 := n0_; have HB := n1_; have BK122 := n2_; have GW122 := n3_; have GE122 := n4_; clear n0_ n1_ n2_ n3_ n4_; clear hb hbox hg; have hcz32_0 : w31.cell? ⟨gb122, 0, none⟩ = some (.int .i64 0) := (blk_cell BK122.out 0).trans rfl; have hcz32_1 : w31.cell? ⟨gb122, 1, none⟩ = some (.int .i64 0) := (blk_cell BK122.out 1).trans rfl; have hcz32_2 : w31.cell? ⟨gb122, 2, none⟩ = some (.string (⟨#[]⟩ : ByteArray)) := (blk_cell BK122.out 2).trans rfl; have hfz32_0 := blk_frozen BK122.out 0; have hfz32_1 := blk_frozen BK122.out 1; have hfz32_2 := blk_frozen BK122.out 2)))
                            go_ret
                            exact ⟨by first | rfl | (simp [errW_none, errW_some] <;> rfl) | (simp [*, errW_none, errW_some] <;> rfl), by repeat (first | (with_reducible first | exact HB.out | apply below_alloc | apply pw_below_drewN | apply below_drew1 | refine below_set ?_ GE122.out) | exact HB.out)⟩
                        · rw [if_neg c24] at H
                          have c24b0 : (((rd_T30 t118 x63_2).f0) == (wrap64 (a0 + (wrap64 (Int.tdiv (wrap64 (x63_2 + 1)) a3))))) = false := beq_eq_false_iff_ne.mpr c24
                          have c24b1 : (((rd_T30 t118 x63_2).f0) != (wrap64 (a0 + (wrap64 (Int.tdiv (wrap64 (x63_2 + 1)) a3))))) = true := bne_iff_ne.mpr c24
                          obtain rfl := Option.some.inj H
                          have p121 : 0 ≤ (x63_2 : Int) := of_decide_eq_true (by first | (with_reducible assumption) | assumption)
                          have q121 : x63_2 < (t118.length : Int) := of_decide_eq_true (by first | (with_reducible assumption) | assumption)
                          obtain ⟨ad121, e121, hx121_0, hx121_1, hx121_2⟩ := at_T30 (Kd.R_reads' HO_61.out).2.2 x63_2 p121 q121
                          cases e121
                          replace p121 := eq_true p121
                          replace q121 := eq_true q121
                          go_wp2_with (first | ((with_reducible refine gate_dst (N := 13) rfl ?_); refine box_event ?hg (N := 13) ?hd (cs := #[.int .i64 0, .int .i64 0, .string (⟨#[]⟩ : ByteArray)]) (t := 30) ?hr ?_; (case hd => rfl); (case hg => rfl); (case hr => first | (go_simp; done) | (go_simp; rfl)); intro gb122 hg w33 hbox hb; have n0_ := Aside0.mk (Kd.R_below (Kd.R_elderB (by (with_reducible repeat (first | apply Kd.R_alloc | apply Kd.R_drewN | apply Kd.R_drew)); exact HO_61.out) gb122 (Nat.le_of_eq hg.symm)) hb); have n1_ := Aside0.mk (below_step (by repeat (first | (with_reducible first | exact HB.out | apply below_alloc | apply pw_below_drewN | apply below_drew1) | exact HB.out)) hb); have n2_ := Aside0.mk (hbox); have n3_ := Aside0.mk ((by rw [hg]; exact (below_size (by repeat (first | (with_reducible first | exact HB.out | apply below_alloc | apply pw_below_drewN | apply below_drew1) | exact HB.out))) : w.heap.size ≤ gb122)); have n4_ := Aside0.mk ((by rw [hg]; exact (below_size (by repeat (first | (with_reducible first | exact HB.out | apply below_alloc | apply pw_below_drewN | apply below_drew1) | exact HB.out))) : w.heap.size ≤ gb122)); clear HO_61; clear HB; have HO_61 := n0_; have HB := n1_; have BK122 := n2_; have GW122 := n3_; have GE122 := n4_; clear n0_ n1_ n2_ n3_ n4_; clear hb hbox hg; have hcz34_0 : w33.cell? ⟨gb122, 0, none⟩ = some (.int .i64 0) := (blk_cell BK122.out 0).trans rfl; have hcz34_1 : w33.cell? ⟨gb122, 1, none⟩ = some (.int .i64 0) := (blk_cell BK122.out 1).trans rfl; have hcz34_2 : w33.cell? ⟨gb122, 2, none⟩ = some (.string (⟨#[]⟩ : ByteArray)) := (blk_cell BK122.out 2).trans rfl; have hfz34_0 := blk_frozen BK122.out 0; have hfz34_1 := blk_frozen BK122.out 1; have hfz34_2 := blk_frozen BK122.out 2))
                          repeat (go_quiet (first | ((with_reducible refine gate_dst (N := 13) rfl ?_); refine box_event ?hg (N := 13) ?hd (cs := #[.int .i64 0, .int .i64 0, .string (⟨#[]⟩ : ByteArray)]) (t := 30) ?hr ?_; (case hd => rfl); (case hg => rfl); (case hr => first | (go_simp; done) | (go_simp; rfl)); intro gb122 hg w33 hbox hb; have n0_ := Aside0.mk (Kd.R_below (Kd.R_elderB (by (with_reducible repeat (first | apply Kd.R_alloc | apply Kd.R_drewN | apply Kd.R_drew)); exact HO_61.out) gb122 (Nat.le_of_eq hg.symm)) hb); have n1_ := Aside0.mk (below_step (by repeat (first | (with_reducible first | exact HB.out | apply below_alloc | apply pw_below_drewN | apply below_drew1) | exact HB.out)) hb); have n2_ := Aside0.mk (hbox); have n3_ := Aside0.mk ((by rw [hg]; exact (below_size (by repeat (first | (with_reducible first | exact HB.out | apply below_alloc | apply pw_below_drewN | apply below_drew1) | exact HB.out))) : w.heap.size ≤ gb122)); have n4_ := Aside0.mk ((by rw [hg]; exact (below_size (by repeat (first | (with_reducible first | exact HB.out | apply below_alloc | apply pw_below_drewN | apply below_drew1) | exact HB.out))) : w.heap.size ≤ gb122)); clear HO_61; clear HB; have HO_61 := n0_; have HB := n1_; have BK122 := n2_; have GW122 := n3_; have GE122 := n4_; clear n0_ n1_ n2_ n3_ n4_; clear hb hbox hg; have hcz34_0 : w33.cell? ⟨gb122, 0, none⟩ = some (.int .i64 0) := (blk_cell BK122.out 0).trans rfl; have hcz34_1 : w33.cell? ⟨gb122, 1, none⟩ = some (.int .i64 0) := (blk_cell BK122.out 1).trans rfl; have hcz34_2 : w33.cell? ⟨gb122, 2, none⟩ = some (.string (⟨#[]⟩ : ByteArray)) := (blk_cell BK122.out 2).trans rfl; have hfz34_0 := blk_frozen BK122.out 0; have hfz34_1 := blk_frozen BK122.out 1; have hfz34_2 := blk_frozen BK122.out 2)); try go_wp2_with (first | ((with_reducible refine gate_dst (N := 13) rfl ?_); refine box_event ?hg (N := 13) ?hd (cs := #[.int .i64 0, .int .i64 0, .string (⟨#[]⟩ : ByteArray)]) (t := 30) ?hr ?_; (case hd => rfl); (case hg => rfl); (case hr => first | (go_simp; done) | (go_simp; rfl)); intro gb122 hg w33 hbox hb; have n0_ := Aside0.mk (Kd.R_below (Kd.R_elderB (by (with_reducible repeat (first | apply Kd.R_alloc | apply Kd.R_drewN | apply Kd.R_drew)); exact HO_61.out) gb122 (Nat.le_of_eq hg.symm)) hb); have n1_ := Aside0.mk (below_step (by repeat (first | (with_reducible first | exact HB.out | apply below_alloc | apply pw_below_drewN | apply below_drew1) | exact HB.out)) hb); have n2_ := Aside0.mk (hbox); have n3_ := Aside0.mk ((by rw [hg]; exact (below_size (by repeat (first | (with_reducible first | exact HB.out | apply below_alloc | apply pw_below_drewN | apply below_drew1) | exact HB.out))) : w.heap.size ≤ gb122)); have n4_ := Aside0.mk ((by rw [hg]; exact (below_size (by repeat (first | (with_reducible first | exact HB.out | apply below_alloc | apply pw_below_drewN | apply below_drew1) | exact HB.out))) : w.heap.size ≤ gb122)); clear HO_61; clear HB; have HO_61 := n0_; have HB := n1_; have BK122 := n2_; have GW122 := n3_; have GE122 := n4_; clear n0_ n1_ n2_ n3_ n4_; clear hb hbox hg; have hcz34_0 : w33.cell? ⟨gb122, 0, none⟩ = some (.int .i64 0) := (blk_cell BK122.out 0).trans rfl; have hcz34_1 : w33.cell? ⟨gb122, 1, none⟩ = some (.int .i64 0) := (blk_cell BK122.out 1).trans rfl; have hcz34_2 : w33.cell? ⟨gb122, 2, none⟩ = some (.string (⟨#[]⟩ : ByteArray)) := (blk_cell BK122.out 2).trans rfl; have hfz34_0 := blk_frozen BK122.out 0; have hfz34_1 := blk_frozen BK122.out 1; have hfz34_2 := blk_frozen BK122.out 2)))
                          go_ret
                          exact ⟨by first | rfl | (simp [errW_none, errW_some] <;> rfl) | (simp [*, errW_none, errW_some] <;> rfl), by repeat (first | (with_reducible first | exact HB.out | apply below_alloc | apply pw_below_drewN | apply below_drew1 | refine below_set ?_ GE122.out) | exact HB.out)⟩
                    · rw [if_neg c22] at H
                      exact absurd H (by simp)
                  · rw [if_neg c21] at H
                    exact absurd H (by simp)
                · rw [if_neg c20] at H
                  have c20b0 : decide (x63_2 < (t118.length : Int)) = false := decide_eq_false c20
                  clear c20
                  replace H := Option.bind_eq_some_iff.mp H
                  obtain ⟨t123, A350, H⟩ := H
                  replace H : (some ((t123.length : Int) == 1)) = some r := H
                  have A35 := Aside0.mk A350
                  clear A350
                  obtain rfl := Option.some.inj H
                  go_wp2_with (first | (go_at_call 12; (with_reducible refine (impl_Span.calls k2 0 0 1 2 (⟨#[]⟩ : ByteArray) t123 _ A35.out).mono ?_); rintro e w36 ⟨v124, rfl, ho0, hb⟩; have n0_ := Aside0.mk (Kd.R_elder' (by (with_reducible repeat (first | apply Kd.R_alloc | apply Kd.R_drewN | apply Kd.R_drew)); exact HO_61.out) (Kd.R_base ho0) hb); have n1_ := Aside0.mk (Kd.R_lower (Kd.R_new' ho0 (Kd.R_lt (by (with_reducible repeat (first | apply Kd.R_alloc | apply Kd.R_drewN | apply Kd.R_drew)); exact HO_61.out))) (below_size (by repeat (first | (with_reducible first | exact HB.out | apply below_alloc | apply pw_below_drewN | apply below_drew1) | exact HB.out)))); have n2_ := Aside0.mk (below_step (by repeat (first | (with_reducible first | exact HB.out | apply below_alloc | apply pw_below_drewN | apply below_drew1) | exact HB.out)) hb); clear HO_61; clear HB; have HO_61 := n0_; have HO125 := n1_; have HB := n2_; clear n0_ n1_ n2_; (try clear hb); (try clear hb2); (try clear hk); (try clear hi); (try clear ho0); obtain ⟨Ao37, co37, eo37⟩ := Kd.R_slice HO125.out; subst eo37))
                  repeat (go_quiet (first | (go_at_call 12; (with_reducible refine (impl_Span.calls k2 0 0 1 2 (⟨#[]⟩ : ByteArray) t123 _ A35.out).mono ?_); rintro e w36 ⟨v124, rfl, ho0, hb⟩; have n0_ := Aside0.mk (Kd.R_elder' (by (with_reducible repeat (first | apply Kd.R_alloc | apply Kd.R_drewN | apply Kd.R_drew)); exact HO_61.out) (Kd.R_base ho0) hb); have n1_ := Aside0.mk (Kd.R_lower (Kd.R_new' ho0 (Kd.R_lt (by (with_reducible repeat (first | apply Kd.R_alloc | apply Kd.R_drewN | apply Kd.R_drew)); exact HO_61.out))) (below_size (by repeat (first | (with_reducible first | exact HB.out | apply below_alloc | apply pw_below_drewN | apply below_drew1) | exact HB.out)))); have n2_ := Aside0.mk (below_step (by repeat (first | (with_reducible first | exact HB.out | apply below_alloc | apply pw_below_drewN | apply below_drew1) | exact HB.out)) hb); clear HO_61; clear HB; have HO_61 := n0_; have HO125 := n1_; have HB := n2_; clear n0_ n1_ n2_; (try clear hb); (try clear hb2); (try clear hk); (try clear hi); (try clear ho0); obtain ⟨Ao37, co37, eo37⟩ := Kd.R_slice HO125.out; subst eo37)); try go_wp2_with (first | (go_at_call 12; (with_reducible refine (impl_Span.calls k2 0 0 1 2 (⟨#[]⟩ : ByteArray) t123 _ A35.out).mono ?_); rintro e w36 ⟨v124, rfl, ho0, hb⟩; have n0_ := Aside0.mk (Kd.R_elder' (by (with_reducible repeat (first | apply Kd.R_alloc | apply Kd.R_drewN | apply Kd.R_drew)); exact HO_61.out) (Kd.R_base ho0) hb); have n1_ := Aside0.mk (Kd.R_lower (Kd.R_new' ho0 (Kd.R_lt (by (with_reducible repeat (first | apply Kd.R_alloc | apply Kd.R_drewN | apply Kd.R_drew)); exact HO_61.out))) (below_size (by repeat (first | (with_reducible first | exact HB.out | apply below_alloc | apply pw_below_drewN | apply below_drew1) | exact HB.out)))); have n2_ := Aside0.mk (below_step (by repeat (first | (with_reducible first | exact HB.out | apply below_alloc | apply pw_below_drewN | apply below_drew1) | exact HB.out)) hb); clear HO_61; clear HB; have HO_61 := n0_; have HO125 := n1_; have HB := n2_; clear n0_ n1_ n2_; (try clear hb); (try clear hb2); (try clear hk); (try clear hi); (try clear ho0); obtain ⟨Ao37, co37, eo37⟩ := Kd.R_slice HO125.out; subst eo37)))
                  go_ret
                  exact ⟨by first | rfl | (simp [errW_none, errW_some] <;> rfl) | (simp [*, errW_none, errW_some] <;> rfl), by repeat (first | (with_reducible first | exact HB.out | apply below_alloc | apply pw_below_drewN | apply below_drew1) | exact HB.out)⟩
          · rw [if_neg c17] at H
            have c17b0 : ((t118.length : Int) == (wrap64 ((wrap64 (a2 * a3)) - 1))) = false := beq_eq_false_iff_ne.mpr c17
            have c17b1 : ((t118.length : Int) != (wrap64 ((wrap64 (a2 * a3)) - 1))) = true := bne_iff_ne.mpr c17
            obtain rfl := Option.some.inj H
            go_wp2_with (first | (go_at_call 12; (with_reducible refine (impl_Span.calls kj6 a0 a1 a2 a3 a4 t118 _ A16.out).mono ?_); rintro e w38 ⟨v119, rfl, ho0, hb⟩; have n0_ := Aside0.mk (Kd.R_lower ho0 (below_size (by repeat (first | (with_reducible first | exact HB.out | apply below_alloc | apply pw_below_drewN | apply below_drew1) | exact HB.out)))); have n1_ := Aside0.mk (below_step (by repeat (first | (with_reducible first | exact HB.out | apply below_alloc | apply pw_below_drewN | apply below_drew1) | exact HB.out)) hb); clear HB; have HO120 := n0_; have HB := n1_; clear n0_ n1_; (try clear hb); (try clear hb2); (try clear hk); (try clear hi); (try clear ho0); obtain ⟨Ao39, co39, eo39⟩ := Kd.R_slice HO120.out; subst eo39))
            repeat (go_quiet (first | (go_at_call 12; (with_reducible refine (impl_Span.calls kj6 a0 a1 a2 a3 a4 t118 _ A16.out).mono ?_); rintro e w38 ⟨v119, rfl, ho0, hb⟩; have n0_ := Aside0.mk (Kd.R_lower ho0 (below_size (by repeat (first | (with_reducible first | exact HB.out | apply below_alloc | apply pw_below_drewN | apply below_drew1) | exact HB.out)))); have n1_ := Aside0.mk (below_step (by repeat (first | (with_reducible first | exact HB.out | apply below_alloc | apply pw_below_drewN | apply below_drew1) | exact HB.out)) hb); clear HB; have HO120 := n0_; have HB := n1_; clear n0_ n1_; (try clear hb); (try clear hb2); (try clear hk); (try clear hi); (try clear ho0); obtain ⟨Ao39, co39, eo39⟩ := Kd.R_slice HO120.out; subst eo39)); try go_wp2_with (first | (go_at_call 12; (with_reducible refine (impl_Span.calls kj6 a0 a1 a2 a3 a4 t118 _ A16.out).mono ?_); rintro e w38 ⟨v119, rfl, ho0, hb⟩; have n0_ := Aside0.mk (Kd.R_lower ho0 (below_size (by repeat (first | (with_reducible first | exact HB.out | apply below_alloc | apply pw_below_drewN | apply below_drew1) | exact HB.out)))); have n1_ := Aside0.mk (below_step (by repeat (first | (with_reducible first | exact HB.out | apply below_alloc | apply pw_below_drewN | apply below_drew1) | exact HB.out)) hb); clear HB; have HO120 := n0_; have HB := n1_; clear n0_ n1_; (try clear hb); (try clear hb2); (try clear hk); (try clear hi); (try clear ho0); obtain ⟨Ao39, co39, eo39⟩ := Kd.R_slice HO120.out; subst eo39)))
            go_ret
            exact ⟨by first | rfl | (simp [errW_none, errW_some] <;> rfl) | (simp [*, errW_none, errW_some] <;> rfl), by repeat (first | (with_reducible first | exact HB.out | apply below_alloc | apply pw_below_drewN | apply below_drew1) | exact HB.out)⟩

/-- THE ONE PURE STATEMENT of laws_FnSpan: yours. -/
def laws_FnSpan.Pure : Prop := ∀ (a0 : Int) (a1 : Int) (a2 : Int) (a3 : Int) (a4 : ByteArray), (Lit.int .i64 a0).wf = true → (Lit.int .i64 a1).wf = true → (Lit.int .i64 a2).wf = true → (Lit.int .i64 a3).wf = true → a4.size ≤ 140737488351232 → ∃ k, laws_FnSpan.f k a0 a1 a2 a3 a4 = some true
theorem laws_FnSpan.walk (P : laws_FnSpan.Pure) (a0 : Int) (a1 : Int) (a2 : Int) (a3 : Int) (a4 : ByteArray) (w : World) (w0 : (Lit.int .i64 a0).wf = true) (w1 : (Lit.int .i64 a1).wf = true) (w2 : (Lit.int .i64 a2).wf = true) (w3 : (Lit.int .i64 a3).wf = true) (w4 : a4.size ≤ 140737488351232) :
    Calls Try.prog 5 #[.int .i64 a0, .int .i64 a1, .int .i64 a2, .int .i64 a3, .string a4] w fun e w' => e = .returned (.bool true) ∧ Below w.heap.size w w' := by
  obtain ⟨k, h⟩ := P a0 a1 a2 a3 a4 w0 w1 w2 w3 w4
  refine (laws_FnSpan.calls k a0 a1 a2 a3 a4 true w h).mono ?_
  rintro e w' ⟨rfl, hd⟩
  exact ⟨rfl, hd⟩

end Go.Proofs.Ytgkdpjlmklhjaaa.PFnSpan
