/- Printed by the program extprint.py of this session, out of the kit's print and contracts of this session's own; Lean checks it. -/
import Derived.Test.YtbhcoeabhdangaaDoorEInlx0
import Derived.Test.YtbhcoeabhdangaaDoorStrX
namespace Go.Proofs.YtbhcoeabhdangaaDoor.PInl
open Go.RowKit Go.Proofs.YtbhcoeabhdangaaDoorW.PrintWords Go.Proofs.YtbhcoeabhdangaaDoorW.PrintLast Go.Proofs.YtbhcoeabhdangaaDoorW.PrintMore
attribute [local go_sem] max2_int min2_int max_two min_two max_three min_three max_four min_four   -- for this text's walks alone
set_option linter.unusedVariables false
set_option linter.unusedSimpArgs false

/-! ### laws_FnStrikeTest: function 3 -/
mutual
def laws_FnStrikeTest.j0 : Nat → ByteArray → Int → Bool → Option (Bool)
  | 0, _, _, _ => none
  | k + 1, x0, x1, x17 => if x17 = true then (some true) else (laws_FnStrikeTest.l0 k x0 x1 (x0.size : Int) 0)
def laws_FnStrikeTest.l0 : Nat → ByteArray → Int → Int → Int → Option (Bool)
  | 0, _, _, _, _ => none
  | k + 1, x0, x1, x19, x20 => if x20 < x19 then (if 0 ≤ x20 then (if x20 < (x0.size : Int) then (if (bt x0 x20) ≥ 128 then (some true) else (if (bt x0 x20) < 32 then (if (bt x0 x20) = 7 then (if (wrap64 (x20 + 1)) = (x0.size : Int) then (some true) else (if 0 ≤ (wrap64 (x20 + 1)) then (if (wrap64 (x20 + 1)) < (x0.size : Int) then (if (bt x0 (wrap64 (x20 + 1))) = 126 then (laws_FnStrikeTest.l0 k x0 x1 x19 (wrap64 (x20 + 1))) else (if (bt x0 (wrap64 (x20 + 1))) = 42 then (laws_FnStrikeTest.l0 k x0 x1 x19 (wrap64 (x20 + 1))) else (if (bt x0 (wrap64 (x20 + 1))) = 124 then (laws_FnStrikeTest.l0 k x0 x1 x19 (wrap64 (x20 + 1))) else (some true)))) else (none)) else (none))) else (if (bt x0 x20) = 10 then (laws_FnStrikeTest.l0 k x0 x1 x19 (wrap64 (x20 + 1))) else (if (bt x0 x20) = 9 then (laws_FnStrikeTest.l0 k x0 x1 x19 (wrap64 (x20 + 1))) else (some true)))) else (if (bt x0 x20) = 7 then (if (wrap64 (x20 + 1)) = (x0.size : Int) then (some true) else (if 0 ≤ (wrap64 (x20 + 1)) then (if (wrap64 (x20 + 1)) < (x0.size : Int) then (if (bt x0 (wrap64 (x20 + 1))) = 126 then (laws_FnStrikeTest.l0 k x0 x1 x19 (wrap64 (x20 + 1))) else (if (bt x0 (wrap64 (x20 + 1))) = 42 then (laws_FnStrikeTest.l0 k x0 x1 x19 (wrap64 (x20 + 1))) else (if (bt x0 (wrap64 (x20 + 1))) = 124 then (laws_FnStrikeTest.l0 k x0 x1 x19 (wrap64 (x20 + 1))) else (some true)))) else (none)) else (none))) else (laws_FnStrikeTest.l0 k x0 x1 x19 (wrap64 (x20 + 1)))))) else (none)) else (none)) else (if 0 ≤ x1 then (if x1 < (x0.size : Int) then (if (bt x0 x1) = 126 then (if (wrap64 (x1 + 1)) < (x0.size : Int) then (if 0 ≤ (wrap64 (x1 + 1)) then (if (bt x0 (wrap64 (x1 + 1))) = 32 then (laws_FnStrikeTest.j2 k x0 x1 (-1) false) else (if (bt x0 (wrap64 (x1 + 1))) = 10 then (laws_FnStrikeTest.j2 k x0 x1 (-1) false) else (laws_FnStrikeTest.j2 k x0 x1 (-1) ((bt x0 (wrap64 (x1 + 1))) != 9)))) else (none)) else (laws_FnStrikeTest.j2 k x0 x1 (-1) false)) else (laws_FnStrikeTest.j2 k x0 x1 (-1) false)) else (none)) else (none))
def laws_FnStrikeTest.j2 : Nat → ByteArray → Int → Int → Bool → Option (Bool)
  | 0, _, _, _, _ => none
  | k + 1, x0, x1, x6, x117 => if x117 = true then ((impl_StrikeTest.f k x0 x1).bind fun t101 => (if t101 = 1 then ((impl_StrikeTest.f k (⟨#[7, 126, 97]⟩ : ByteArray) 1).bind fun t102 => (some (t102 == 1))) else (some false))) else ((impl_StrikeTest.f k x0 x1).bind fun t103 => (if t103 = x6 then ((impl_StrikeTest.f k (⟨#[7, 126, 97]⟩ : ByteArray) 1).bind fun t104 => (some (t104 == 1))) else (some false)))
end
def laws_FnStrikeTest.f (k : Nat) (a0 : ByteArray) (a1 : Int) : Option (Bool) := if (a0.size : Int) > 2147483647 then (some true) else (if a1 < 0 then (laws_FnStrikeTest.j0 k a0 a1 true) else (laws_FnStrikeTest.j0 k a0 a1 (decide (a1 ≥ (a0.size : Int)))))
theorem laws_FnStrikeTest.mono_l : ∀ k, (∀ y0 y1 y2, LeO (laws_FnStrikeTest.j0 k y0 y1 y2) (laws_FnStrikeTest.j0 (k + 1) y0 y1 y2)) ∧ (∀ y0 y1 y2 y3, LeO (laws_FnStrikeTest.l0 k y0 y1 y2 y3) (laws_FnStrikeTest.l0 (k + 1) y0 y1 y2 y3)) ∧ (∀ y0 y1 y2 y3, LeO (laws_FnStrikeTest.j2 k y0 y1 y2 y3) (laws_FnStrikeTest.j2 (k + 1) y0 y1 y2 y3))
  | 0 => ⟨fun _ _ _ r h => by simp [laws_FnStrikeTest.j0] at h, fun _ _ _ _ r h => by simp [laws_FnStrikeTest.l0] at h, fun _ _ _ _ r h => by simp [laws_FnStrikeTest.j2] at h⟩
  | k + 1 => by
    obtain ⟨ih0, ih1, ih2⟩ := laws_FnStrikeTest.mono_l k
    refine ⟨?_, ?_, ?_⟩
    · intro y0 y1 y2
      unfold laws_FnStrikeTest.j0
      repeat' first
      | (with_reducible exact ih0 _ _ _)
      | (with_reducible exact ih1 _ _ _ _)
      | (with_reducible exact ih2 _ _ _ _)
      | (with_reducible exact impl_StrikeTest.mono _ _ _)
      | (with_reducible exact LeO.refl _)
      | (with_reducible exact LeO.none _)
      | (with_reducible refine LeO.ite ?_ ?_)
      | (with_reducible refine LeO.bind ?_ (fun _ => ?_))
      | exact ih0 _ _ _
      | exact ih1 _ _ _ _
      | exact ih2 _ _ _ _
      | exact impl_StrikeTest.mono _ _ _
      | exact LeO.none _
      | refine LeO.ite ?_ ?_
      | refine LeO.bind ?_ (fun _ => ?_)
    · intro y0 y1 y2 y3
      unfold laws_FnStrikeTest.l0
      repeat' first
      | (with_reducible exact ih0 _ _ _)
      | (with_reducible exact ih1 _ _ _ _)
      | (with_reducible exact ih2 _ _ _ _)
      | (with_reducible exact impl_StrikeTest.mono _ _ _)
      | (with_reducible exact LeO.refl _)
      | (with_reducible exact LeO.none _)
      | (with_reducible refine LeO.ite ?_ ?_)
      | (with_reducible refine LeO.bind ?_ (fun _ => ?_))
      | exact ih0 _ _ _
      | exact ih1 _ _ _ _
      | exact ih2 _ _ _ _
      | exact impl_StrikeTest.mono _ _ _
      | exact LeO.none _
      | refine LeO.ite ?_ ?_
      | refine LeO.bind ?_ (fun _ => ?_)
    · intro y0 y1 y2 y3
      unfold laws_FnStrikeTest.j2
      repeat' first
      | (with_reducible exact ih0 _ _ _)
      | (with_reducible exact ih1 _ _ _ _)
      | (with_reducible exact ih2 _ _ _ _)
      | (with_reducible exact impl_StrikeTest.mono _ _ _)
      | (with_reducible exact LeO.refl _)
      | (with_reducible exact LeO.none _)
      | (with_reducible refine LeO.ite ?_ ?_)
      | (with_reducible refine LeO.bind ?_ (fun _ => ?_))
      | exact ih0 _ _ _
      | exact ih1 _ _ _ _
      | exact ih2 _ _ _ _
      | exact impl_StrikeTest.mono _ _ _
      | exact LeO.none _
      | refine LeO.ite ?_ ?_
      | refine LeO.bind ?_ (fun _ => ?_)
theorem laws_FnStrikeTest.mono : ∀ a0 a1 k, LeO (laws_FnStrikeTest.f k a0 a1) (laws_FnStrikeTest.f (k + 1) a0 a1) := by
  intro a0 a1 k
  obtain ⟨ih0, ih1, ih2⟩ := laws_FnStrikeTest.mono_l k
  unfold laws_FnStrikeTest.f
  repeat' first
      | (with_reducible exact ih0 _ _ _)
      | (with_reducible exact ih1 _ _ _ _)
      | (with_reducible exact ih2 _ _ _ _)
      | (with_reducible exact impl_StrikeTest.mono _ _ _)
      | (with_reducible exact LeO.refl _)
      | (with_reducible exact LeO.none _)
      | (with_reducible refine LeO.ite ?_ ?_)
      | (with_reducible refine LeO.bind ?_ (fun _ => ?_))
      | exact ih0 _ _ _
      | exact ih1 _ _ _ _
      | exact ih2 _ _ _ _
      | exact impl_StrikeTest.mono _ _ _
      | exact LeO.none _
      | refine LeO.ite ?_ ?_
      | refine LeO.bind ?_ (fun _ => ?_)
set_option maxHeartbeats 8000000 in
set_option maxRecDepth 100000 in
theorem laws_FnStrikeTest.calls (k : Nat) (a0 : ByteArray) (a1 : Int) (r : Bool) (w : World) (h : laws_FnStrikeTest.f k a0 a1 = some r) :
    Calls Tryd.prog 3 #[.string a0, .int .i64 a1] w fun e w' => e = .returned (.bool r) ∧ Below w.heap.size w w' := by
  have HB := Aside0.mk (Below.refl w.heap.size w)
  have H : (if (a0.size : Int) > 2147483647 then (some true) else (if a1 < 0 then (laws_FnStrikeTest.j0 k a0 a1 true) else (laws_FnStrikeTest.j0 k a0 a1 (decide (a1 ≥ (a0.size : Int)))))) = some r := h
  clear h
  by_cases c3 : (a0.size : Int) > 2147483647
  · rw [if_pos c3] at H
    have c3b0 : decide (2147483647 < (a0.size : Int)) = true := decide_eq_true c3
    have c3b1 : decide (2147483647 < a0.size) = true := decide_eq_true (by omega)
    clear c3
    obtain rfl := Option.some.inj H
    go_enter Tryd.func3, Tryd.ntmps3
    go_wp2
    go_ret
    exact ⟨by first | rfl | (simp [errW_none, errW_some] <;> rfl) | (simp [*, errW_none, errW_some] <;> rfl), by repeat (first | (with_reducible first | exact HB.out | apply below_alloc | apply pw_below_drewN | apply below_drew1) | exact HB.out)⟩
  · rw [if_neg c3] at H
    have c3b0 : decide (2147483647 < (a0.size : Int)) = false := decide_eq_false c3
    have c3b1 : decide (2147483647 < a0.size) = false := decide_eq_false (by omega)
    clear c3
    have HC4 := Aside0.mk H
    clear H
    go_enter Tryd.func3, Tryd.ntmps3
    go_upto_region 3 with (fail)
    go_cut [17] (fun v17 wc => ∃ (kq : Nat) (x17_3 : Bool), v17 = .bool x17_3 ∧ Aside0 (laws_FnStrikeTest.j0 kq a0 a1 x17_3 = some r) ∧ Aside0 (kq ≤ k) ∧ Aside0 (Below w.heap.size w wc))
    case first =>
      have H := HC4.out
      clear HC4
      by_cases c5 : a1 < 0
      · rw [if_pos c5] at H
        have c5b0 : decide (a1 < 0) = true := decide_eq_true c5
        clear c5
        (first | rw [c5b0] | (simp only [i64_w, i32_w]; rw [c5b0]) | skip)
        have H' := Aside0.mk H
        clear H
        go_wp2
        go_meet
        case rel => exact ⟨_, (true), (by first | rfl | (simp; done) | (simp [*]; done)), H', ⟨by first | omega | exact Nat.le_refl _⟩, ⟨by repeat (first | (with_reducible first | exact HB.out | apply below_alloc | apply pw_below_drewN | apply below_drew1) | exact HB.out)⟩⟩
      · rw [if_neg c5] at H
        have c5b0 : decide (a1 < 0) = false := decide_eq_false c5
        clear c5
        (first | rw [c5b0] | (simp only [i64_w, i32_w]; rw [c5b0]) | skip)
        have H' := Aside0.mk H
        clear H
        go_wp2
        go_meet
        case rel => exact ⟨_, (decide (a1 ≥ (a0.size : Int))), (by first | rfl | (simp; done) | (simp [*]; done)), H', ⟨by first | omega | exact Nat.le_refl _⟩, ⟨by repeat (first | (with_reducible first | exact HB.out | apply below_alloc | apply pw_below_drewN | apply below_drew1) | exact HB.out)⟩⟩
    case rest =>
      clear HC4
      try clear p2
      try clear c3
      try clear c3b0
      try clear c3b1
      try clear c5
      try clear c5b0
      obtain ⟨kq, x17_3, rfl, HA, HJ3, HB⟩ := hcut
      cases kq with
      | zero => exact absurd HA.out (by simp [laws_FnStrikeTest.j0])
      | succ kj3 =>
        have H := HA.out
        clear HA
        simp only [laws_FnStrikeTest.j0] at H
        by_cases c6 : x17_3 = true
        · subst c6
          have H1 : (some true) = some r := by rw [if_pos rfl] at H; exact H
          clear H
          have H := H1
          clear H1
          obtain rfl := Option.some.inj H
          go_wp2
          go_ret
          exact ⟨by first | rfl | (simp [errW_none, errW_some] <;> rfl) | (simp [*, errW_none, errW_some] <;> rfl), by repeat (first | (with_reducible first | exact HB.out | apply below_alloc | apply pw_below_drewN | apply below_drew1) | exact HB.out)⟩
        · replace c6 := Bool.eq_false_iff.mpr c6
          subst c6
          have H1 : (laws_FnStrikeTest.l0 kj3 a0 a1 (a0.size : Int) 0) = some r := by rw [if_neg (show ¬ (false = true) by decide)] at H; exact H
          clear H
          have H := H1
          clear H1
          have H' := Aside0.mk H
          clear H
          go_wp2
          go_loopg [20] kj3 (fun kq v20 w' => ∃ (x20_2 : Int), v20 = .int .i64 x20_2 ∧ Aside0 (laws_FnStrikeTest.l0 kq a0 a1 (a0.size : Int) x20_2 = some r) ∧ Aside0 (kq ≤ kj3) ∧ Aside0 (Below w.heap.size w w'))
          case atStart => exact ⟨(0), (by first | rfl | (simp; done) | (simp [*]; done)), H', ⟨Nat.le_refl _⟩, ⟨by repeat (first | (with_reducible first | exact HB.out | apply below_alloc | apply pw_below_drewN | apply below_drew1) | exact HB.out)⟩⟩
          case round =>
            clear H'
            try clear p2
            try clear c3
            try clear c3b0
            try clear c3b1
            try clear c5
            try clear c5b0
            try clear c6
            try clear p2
            obtain ⟨x20_2, rfl, HA, HK2, HB⟩ := hrel
            cases gk with
            | zero => exact absurd HA.out (by simp [laws_FnStrikeTest.l0])
            | succ k2 =>
              have H := HA.out
              clear HA
              simp only [laws_FnStrikeTest.l0] at H
              by_cases c7 : x20_2 < (a0.size : Int)
              · rw [if_pos c7] at H
                have c7b0 : decide (x20_2 < (a0.size : Int)) = true := decide_eq_true c7
                clear c7
                by_cases c8 : 0 ≤ x20_2
                · rw [if_pos c8] at H
                  have c8b0 : decide (0 ≤ x20_2) = true := decide_eq_true c8
                  clear c8
                  by_cases c9 : x20_2 < (a0.size : Int)
                  · rw [if_pos c9] at H
                    have c9b0 : decide (x20_2 < (a0.size : Int)) = true := decide_eq_true c9
                    clear c9
                    by_cases c11 : (bt a0 x20_2) ≥ 128
                    · rw [if_pos c11] at H
                      have c11b0 : decide (128 ≤ (bt a0 x20_2)) = true := decide_eq_true c11
                      clear c11
                      obtain rfl := Option.some.inj H
                      have p10 : 0 ≤ (x20_2 : Int) := of_decide_eq_true (by first | (with_reducible assumption) | assumption)
                      have q10 : x20_2 < (a0.size : Int) := of_decide_eq_true (by first | (with_reducible assumption) | assumption)
                      have hx10 := bt_at a0 x20_2
                      replace p10 := eq_true p10
                      replace q10 := eq_true q10
                      go_wp2
                      go_ret
                      exact ⟨by first | rfl | (simp [errW_none, errW_some] <;> rfl) | (simp [*, errW_none, errW_some] <;> rfl), by repeat (first | (with_reducible first | exact HB.out | apply below_alloc | apply pw_below_drewN | apply below_drew1) | exact HB.out)⟩
                    · rw [if_neg c11] at H
                      have c11b0 : decide (128 ≤ (bt a0 x20_2)) = false := decide_eq_false c11
                      clear c11
                      by_cases c13 : (bt a0 x20_2) < 32
                      · rw [if_pos c13] at H
                        have c13b0 : decide ((bt a0 x20_2) < 32) = true := decide_eq_true c13
                        clear c13
                        by_cases c15 : (bt a0 x20_2) = 7
                        · rw [if_pos c15] at H
                          have c15b0 : ((bt a0 x20_2) == 7) = true := beq_iff_eq.mpr c15
                          have c15b1 : ((bt a0 x20_2) != 7) = false := bne_eq_false_iff_eq.mpr c15
                          clear c15
                          by_cases c17 : (wrap64 (x20_2 + 1)) = (a0.size : Int)
                          · rw [if_pos c17] at H
                            have c17b0 : ((wrap64 (x20_2 + 1)) == (a0.size : Int)) = true := beq_iff_eq.mpr c17
                            have c17b1 : ((wrap64 (x20_2 + 1)) != (a0.size : Int)) = false := bne_eq_false_iff_eq.mpr c17
                            clear c17
                            obtain rfl := Option.some.inj H
                            have p10 : 0 ≤ (x20_2 : Int) := of_decide_eq_true (by first | (with_reducible assumption) | assumption)
                            have q10 : x20_2 < (a0.size : Int) := of_decide_eq_true (by first | (with_reducible assumption) | assumption)
                            have hx10 := bt_at a0 x20_2
                            replace p10 := eq_true p10
                            replace q10 := eq_true q10
                            have p12 : 0 ≤ (x20_2 : Int) := of_decide_eq_true (by first | (with_reducible assumption) | assumption)
                            have q12 : x20_2 < (a0.size : Int) := of_decide_eq_true (by first | (with_reducible assumption) | assumption)
                            have hx12 := bt_at a0 x20_2
                            replace p12 := eq_true p12
                            replace q12 := eq_true q12
                            have p14 : 0 ≤ (x20_2 : Int) := of_decide_eq_true (by first | (with_reducible assumption) | assumption)
                            have q14 : x20_2 < (a0.size : Int) := of_decide_eq_true (by first | (with_reducible assumption) | assumption)
                            have hx14 := bt_at a0 x20_2
                            replace p14 := eq_true p14
                            replace q14 := eq_true q14
                            have p16 : 0 ≤ (x20_2 : Int) := of_decide_eq_true (by first | (with_reducible assumption) | assumption)
                            have q16 : x20_2 < (a0.size : Int) := of_decide_eq_true (by first | (with_reducible assumption) | assumption)
                            have hx16 := bt_at a0 x20_2
                            replace p16 := eq_true p16
                            replace q16 := eq_true q16
                            go_wp2
                            go_ret
                            exact ⟨by first | rfl | (simp [errW_none, errW_some] <;> rfl) | (simp [*, errW_none, errW_some] <;> rfl), by repeat (first | (with_reducible first | exact HB.out | apply below_alloc | apply pw_below_drewN | apply below_drew1) | exact HB.out)⟩
                          · rw [if_neg c17] at H
                            have c17b0 : ((wrap64 (x20_2 + 1)) == (a0.size : Int)) = false := beq_eq_false_iff_ne.mpr c17
                            have c17b1 : ((wrap64 (x20_2 + 1)) != (a0.size : Int)) = true := bne_iff_ne.mpr c17
                            obtain ⟨ji18, hji18⟩ : ∃ j_ : Int, (wrap64 (x20_2 + 1)) = j_ := ⟨_, rfl⟩
                            replace H : (if 0 ≤ (ji18) then (if (ji18) < (a0.size : Int) then (if (bt a0 (ji18)) = 126 then (laws_FnStrikeTest.l0 k2 a0 a1 (a0.size : Int) ji18) else (if (bt a0 (ji18)) = 42 then (laws_FnStrikeTest.l0 k2 a0 a1 (a0.size : Int) ji18) else (if (bt a0 (ji18)) = 124 then (laws_FnStrikeTest.l0 k2 a0 a1 (a0.size : Int) ji18) else (some true)))) else (none)) else (none)) = some r := by first | (rw [hji18] at H; exact H) | (simp only [hji18] at H ⊢; exact H)
                            (try rw [hji18] at c17b0)
                            (try rw [hji18] at c17b1)
                            have hji18w : (IntKind.i64.wrap (x20_2 + 1)) = ji18 := (i64_w _).trans hji18
                            by_cases c19 : 0 ≤ (ji18)
                            · rw [if_pos c19] at H
                              have c19b0 : decide (0 ≤ (ji18)) = true := decide_eq_true c19
                              clear c19
                              by_cases c20 : (ji18) < (a0.size : Int)
                              · rw [if_pos c20] at H
                                have c20b0 : decide ((ji18) < (a0.size : Int)) = true := decide_eq_true c20
                                clear c20
                                by_cases c22 : (bt a0 (ji18)) = 126
                                · rw [if_pos c22] at H
                                  have c22b0 : ((bt a0 (ji18)) == 126) = true := beq_iff_eq.mpr c22
                                  have c22b1 : ((bt a0 (ji18)) != 126) = false := bne_eq_false_iff_eq.mpr c22
                                  clear c22
                                  have H' := Aside0.mk H
                                  clear H
                                  have p10 : 0 ≤ (x20_2 : Int) := of_decide_eq_true (by first | (with_reducible assumption) | assumption)
                                  have q10 : x20_2 < (a0.size : Int) := of_decide_eq_true (by first | (with_reducible assumption) | assumption)
                                  have hx10 := bt_at a0 x20_2
                                  replace p10 := eq_true p10
                                  replace q10 := eq_true q10
                                  have p12 : 0 ≤ (x20_2 : Int) := of_decide_eq_true (by first | (with_reducible assumption) | assumption)
                                  have q12 : x20_2 < (a0.size : Int) := of_decide_eq_true (by first | (with_reducible assumption) | assumption)
                                  have hx12 := bt_at a0 x20_2
                                  replace p12 := eq_true p12
                                  replace q12 := eq_true q12
                                  have p14 : 0 ≤ (x20_2 : Int) := of_decide_eq_true (by first | (with_reducible assumption) | assumption)
                                  have q14 : x20_2 < (a0.size : Int) := of_decide_eq_true (by first | (with_reducible assumption) | assumption)
                                  have hx14 := bt_at a0 x20_2
                                  replace p14 := eq_true p14
                                  replace q14 := eq_true q14
                                  have p16 : 0 ≤ (x20_2 : Int) := of_decide_eq_true (by first | (with_reducible assumption) | assumption)
                                  have q16 : x20_2 < (a0.size : Int) := of_decide_eq_true (by first | (with_reducible assumption) | assumption)
                                  have hx16 := bt_at a0 x20_2
                                  replace p16 := eq_true p16
                                  replace q16 := eq_true q16
                                  have p21 : 0 ≤ ((ji18) : Int) := of_decide_eq_true (by first | (with_reducible assumption) | assumption)
                                  have q21 : (ji18) < (a0.size : Int) := of_decide_eq_true (by first | (with_reducible assumption) | assumption)
                                  have hx21 := bt_at a0 (ji18)
                                  replace p21 := eq_true p21
                                  replace q21 := eq_true q21
                                  go_wp2
                                  go_roundg k2
                                  case measure => have := HJ3.out; have := HK2.out; omega
                                  case rel => exact ⟨(ji18), (by first | rfl | (simp; done) | (simp only [← hji18] <;> (first | rfl | simp)) | (simp [*]; done)), H', ⟨by have := HJ3.out; have := HK2.out; omega⟩, ⟨by repeat (first | (with_reducible first | exact HB.out | apply below_alloc | apply pw_below_drewN | apply below_drew1) | exact HB.out)⟩⟩
                                · rw [if_neg c22] at H
                                  have c22b0 : ((bt a0 (ji18)) == 126) = false := beq_eq_false_iff_ne.mpr c22
                                  have c22b1 : ((bt a0 (ji18)) != 126) = true := bne_iff_ne.mpr c22
                                  by_cases c24 : (bt a0 (ji18)) = 42
                                  · rw [if_pos c24] at H
                                    have c24b0 : ((bt a0 (ji18)) == 42) = true := beq_iff_eq.mpr c24
                                    have c24b1 : ((bt a0 (ji18)) != 42) = false := bne_eq_false_iff_eq.mpr c24
                                    clear c24
                                    have H' := Aside0.mk H
                                    clear H
                                    have p10 : 0 ≤ (x20_2 : Int) := of_decide_eq_true (by first | (with_reducible assumption) | assumption)
                                    have q10 : x20_2 < (a0.size : Int) := of_decide_eq_true (by first | (with_reducible assumption) | assumption)
                                    have hx10 := bt_at a0 x20_2
                                    replace p10 := eq_true p10
                                    replace q10 := eq_true q10
                                    have p12 : 0 ≤ (x20_2 : Int) := of_decide_eq_true (by first | (with_reducible assumption) | assumption)
                                    have q12 : x20_2 < (a0.size : Int) := of_decide_eq_true (by first | (with_reducible assumption) | assumption)
                                    have hx12 := bt_at a0 x20_2
                                    replace p12 := eq_true p12
                                    replace q12 := eq_true q12
                                    have p14 : 0 ≤ (x20_2 : Int) := of_decide_eq_true (by first | (with_reducible assumption) | assumption)
                                    have q14 : x20_2 < (a0.size : Int) := of_decide_eq_true (by first | (with_reducible assumption) | assumption)
                                    have hx14 := bt_at a0 x20_2
                                    replace p14 := eq_true p14
                                    replace q14 := eq_true q14
                                    have p16 : 0 ≤ (x20_2 : Int) := of_decide_eq_true (by first | (with_reducible assumption) | assumption)
                                    have q16 : x20_2 < (a0.size : Int) := of_decide_eq_true (by first | (with_reducible assumption) | assumption)
                                    have hx16 := bt_at a0 x20_2
                                    replace p16 := eq_true p16
                                    replace q16 := eq_true q16
                                    have p21 : 0 ≤ ((ji18) : Int) := of_decide_eq_true (by first | (with_reducible assumption) | assumption)
                                    have q21 : (ji18) < (a0.size : Int) := of_decide_eq_true (by first | (with_reducible assumption) | assumption)
                                    have hx21 := bt_at a0 (ji18)
                                    replace p21 := eq_true p21
                                    replace q21 := eq_true q21
                                    have p23 : 0 ≤ ((ji18) : Int) := of_decide_eq_true (by first | (with_reducible assumption) | assumption)
                                    have q23 : (ji18) < (a0.size : Int) := of_decide_eq_true (by first | (with_reducible assumption) | assumption)
                                    have hx23 := bt_at a0 (ji18)
                                    replace p23 := eq_true p23
                                    replace q23 := eq_true q23
                                    go_wp2
                                    go_roundg k2
                                    case measure => have := HJ3.out; have := HK2.out; omega
                                    case rel => exact ⟨(ji18), (by first | rfl | (simp; done) | (simp only [← hji18] <;> (first | rfl | simp)) | (simp [*]; done)), H', ⟨by have := HJ3.out; have := HK2.out; omega⟩, ⟨by repeat (first | (with_reducible first | exact HB.out | apply below_alloc | apply pw_below_drewN | apply below_drew1) | exact HB.out)⟩⟩
                                  · rw [if_neg c24] at H
                                    have c24b0 : ((bt a0 (ji18)) == 42) = false := beq_eq_false_iff_ne.mpr c24
                                    have c24b1 : ((bt a0 (ji18)) != 42) = true := bne_iff_ne.mpr c24
                                    by_cases c26 : (bt a0 (ji18)) = 124
                                    · rw [if_pos c26] at H
                                      have c26b0 : ((bt a0 (ji18)) == 124) = true := beq_iff_eq.mpr c26
                                      have c26b1 : ((bt a0 (ji18)) != 124) = false := bne_eq_false_iff_eq.mpr c26
                                      clear c26
                                      have H' := Aside0.mk H
                                      clear H
                                      have p10 : 0 ≤ (x20_2 : Int) := of_decide_eq_true (by first | (with_reducible assumption) | assumption)
                                      have q10 : x20_2 < (a0.size : Int) := of_decide_eq_true (by first | (with_reducible assumption) | assumption)
                                      have hx10 := bt_at a0 x20_2
                                      replace p10 := eq_true p10
                                      replace q10 := eq_true q10
                                      have p12 : 0 ≤ (x20_2 : Int) := of_decide_eq_true (by first | (with_reducible assumption) | assumption)
                                      have q12 : x20_2 < (a0.size : Int) := of_decide_eq_true (by first | (with_reducible assumption) | assumption)
                                      have hx12 := bt_at a0 x20_2
                                      replace p12 := eq_true p12
                                      replace q12 := eq_true q12
                                      have p14 : 0 ≤ (x20_2 : Int) := of_decide_eq_true (by first | (with_reducible assumption) | assumption)
                                      have q14 : x20_2 < (a0.size : Int) := of_decide_eq_true (by first | (with_reducible assumption) | assumption)
                                      have hx14 := bt_at a0 x20_2
                                      replace p14 := eq_true p14
                                      replace q14 := eq_true q14
                                      have p16 : 0 ≤ (x20_2 : Int) := of_decide_eq_true (by first | (with_reducible assumption) | assumption)
                                      have q16 : x20_2 < (a0.size : Int) := of_decide_eq_true (by first | (with_reducible assumption) | assumption)
                                      have hx16 := bt_at a0 x20_2
                                      replace p16 := eq_true p16
                                      replace q16 := eq_true q16
                                      have p21 : 0 ≤ ((ji18) : Int) := of_decide_eq_true (by first | (with_reducible assumption) | assumption)
                                      have q21 : (ji18) < (a0.size : Int) := of_decide_eq_true (by first | (with_reducible assumption) | assumption)
                                      have hx21 := bt_at a0 (ji18)
                                      replace p21 := eq_true p21
                                      replace q21 := eq_true q21
                                      have p23 : 0 ≤ ((ji18) : Int) := of_decide_eq_true (by first | (with_reducible assumption) | assumption)
                                      have q23 : (ji18) < (a0.size : Int) := of_decide_eq_true (by first | (with_reducible assumption) | assumption)
                                      have hx23 := bt_at a0 (ji18)
                                      replace p23 := eq_true p23
                                      replace q23 := eq_true q23
                                      have p25 : 0 ≤ ((ji18) : Int) := of_decide_eq_true (by first | (with_reducible assumption) | assumption)
                                      have q25 : (ji18) < (a0.size : Int) := of_decide_eq_true (by first | (with_reducible assumption) | assumption)
                                      have hx25 := bt_at a0 (ji18)
                                      replace p25 := eq_true p25
                                      replace q25 := eq_true q25
                                      go_wp2
                                      go_roundg k2
                                      case measure => have := HJ3.out; have := HK2.out; omega
                                      case rel => exact ⟨(ji18), (by first | rfl | (simp; done) | (simp only [← hji18] <;> (first | rfl | simp)) | (simp [*]; done)), H', ⟨by have := HJ3.out; have := HK2.out; omega⟩, ⟨by repeat (first | (with_reducible first | exact HB.out | apply below_alloc | apply pw_below_drewN | apply below_drew1) | exact HB.out)⟩⟩
                                    · rw [if_neg c26] at H
                                      have c26b0 : ((bt a0 (ji18)) == 124) = false := beq_eq_false_iff_ne.mpr c26
                                      have c26b1 : ((bt a0 (ji18)) != 124) = true := bne_iff_ne.mpr c26
                                      obtain rfl := Option.some.inj H
                                      have p10 : 0 ≤ (x20_2 : Int) := of_decide_eq_true (by first | (with_reducible assumption) | assumption)
                                      have q10 : x20_2 < (a0.size : Int) := of_decide_eq_true (by first | (with_reducible assumption) | assumption)
                                      have hx10 := bt_at a0 x20_2
                                      replace p10 := eq_true p10
                                      replace q10 := eq_true q10
                                      have p12 : 0 ≤ (x20_2 : Int) := of_decide_eq_true (by first | (with_reducible assumption) | assumption)
                                      have q12 : x20_2 < (a0.size : Int) := of_decide_eq_true (by first | (with_reducible assumption) | assumption)
                                      have hx12 := bt_at a0 x20_2
                                      replace p12 := eq_true p12
                                      replace q12 := eq_true q12
                                      have p14 : 0 ≤ (x20_2 : Int) := of_decide_eq_true (by first | (with_reducible assumption) | assumption)
                                      have q14 : x20_2 < (a0.size : Int) := of_decide_eq_true (by first | (with_reducible assumption) | assumption)
                                      have hx14 := bt_at a0 x20_2
                                      replace p14 := eq_true p14
                                      replace q14 := eq_true q14
                                      have p16 : 0 ≤ (x20_2 : Int) := of_decide_eq_true (by first | (with_reducible assumption) | assumption)
                                      have q16 : x20_2 < (a0.size : Int) := of_decide_eq_true (by first | (with_reducible assumption) | assumption)
                                      have hx16 := bt_at a0 x20_2
                                      replace p16 := eq_true p16
                                      replace q16 := eq_true q16
                                      have p21 : 0 ≤ ((ji18) : Int) := of_decide_eq_true (by first | (with_reducible assumption) | assumption)
                                      have q21 : (ji18) < (a0.size : Int) := of_decide_eq_true (by first | (with_reducible assumption) | assumption)
                                      have hx21 := bt_at a0 (ji18)
                                      replace p21 := eq_true p21
                                      replace q21 := eq_true q21
                                      have p23 : 0 ≤ ((ji18) : Int) := of_decide_eq_true (by first | (with_reducible assumption) | assumption)
                                      have q23 : (ji18) < (a0.size : Int) := of_decide_eq_true (by first | (with_reducible assumption) | assumption)
                                      have hx23 := bt_at a0 (ji18)
                                      replace p23 := eq_true p23
                                      replace q23 := eq_true q23
                                      have p25 : 0 ≤ ((ji18) : Int) := of_decide_eq_true (by first | (with_reducible assumption) | assumption)
                                      have q25 : (ji18) < (a0.size : Int) := of_decide_eq_true (by first | (with_reducible assumption) | assumption)
                                      have hx25 := bt_at a0 (ji18)
                                      replace p25 := eq_true p25
                                      replace q25 := eq_true q25
                                      go_wp2
                                      go_ret
                                      exact ⟨by first | rfl | (simp [errW_none, errW_some] <;> rfl) | (simp only [← hji18]; first | rfl | (simp [errW_none, errW_some] <;> rfl)) | (simp [*, errW_none, errW_some] <;> rfl), by repeat (first | (with_reducible first | exact HB.out | apply below_alloc | apply pw_below_drewN | apply below_drew1) | exact HB.out)⟩
                              · rw [if_neg c20] at H
                                exact absurd H (by simp)
                            · rw [if_neg c19] at H
                              exact absurd H (by simp)
                        · rw [if_neg c15] at H
                          have c15b0 : ((bt a0 x20_2) == 7) = false := beq_eq_false_iff_ne.mpr c15
                          have c15b1 : ((bt a0 x20_2) != 7) = true := bne_iff_ne.mpr c15
                          by_cases c28 : (bt a0 x20_2) = 10
                          · rw [if_pos c28] at H
                            have c28b0 : ((bt a0 x20_2) == 10) = true := beq_iff_eq.mpr c28
                            have c28b1 : ((bt a0 x20_2) != 10) = false := bne_eq_false_iff_eq.mpr c28
                            clear c28
                            have H' := Aside0.mk H
                            clear H
                            have p10 : 0 ≤ (x20_2 : Int) := of_decide_eq_true (by first | (with_reducible assumption) | assumption)
                            have q10 : x20_2 < (a0.size : Int) := of_decide_eq_true (by first | (with_reducible assumption) | assumption)
                            have hx10 := bt_at a0 x20_2
                            replace p10 := eq_true p10
                            replace q10 := eq_true q10
                            have p12 : 0 ≤ (x20_2 : Int) := of_decide_eq_true (by first | (with_reducible assumption) | assumption)
                            have q12 : x20_2 < (a0.size : Int) := of_decide_eq_true (by first | (with_reducible assumption) | assumption)
                            have hx12 := bt_at a0 x20_2
                            replace p12 := eq_true p12
                            replace q12 := eq_true q12
                            have p14 : 0 ≤ (x20_2 : Int) := of_decide_eq_true (by first | (with_reducible assumption) | assumption)
                            have q14 : x20_2 < (a0.size : Int) := of_decide_eq_true (by first | (with_reducible assumption) | assumption)
                            have hx14 := bt_at a0 x20_2
                            replace p14 := eq_true p14
                            replace q14 := eq_true q14
                            have p27 : 0 ≤ (x20_2 : Int) := of_decide_eq_true (by first | (with_reducible assumption) | assumption)
                            have q27 : x20_2 < (a0.size : Int) := of_decide_eq_true (by first | (with_reducible assumption) | assumption)
                            have hx27 := bt_at a0 x20_2
                            replace p27 := eq_true p27
                            replace q27 := eq_true q27
                            have p29 : 0 ≤ (x20_2 : Int) := of_decide_eq_true (by first | (with_reducible assumption) | assumption)
                            have q29 : x20_2 < (a0.size : Int) := of_decide_eq_true (by first | (with_reducible assumption) | assumption)
                            have hx29 := bt_at a0 x20_2
                            replace p29 := eq_true p29
                            replace q29 := eq_true q29
                            go_wp2
                            go_roundg k2
                            case measure => have := HJ3.out; have := HK2.out; omega
                            case rel => exact ⟨(wrap64 (x20_2 + 1)), (by first | rfl | (simp; done) | (simp [*]; done)), H', ⟨by have := HJ3.out; have := HK2.out; omega⟩, ⟨by repeat (first | (with_reducible first | exact HB.out | apply below_alloc | apply pw_below_drewN | apply below_drew1) | exact HB.out)⟩⟩
                          · rw [if_neg c28] at H
                            have c28b0 : ((bt a0 x20_2) == 10) = false := beq_eq_false_iff_ne.mpr c28
                            have c28b1 : ((bt a0 x20_2) != 10) = true := bne_iff_ne.mpr c28
                            by_cases c31 : (bt a0 x20_2) = 9
                            · rw [if_pos c31] at H
                              have c31b0 : ((bt a0 x20_2) == 9) = true := beq_iff_eq.mpr c31
                              have c31b1 : ((bt a0 x20_2) != 9) = false := bne_eq_false_iff_eq.mpr c31
                              clear c31
                              have H' := Aside0.mk H
                              clear H
                              have p10 : 0 ≤ (x20_2 : Int) := of_decide_eq_true (by first | (with_reducible assumption) | assumption)
                              have q10 : x20_2 < (a0.size : Int) := of_decide_eq_true (by first | (with_reducible assumption) | assumption)
                              have hx10 := bt_at a0 x20_2
                              replace p10 := eq_true p10
                              replace q10 := eq_true q10
                              have p12 : 0 ≤ (x20_2 : Int) := of_decide_eq_true (by first | (with_reducible assumption) | assumption)
                              have q12 : x20_2 < (a0.size : Int) := of_decide_eq_true (by first | (with_reducible assumption) | assumption)
                              have hx12 := bt_at a0 x20_2
                              replace p12 := eq_true p12
                              replace q12 := eq_true q12
                              have p14 : 0 ≤ (x20_2 : Int) := of_decide_eq_true (by first | (with_reducible assumption) | assumption)
                              have q14 : x20_2 < (a0.size : Int) := of_decide_eq_true (by first | (with_reducible assumption) | assumption)
                              have hx14 := bt_at a0 x20_2
                              replace p14 := eq_true p14
                              replace q14 := eq_true q14
                              have p27 : 0 ≤ (x20_2 : Int) := of_decide_eq_true (by first | (with_reducible assumption) | assumption)
                              have q27 : x20_2 < (a0.size : Int) := of_decide_eq_true (by first | (with_reducible assumption) | assumption)
                              have hx27 := bt_at a0 x20_2
                              replace p27 := eq_true p27
                              replace q27 := eq_true q27
                              have p30 : 0 ≤ (x20_2 : Int) := of_decide_eq_true (by first | (with_reducible assumption) | assumption)
                              have q30 : x20_2 < (a0.size : Int) := of_decide_eq_true (by first | (with_reducible assumption) | assumption)
                              have hx30 := bt_at a0 x20_2
                              replace p30 := eq_true p30
                              replace q30 := eq_true q30
                              have p32 : 0 ≤ (x20_2 : Int) := of_decide_eq_true (by first | (with_reducible assumption) | assumption)
                              have q32 : x20_2 < (a0.size : Int) := of_decide_eq_true (by first | (with_reducible assumption) | assumption)
                              have hx32 := bt_at a0 x20_2
                              replace p32 := eq_true p32
                              replace q32 := eq_true q32
                              go_wp2
                              go_roundg k2
                              case measure => have := HJ3.out; have := HK2.out; omega
                              case rel => exact ⟨(wrap64 (x20_2 + 1)), (by first | rfl | (simp; done) | (simp [*]; done)), H', ⟨by have := HJ3.out; have := HK2.out; omega⟩, ⟨by repeat (first | (with_reducible first | exact HB.out | apply below_alloc | apply pw_below_drewN | apply below_drew1) | exact HB.out)⟩⟩
                            · rw [if_neg c31] at H
                              have c31b0 : ((bt a0 x20_2) == 9) = false := beq_eq_false_iff_ne.mpr c31
                              have c31b1 : ((bt a0 x20_2) != 9) = true := bne_iff_ne.mpr c31
                              obtain rfl := Option.some.inj H
                              have p10 : 0 ≤ (x20_2 : Int) := of_decide_eq_true (by first | (with_reducible assumption) | assumption)
                              have q10 : x20_2 < (a0.size : Int) := of_decide_eq_true (by first | (with_reducible assumption) | assumption)
                              have hx10 := bt_at a0 x20_2
                              replace p10 := eq_true p10
                              replace q10 := eq_true q10
                              have p12 : 0 ≤ (x20_2 : Int) := of_decide_eq_true (by first | (with_reducible assumption) | assumption)
                              have q12 : x20_2 < (a0.size : Int) := of_decide_eq_true (by first | (with_reducible assumption) | assumption)
                              have hx12 := bt_at a0 x20_2
                              replace p12 := eq_true p12
                              replace q12 := eq_true q12
                              have p14 : 0 ≤ (x20_2 : Int) := of_decide_eq_true (by first | (with_reducible assumption) | assumption)
                              have q14 : x20_2 < (a0.size : Int) := of_decide_eq_true (by first | (with_reducible assumption) | assumption)
                              have hx14 := bt_at a0 x20_2
                              replace p14 := eq_true p14
                              replace q14 := eq_true q14
                              have p27 : 0 ≤ (x20_2 : Int) := of_decide_eq_true (by first | (with_reducible assumption) | assumption)
                              have q27 : x20_2 < (a0.size : Int) := of_decide_eq_true (by first | (with_reducible assumption) | assumption)
                              have hx27 := bt_at a0 x20_2
                              replace p27 := eq_true p27
                              replace q27 := eq_true q27
                              have p30 : 0 ≤ (x20_2 : Int) := of_decide_eq_true (by first | (with_reducible assumption) | assumption)
                              have q30 : x20_2 < (a0.size : Int) := of_decide_eq_true (by first | (with_reducible assumption) | assumption)
                              have hx30 := bt_at a0 x20_2
                              replace p30 := eq_true p30
                              replace q30 := eq_true q30
                              go_wp2
                              go_ret
                              exact ⟨by first | rfl | (simp [errW_none, errW_some] <;> rfl) | (simp [*, errW_none, errW_some] <;> rfl), by repeat (first | (with_reducible first | exact HB.out | apply below_alloc | apply pw_below_drewN | apply below_drew1) | exact HB.out)⟩
                      · rw [if_neg c13] at H
                        have c13b0 : decide ((bt a0 x20_2) < 32) = false := decide_eq_false c13
                        clear c13
                        by_cases c34 : (bt a0 x20_2) = 7
                        · rw [if_pos c34] at H
                          have c34b0 : ((bt a0 x20_2) == 7) = true := beq_iff_eq.mpr c34
                          have c34b1 : ((bt a0 x20_2) != 7) = false := bne_eq_false_iff_eq.mpr c34
                          clear c34
                          by_cases c35 : (wrap64 (x20_2 + 1)) = (a0.size : Int)
                          · rw [if_pos c35] at H
                            have c35b0 : ((wrap64 (x20_2 + 1)) == (a0.size : Int)) = true := beq_iff_eq.mpr c35
                            have c35b1 : ((wrap64 (x20_2 + 1)) != (a0.size : Int)) = false := bne_eq_false_iff_eq.mpr c35
                            clear c35
                            obtain rfl := Option.some.inj H
                            have p10 : 0 ≤ (x20_2 : Int) := of_decide_eq_true (by first | (with_reducible assumption) | assumption)
                            have q10 : x20_2 < (a0.size : Int) := of_decide_eq_true (by first | (with_reducible assumption) | assumption)
                            have hx10 := bt_at a0 x20_2
                            replace p10 := eq_true p10
                            replace q10 := eq_true q10
                            have p12 : 0 ≤ (x20_2 : Int) := of_decide_eq_true (by first | (with_reducible assumption) | assumption)
                            have q12 : x20_2 < (a0.size : Int) := of_decide_eq_true (by first | (with_reducible assumption) | assumption)
                            have hx12 := bt_at a0 x20_2
                            replace p12 := eq_true p12
                            replace q12 := eq_true q12
                            have p33 : 0 ≤ (x20_2 : Int) := of_decide_eq_true (by first | (with_reducible assumption) | assumption)
                            have q33 : x20_2 < (a0.size : Int) := of_decide_eq_true (by first | (with_reducible assumption) | assumption)
                            have hx33 := bt_at a0 x20_2
                            replace p33 := eq_true p33
                            replace q33 := eq_true q33
                            go_wp2
                            go_ret
                            exact ⟨by first | rfl | (simp [errW_none, errW_some] <;> rfl) | (simp [*, errW_none, errW_some] <;> rfl), by repeat (first | (with_reducible first | exact HB.out | apply below_alloc | apply pw_below_drewN | apply below_drew1) | exact HB.out)⟩
                          · rw [if_neg c35] at H
                            have c35b0 : ((wrap64 (x20_2 + 1)) == (a0.size : Int)) = false := beq_eq_false_iff_ne.mpr c35
                            have c35b1 : ((wrap64 (x20_2 + 1)) != (a0.size : Int)) = true := bne_iff_ne.mpr c35
                            obtain ⟨ji36, hji36⟩ : ∃ j_ : Int, (wrap64 (x20_2 + 1)) = j_ := ⟨_, rfl⟩
                            replace H : (if 0 ≤ (ji36) then (if (ji36) < (a0.size : Int) then (if (bt a0 (ji36)) = 126 then (laws_FnStrikeTest.l0 k2 a0 a1 (a0.size : Int) ji36) else (if (bt a0 (ji36)) = 42 then (laws_FnStrikeTest.l0 k2 a0 a1 (a0.size : Int) ji36) else (if (bt a0 (ji36)) = 124 then (laws_FnStrikeTest.l0 k2 a0 a1 (a0.size : Int) ji36) else (some true)))) else (none)) else (none)) = some r := by first | (rw [hji36] at H; exact H) | (simp only [hji36] at H ⊢; exact H)
                            (try rw [hji36] at c35b0)
                            (try rw [hji36] at c35b1)
                            have hji36w : (IntKind.i64.wrap (x20_2 + 1)) = ji36 := (i64_w _).trans hji36
                            by_cases c37 : 0 ≤ (ji36)
                            · rw [if_pos c37] at H
                              have c37b0 : decide (0 ≤ (ji36)) = true := decide_eq_true c37
                              clear c37
                              by_cases c38 : (ji36) < (a0.size : Int)
                              · rw [if_pos c38] at H
                                have c38b0 : decide ((ji36) < (a0.size : Int)) = true := decide_eq_true c38
                                clear c38
                                by_cases c40 : (bt a0 (ji36)) = 126
                                · rw [if_pos c40] at H
                                  have c40b0 : ((bt a0 (ji36)) == 126) = true := beq_iff_eq.mpr c40
                                  have c40b1 : ((bt a0 (ji36)) != 126) = false := bne_eq_false_iff_eq.mpr c40
                                  clear c40
                                  have H' := Aside0.mk H
                                  clear H
                                  have p10 : 0 ≤ (x20_2 : Int) := of_decide_eq_true (by first | (with_reducible assumption) | assumption)
                                  have q10 : x20_2 < (a0.size : Int) := of_decide_eq_true (by first | (with_reducible assumption) | assumption)
                                  have hx10 := bt_at a0 x20_2
                                  replace p10 := eq_true p10
                                  replace q10 := eq_true q10
                                  have p12 : 0 ≤ (x20_2 : Int) := of_decide_eq_true (by first | (with_reducible assumption) | assumption)
                                  have q12 : x20_2 < (a0.size : Int) := of_decide_eq_true (by first | (with_reducible assumption) | assumption)
                                  have hx12 := bt_at a0 x20_2
                                  replace p12 := eq_true p12
                                  replace q12 := eq_true q12
                                  have p33 : 0 ≤ (x20_2 : Int) := of_decide_eq_true (by first | (with_reducible assumption) | assumption)
                                  have q33 : x20_2 < (a0.size : Int) := of_decide_eq_true (by first | (with_reducible assumption) | assumption)
                                  have hx33 := bt_at a0 x20_2
                                  replace p33 := eq_true p33
                                  replace q33 := eq_true q33
                                  have p39 : 0 ≤ ((ji36) : Int) := of_decide_eq_true (by first | (with_reducible assumption) | assumption)
                                  have q39 : (ji36) < (a0.size : Int) := of_decide_eq_true (by first | (with_reducible assumption) | assumption)
                                  have hx39 := bt_at a0 (ji36)
                                  replace p39 := eq_true p39
                                  replace q39 := eq_true q39
                                  go_wp2
                                  go_roundg k2
                                  case measure => have := HJ3.out; have := HK2.out; omega
                                  case rel => exact ⟨(ji36), (by first | rfl | (simp; done) | (simp only [← hji36] <;> (first | rfl | simp)) | (simp [*]; done)), H', ⟨by have := HJ3.out; have := HK2.out; omega⟩, ⟨by repeat (first | (with_reducible first | exact HB.out | apply below_alloc | apply pw_below_drewN | apply below_drew1) | exact HB.out)⟩⟩
                                · rw [if_neg c40] at H
                                  have c40b0 : ((bt a0 (ji36)) == 126) = false := beq_eq_false_iff_ne.mpr c40
                                  have c40b1 : ((bt a0 (ji36)) != 126) = true := bne_iff_ne.mpr c40
                                  by_cases c42 : (bt a0 (ji36)) = 42
                                  · rw [if_pos c42] at H
                                    have c42b0 : ((bt a0 (ji36)) == 42) = true := beq_iff_eq.mpr c42
                                    have c42b1 : ((bt a0 (ji36)) != 42) = false := bne_eq_false_iff_eq.mpr c42
                                    clear c42
                                    have H' := Aside0.mk H
                                    clear H
                                    have p10 : 0 ≤ (x20_2 : Int) := of_decide_eq_true (by first | (with_reducible assumption) | assumption)
                                    have q10 : x20_2 < (a0.size : Int) := of_decide_eq_true (by first | (with_reducible assumption) | assumption)
                                    have hx10 := bt_at a0 x20_2
                                    replace p10 := eq_true p10
                                    replace q10 := eq_true q10
                                    have p12 : 0 ≤ (x20_2 : Int) := of_decide_eq_true (by first | (with_reducible assumption) | assumption)
                                    have q12 : x20_2 < (a0.size : Int) := of_decide_eq_true (by first | (with_reducible assumption) | assumption)
                                    have hx12 := bt_at a0 x20_2
                                    replace p12 := eq_true p12
                                    replace q12 := eq_true q12
                                    have p33 : 0 ≤ (x20_2 : Int) := of_decide_eq_true (by first | (with_reducible assumption) | assumption)
                                    have q33 : x20_2 < (a0.size : Int) := of_decide_eq_true (by first | (with_reducible assumption) | assumption)
                                    have hx33 := bt_at a0 x20_2
                                    replace p33 := eq_true p33
                                    replace q33 := eq_true q33
                                    have p39 : 0 ≤ ((ji36) : Int) := of_decide_eq_true (by first | (with_reducible assumption) | assumption)
                                    have q39 : (ji36) < (a0.size : Int) := of_decide_eq_true (by first | (with_reducible assumption) | assumption)
                                    have hx39 := bt_at a0 (ji36)
                                    replace p39 := eq_true p39
                                    replace q39 := eq_true q39
                                    have p41 : 0 ≤ ((ji36) : Int) := of_decide_eq_true (by first | (with_reducible assumption) | assumption)
                                    have q41 : (ji36) < (a0.size : Int) := of_decide_eq_true (by first | (with_reducible assumption) | assumption)
                                    have hx41 := bt_at a0 (ji36)
                                    replace p41 := eq_true p41
                                    replace q41 := eq_true q41
                                    go_wp2
                                    go_roundg k2
                                    case measure => have := HJ3.out; have := HK2.out; omega
                                    case rel => exact ⟨(ji36), (by first | rfl | (simp; done) | (simp only [← hji36] <;> (first | rfl | simp)) | (simp [*]; done)), H', ⟨by have := HJ3.out; have := HK2.out; omega⟩, ⟨by repeat (first | (with_reducible first | exact HB.out | apply below_alloc | apply pw_below_drewN | apply below_drew1) | exact HB.out)⟩⟩
                                  · rw [if_neg c42] at H
                                    have c42b0 : ((bt a0 (ji36)) == 42) = false := beq_eq_false_iff_ne.mpr c42
                                    have c42b1 : ((bt a0 (ji36)) != 42) = true := bne_iff_ne.mpr c42
                                    by_cases c44 : (bt a0 (ji36)) = 124
                                    · rw [if_pos c44] at H
                                      have c44b0 : ((bt a0 (ji36)) == 124) = true := beq_iff_eq.mpr c44
                                      have c44b1 : ((bt a0 (ji36)) != 124) = false := bne_eq_false_iff_eq.mpr c44
                                      clear c44
                                      have H' := Aside0.mk H
                                      clear H
                                      have p10 : 0 ≤ (x20_2 : Int) := of_decide_eq_true (by first | (with_reducible assumption) | assumption)
                                      have q10 : x20_2 < (a0.size : Int) := of_decide_eq_true (by first | (with_reducible assumption) | assumption)
                                      have hx10 := bt_at a0 x20_2
                                      replace p10 := eq_true p10
                                      replace q10 := eq_true q10
                                      have p12 : 0 ≤ (x20_2 : Int) := of_decide_eq_true (by first | (with_reducible assumption) | assumption)
                                      have q12 : x20_2 < (a0.size : Int) := of_decide_eq_true (by first | (with_reducible assumption) | assumption)
                                      have hx12 := bt_at a0 x20_2
                                      replace p12 := eq_true p12
                                      replace q12 := eq_true q12
                                      have p33 : 0 ≤ (x20_2 : Int) := of_decide_eq_true (by first | (with_reducible assumption) | assumption)
                                      have q33 : x20_2 < (a0.size : Int) := of_decide_eq_true (by first | (with_reducible assumption) | assumption)
                                      have hx33 := bt_at a0 x20_2
                                      replace p33 := eq_true p33
                                      replace q33 := eq_true q33
                                      have p39 : 0 ≤ ((ji36) : Int) := of_decide_eq_true (by first | (with_reducible assumption) | assumption)
                                      have q39 : (ji36) < (a0.size : Int) := of_decide_eq_true (by first | (with_reducible assumption) | assumption)
                                      have hx39 := bt_at a0 (ji36)
                                      replace p39 := eq_true p39
                                      replace q39 := eq_true q39
                                      have p41 : 0 ≤ ((ji36) : Int) := of_decide_eq_true (by first | (with_reducible assumption) | assumption)
                                      have q41 : (ji36) < (a0.size : Int) := of_decide_eq_true (by first | (with_reducible assumption) | assumption)
                                      have hx41 := bt_at a0 (ji36)
                                      replace p41 := eq_true p41
                                      replace q41 := eq_true q41
                                      have p43 : 0 ≤ ((ji36) : Int) := of_decide_eq_true (by first | (with_reducible assumption) | assumption)
                                      have q43 : (ji36) < (a0.size : Int) := of_decide_eq_true (by first | (with_reducible assumption) | assumption)
                                      have hx43 := bt_at a0 (ji36)
                                      replace p43 := eq_true p43
                                      replace q43 := eq_true q43
                                      go_wp2
                                      go_roundg k2
                                      case measure => have := HJ3.out; have := HK2.out; omega
                                      case rel => exact ⟨(ji36), (by first | rfl | (simp; done) | (simp only [← hji36] <;> (first | rfl | simp)) | (simp [*]; done)), H', ⟨by have := HJ3.out; have := HK2.out; omega⟩, ⟨by repeat (first | (with_reducible first | exact HB.out | apply below_alloc | apply pw_below_drewN | apply below_drew1) | exact HB.out)⟩⟩
                                    · rw [if_neg c44] at H
                                      have c44b0 : ((bt a0 (ji36)) == 124) = false := beq_eq_false_iff_ne.mpr c44
                                      have c44b1 : ((bt a0 (ji36)) != 124) = true := bne_iff_ne.mpr c44
                                      obtain rfl := Option.some.inj H
                                      have p10 : 0 ≤ (x20_2 : Int) := of_decide_eq_true (by first | (with_reducible assumption) | assumption)
                                      have q10 : x20_2 < (a0.size : Int) := of_decide_eq_true (by first | (with_reducible assumption) | assumption)
                                      have hx10 := bt_at a0 x20_2
                                      replace p10 := eq_true p10
                                      replace q10 := eq_true q10
                                      have p12 : 0 ≤ (x20_2 : Int) := of_decide_eq_true (by first | (with_reducible assumption) | assumption)
                                      have q12 : x20_2 < (a0.size : Int) := of_decide_eq_true (by first | (with_reducible assumption) | assumption)
                                      have hx12 := bt_at a0 x20_2
                                      replace p12 := eq_true p12
                                      replace q12 := eq_true q12
                                      have p33 : 0 ≤ (x20_2 : Int) := of_decide_eq_true (by first | (with_reducible assumption) | assumption)
                                      have q33 : x20_2 < (a0.size : Int) := of_decide_eq_true (by first | (with_reducible assumption) | assumption)
                                      have hx33 := bt_at a0 x20_2
                                      replace p33 := eq_true p33
                                      replace q33 := eq_true q33
                                      have p39 : 0 ≤ ((ji36) : Int) := of_decide_eq_true (by first | (with_reducible assumption) | assumption)
                                      have q39 : (ji36) < (a0.size : Int) := of_decide_eq_true (by first | (with_reducible assumption) | assumption)
                                      have hx39 := bt_at a0 (ji36)
                                      replace p39 := eq_true p39
                                      replace q39 := eq_true q39
                                      have p41 : 0 ≤ ((ji36) : Int) := of_decide_eq_true (by first | (with_reducible assumption) | assumption)
                                      have q41 : (ji36) < (a0.size : Int) := of_decide_eq_true (by first | (with_reducible assumption) | assumption)
                                      have hx41 := bt_at a0 (ji36)
                                      replace p41 := eq_true p41
                                      replace q41 := eq_true q41
                                      have p43 : 0 ≤ ((ji36) : Int) := of_decide_eq_true (by first | (with_reducible assumption) | assumption)
                                      have q43 : (ji36) < (a0.size : Int) := of_decide_eq_true (by first | (with_reducible assumption) | assumption)
                                      have hx43 := bt_at a0 (ji36)
                                      replace p43 := eq_true p43
                                      replace q43 := eq_true q43
                                      go_wp2
                                      go_ret
                                      exact ⟨by first | rfl | (simp [errW_none, errW_some] <;> rfl) | (simp only [← hji36]; first | rfl | (simp [errW_none, errW_some] <;> rfl)) | (simp [*, errW_none, errW_some] <;> rfl), by repeat (first | (with_reducible first | exact HB.out | apply below_alloc | apply pw_below_drewN | apply below_drew1) | exact HB.out)⟩
                              · rw [if_neg c38] at H
                                exact absurd H (by simp)
                            · rw [if_neg c37] at H
                              exact absurd H (by simp)
                        · rw [if_neg c34] at H
                          have c34b0 : ((bt a0 x20_2) == 7) = false := beq_eq_false_iff_ne.mpr c34
                          have c34b1 : ((bt a0 x20_2) != 7) = true := bne_iff_ne.mpr c34
                          have H' := Aside0.mk H
                          clear H
                          have p10 : 0 ≤ (x20_2 : Int) := of_decide_eq_true (by first | (with_reducible assumption) | assumption)
                          have q10 : x20_2 < (a0.size : Int) := of_decide_eq_true (by first | (with_reducible assumption) | assumption)
                          have hx10 := bt_at a0 x20_2
                          replace p10 := eq_true p10
                          replace q10 := eq_true q10
                          have p12 : 0 ≤ (x20_2 : Int) := of_decide_eq_true (by first | (with_reducible assumption) | assumption)
                          have q12 : x20_2 < (a0.size : Int) := of_decide_eq_true (by first | (with_reducible assumption) | assumption)
                          have hx12 := bt_at a0 x20_2
                          replace p12 := eq_true p12
                          replace q12 := eq_true q12
                          have p33 : 0 ≤ (x20_2 : Int) := of_decide_eq_true (by first | (with_reducible assumption) | assumption)
                          have q33 : x20_2 < (a0.size : Int) := of_decide_eq_true (by first | (with_reducible assumption) | assumption)
                          have hx33 := bt_at a0 x20_2
                          replace p33 := eq_true p33
                          replace q33 := eq_true q33
                          go_wp2
                          go_roundg k2
                          case measure => have := HJ3.out; have := HK2.out; omega
                          case rel => exact ⟨(wrap64 (x20_2 + 1)), (by first | rfl | (simp; done) | (simp [*]; done)), H', ⟨by have := HJ3.out; have := HK2.out; omega⟩, ⟨by repeat (first | (with_reducible first | exact HB.out | apply below_alloc | apply pw_below_drewN | apply below_drew1) | exact HB.out)⟩⟩
                  · rw [if_neg c9] at H
                    exact absurd H (by simp)
                · rw [if_neg c8] at H
                  exact absurd H (by simp)
              · rw [if_neg c7] at H
                have c7b0 : decide (x20_2 < (a0.size : Int)) = false := decide_eq_false c7
                clear c7
                have HC45 := Aside0.mk H
                clear H
                go_upto_region 12 with (fail)
                go_cut [117] (fun v117 wc => ∃ (kq : Nat) (x117_44 : Bool), v117 = .bool x117_44 ∧ Aside0 (laws_FnStrikeTest.j2 kq a0 a1 (-1) x117_44 = some r) ∧ Aside0 (kq ≤ k2) ∧ Aside0 (Below w.heap.size w wc))
                case first =>
                  have H := HC45.out
                  clear HC45
                  by_cases c46 : 0 ≤ a1
                  · rw [if_pos c46] at H
                    have c46b0 : decide (0 ≤ a1) = true := decide_eq_true c46
                    clear c46
                    (first | rw [c46b0] | (simp only [i64_w, i32_w]; rw [c46b0]) | skip)
                    by_cases c47 : a1 < (a0.size : Int)
                    · rw [if_pos c47] at H
                      have c47b0 : decide (a1 < (a0.size : Int)) = true := decide_eq_true c47
                      clear c47
                      by_cases c49 : (bt a0 a1) = 126
                      · rw [if_pos c49] at H
                        have c49b0 : ((bt a0 a1) == 126) = true := beq_iff_eq.mpr c49
                        have c49b1 : ((bt a0 a1) != 126) = false := bne_eq_false_iff_eq.mpr c49
                        clear c49
                        by_cases c50 : (wrap64 (a1 + 1)) < (a0.size : Int)
                        · rw [if_pos c50] at H
                          have c50b0 : decide ((wrap64 (a1 + 1)) < (a0.size : Int)) = true := decide_eq_true c50
                          clear c50
                          obtain ⟨ji51, hji51⟩ : ∃ j_ : Int, (wrap64 (a1 + 1)) = j_ := ⟨_, rfl⟩
                          replace H : (if 0 ≤ (ji51) then (if (bt a0 (ji51)) = 32 then (laws_FnStrikeTest.j2 k2 a0 a1 (-1) false) else (if (bt a0 (ji51)) = 10 then (laws_FnStrikeTest.j2 k2 a0 a1 (-1) false) else (laws_FnStrikeTest.j2 k2 a0 a1 (-1) ((bt a0 (ji51)) != 9)))) else (none)) = some r := by first | (rw [hji51] at H; exact H) | (simp only [hji51] at H ⊢; exact H)
                          (try rw [hji51] at c50b0)
                          have hji51w : (IntKind.i64.wrap (a1 + 1)) = ji51 := (i64_w _).trans hji51
                          by_cases c52 : 0 ≤ (ji51)
                          · rw [if_pos c52] at H
                            have c52b0 : decide (0 ≤ (ji51)) = true := decide_eq_true c52
                            clear c52
                            by_cases c54 : (bt a0 (ji51)) = 32
                            · rw [if_pos c54] at H
                              have c54b0 : ((bt a0 (ji51)) == 32) = true := beq_iff_eq.mpr c54
                              have c54b1 : ((bt a0 (ji51)) != 32) = false := bne_eq_false_iff_eq.mpr c54
                              clear c54
                              have H' := Aside0.mk H
                              clear H
                              have p48 : 0 ≤ (a1 : Int) := of_decide_eq_true (by first | (with_reducible assumption) | assumption)
                              have q48 : a1 < (a0.size : Int) := of_decide_eq_true (by first | (with_reducible assumption) | assumption)
                              have hx48 := bt_at a0 a1
                              replace p48 := eq_true p48
                              replace q48 := eq_true q48
                              have p53 : 0 ≤ ((ji51) : Int) := of_decide_eq_true (by first | (with_reducible assumption) | assumption)
                              have q53 : (ji51) < (a0.size : Int) := of_decide_eq_true (by first | (with_reducible assumption) | assumption)
                              have hx53 := bt_at a0 (ji51)
                              replace p53 := eq_true p53
                              replace q53 := eq_true q53
                              go_wp2
                              go_meet
                              case rel => exact ⟨_, (false), (by first | rfl | (simp; done) | (simp [*]; done)), H', ⟨by have := HJ3.out; have := HK2.out; first | omega | exact Nat.le_refl _⟩, ⟨by repeat (first | (with_reducible first | exact HB.out | apply below_alloc | apply pw_below_drewN | apply below_drew1) | exact HB.out)⟩⟩
                            · rw [if_neg c54] at H
                              have c54b0 : ((bt a0 (ji51)) == 32) = false := beq_eq_false_iff_ne.mpr c54
                              have c54b1 : ((bt a0 (ji51)) != 32) = true := bne_iff_ne.mpr c54
                              by_cases c56 : (bt a0 (ji51)) = 10
                              · rw [if_pos c56] at H
                                have c56b0 : ((bt a0 (ji51)) == 10) = true := beq_iff_eq.mpr c56
                                have c56b1 : ((bt a0 (ji51)) != 10) = false := bne_eq_false_iff_eq.mpr c56
                                clear c56
                                have H' := Aside0.mk H
                                clear H
                                have p48 : 0 ≤ (a1 : Int) := of_decide_eq_true (by first | (with_reducible assumption) | assumption)
                                have q48 : a1 < (a0.size : Int) := of_decide_eq_true (by first | (with_reducible assumption) | assumption)
                                have hx48 := bt_at a0 a1
                                replace p48 := eq_true p48
                                replace q48 := eq_true q48
                                have p53 : 0 ≤ ((ji51) : Int) := of_decide_eq_true (by first | (with_reducible assumption) | assumption)
                                have q53 : (ji51) < (a0.size : Int) := of_decide_eq_true (by first | (with_reducible assumption) | assumption)
                                have hx53 := bt_at a0 (ji51)
                                replace p53 := eq_true p53
                                replace q53 := eq_true q53
                                have p55 : 0 ≤ ((ji51) : Int) := of_decide_eq_true (by first | (with_reducible assumption) | assumption)
                                have q55 : (ji51) < (a0.size : Int) := of_decide_eq_true (by first | (with_reducible assumption) | assumption)
                                have hx55 := bt_at a0 (ji51)
                                replace p55 := eq_true p55
                                replace q55 := eq_true q55
                                go_wp2
                                go_meet
                                case rel => exact ⟨_, (false), (by first | rfl | (simp; done) | (simp [*]; done)), H', ⟨by have := HJ3.out; have := HK2.out; first | omega | exact Nat.le_refl _⟩, ⟨by repeat (first | (with_reducible first | exact HB.out | apply below_alloc | apply pw_below_drewN | apply below_drew1) | exact HB.out)⟩⟩
                              · rw [if_neg c56] at H
                                have c56b0 : ((bt a0 (ji51)) == 10) = false := beq_eq_false_iff_ne.mpr c56
                                have c56b1 : ((bt a0 (ji51)) != 10) = true := bne_iff_ne.mpr c56
                                have H' := Aside0.mk H
                                clear H
                                have p48 : 0 ≤ (a1 : Int) := of_decide_eq_true (by first | (with_reducible assumption) | assumption)
                                have q48 : a1 < (a0.size : Int) := of_decide_eq_true (by first | (with_reducible assumption) | assumption)
                                have hx48 := bt_at a0 a1
                                replace p48 := eq_true p48
                                replace q48 := eq_true q48
                                have p53 : 0 ≤ ((ji51) : Int) := of_decide_eq_true (by first | (with_reducible assumption) | assumption)
                                have q53 : (ji51) < (a0.size : Int) := of_decide_eq_true (by first | (with_reducible assumption) | assumption)
                                have hx53 := bt_at a0 (ji51)
                                replace p53 := eq_true p53
                                replace q53 := eq_true q53
                                have p55 : 0 ≤ ((ji51) : Int) := of_decide_eq_true (by first | (with_reducible assumption) | assumption)
                                have q55 : (ji51) < (a0.size : Int) := of_decide_eq_true (by first | (with_reducible assumption) | assumption)
                                have hx55 := bt_at a0 (ji51)
                                replace p55 := eq_true p55
                                replace q55 := eq_true q55
                                have p57 : 0 ≤ ((ji51) : Int) := of_decide_eq_true (by first | (with_reducible assumption) | assumption)
                                have q57 : (ji51) < (a0.size : Int) := of_decide_eq_true (by first | (with_reducible assumption) | assumption)
                                have hx57 := bt_at a0 (ji51)
                                replace p57 := eq_true p57
                                replace q57 := eq_true q57
                                go_wp2
                                go_meet
                                case rel => exact ⟨_, (((bt a0 (ji51)) != 9)), (by first | rfl | (simp; done) | (simp only [← hji51] <;> (first | rfl | simp)) | (simp [*]; done)), H', ⟨by have := HJ3.out; have := HK2.out; first | omega | exact Nat.le_refl _⟩, ⟨by repeat (first | (with_reducible first | exact HB.out | apply below_alloc | apply pw_below_drewN | apply below_drew1) | exact HB.out)⟩⟩
                          · rw [if_neg c52] at H
                            exact absurd H (by simp)
                        · rw [if_neg c50] at H
                          have c50b0 : decide ((wrap64 (a1 + 1)) < (a0.size : Int)) = false := decide_eq_false c50
                          clear c50
                          have H' := Aside0.mk H
                          clear H
                          have p48 : 0 ≤ (a1 : Int) := of_decide_eq_true (by first | (with_reducible assumption) | assumption)
                          have q48 : a1 < (a0.size : Int) := of_decide_eq_true (by first | (with_reducible assumption) | assumption)
                          have hx48 := bt_at a0 a1
                          replace p48 := eq_true p48
                          replace q48 := eq_true q48
                          go_wp2
                          go_meet
                          case rel => exact ⟨_, (false), (by first | rfl | (simp; done) | (simp [*]; done)), H', ⟨by have := HJ3.out; have := HK2.out; first | omega | exact Nat.le_refl _⟩, ⟨by repeat (first | (with_reducible first | exact HB.out | apply below_alloc | apply pw_below_drewN | apply below_drew1) | exact HB.out)⟩⟩
                      · rw [if_neg c49] at H
                        have c49b0 : ((bt a0 a1) == 126) = false := beq_eq_false_iff_ne.mpr c49
                        have c49b1 : ((bt a0 a1) != 126) = true := bne_iff_ne.mpr c49
                        have H' := Aside0.mk H
                        clear H
                        have p48 : 0 ≤ (a1 : Int) := of_decide_eq_true (by first | (with_reducible assumption) | assumption)
                        have q48 : a1 < (a0.size : Int) := of_decide_eq_true (by first | (with_reducible assumption) | assumption)
                        have hx48 := bt_at a0 a1
                        replace p48 := eq_true p48
                        replace q48 := eq_true q48
                        go_wp2
                        go_meet
                        case rel => exact ⟨_, (false), (by first | rfl | (simp; done) | (simp [*]; done)), H', ⟨by have := HJ3.out; have := HK2.out; first | omega | exact Nat.le_refl _⟩, ⟨by repeat (first | (with_reducible first | exact HB.out | apply below_alloc | apply pw_below_drewN | apply below_drew1) | exact HB.out)⟩⟩
                    · rw [if_neg c47] at H
                      exact absurd H (by simp)
                  · rw [if_neg c46] at H
                    exact absurd H (by simp)
                case rest =>
                  clear HC45
                  try clear c1
                  try clear p1
                  try clear q1
                  try clear hx1
                  try clear c2
                  try clear p2
                  try clear q2
                  try clear hx2
                  try clear c3
                  try clear p3
                  try clear q3
                  try clear hx3
                  try clear c4
                  try clear p4
                  try clear q4
                  try clear hx4
                  try clear c5
                  try clear p5
                  try clear q5
                  try clear hx5
                  try clear p6
                  try clear c7
                  try clear c7b0
                  try clear c8
                  try clear c9
                  try clear p10
                  try clear q10
                  try clear hx10
                  try clear p12
                  try clear q12
                  try clear hx12
                  try clear c13
                  try clear c13b0
                  try clear p14
                  try clear q14
                  try clear hx14
                  try clear c15
                  try clear c15b0
                  try clear c15b1
                  try clear p16
                  try clear q16
                  try clear hx16
                  try clear c19
                  try clear c20
                  try clear p21
                  try clear q21
                  try clear hx21
                  try clear p23
                  try clear q23
                  try clear hx23
                  try clear c24
                  try clear c24b0
                  try clear c24b1
                  try clear p25
                  try clear q25
                  try clear hx25
                  try clear c26
                  try clear c26b0
                  try clear c26b1
                  try clear p27
                  try clear q27
                  try clear hx27
                  try clear c28
                  try clear c28b0
                  try clear c28b1
                  try clear p29
                  try clear q29
                  try clear hx29
                  try clear p30
                  try clear q30
                  try clear hx30
                  try clear c31
                  try clear c31b0
                  try clear c31b1
                  try clear p32
                  try clear q32
                  try clear hx32
                  try clear p33
                  try clear q33
                  try clear hx33
                  try clear c34
                  try clear c34b0
                  try clear c34b1
                  try clear c35
                  try clear c35b0
                  try clear c35b1
                  try clear c37
                  try clear c37b0
                  try clear c38
                  try clear c38b0
                  try clear p39
                  try clear q39
                  try clear hx39
                  try clear c40
                  try clear c40b0
                  try clear c40b1
                  try clear p41
                  try clear q41
                  try clear hx41
                  try clear c42
                  try clear c42b0
                  try clear c42b1
                  try clear p43
                  try clear q43
                  try clear hx43
                  try clear c44
                  try clear c44b0
                  try clear c44b1
                  try clear c46
                  try clear c46b0
                  try clear c47
                  try clear c47b0
                  try clear p48
                  try clear q48
                  try clear hx48
                  try clear c49
                  try clear c49b0
                  try clear c49b1
                  try clear c50
                  try clear c50b0
                  try clear c52
                  try clear c52b0
                  try clear p53
                  try clear q53
                  try clear hx53
                  try clear c54
                  try clear c54b0
                  try clear c54b1
                  try clear p55
                  try clear q55
                  try clear hx55
                  try clear c56
                  try clear c56b0
                  try clear c56b1
                  try clear p57
                  try clear q57
                  try clear hx57
                  try clear p10
                  try clear p12
                  try clear p14
                  try clear p16
                  try clear p21
                  try clear p23
                  try clear p25
                  try clear p27
                  try clear p29
                  try clear p30
                  try clear p32
                  try clear p33
                  try clear p39
                  try clear p41
                  try clear p43
                  try clear p48
                  try clear p53
                  try clear p55
                  try clear p57
                  try clear q10
                  try clear q12
                  try clear q14
                  try clear q16
                  try clear q21
                  try clear q23
                  try clear q25
                  try clear q27
                  try clear q29
                  try clear q30
                  try clear q32
                  try clear q33
                  try clear q39
                  try clear q41
                  try clear q43
                  try clear q48
                  try clear q53
                  try clear q55
                  try clear q57
                  obtain ⟨kq, x117_44, rfl, HA, HJ44, HB⟩ := hcut
                  cases kq with
                  | zero => exact absurd HA.out (by simp [laws_FnStrikeTest.j2])
                  | succ kj44 =>
                    have H := HA.out
                    clear HA
                    simp only [laws_FnStrikeTest.j2] at H
                    by_cases c58 : x117_44 = true
                    · subst c58
                      have H1 : ((impl_StrikeTest.f kj44 a0 a1).bind fun t101 => (if t101 = 1 then ((impl_StrikeTest.f kj44 (⟨#[7, 126, 97]⟩ : ByteArray) 1).bind fun t102 => (some (t102 == 1))) else (some false))) = some r := by rw [if_pos rfl] at H; exact H
                      clear H
                      have H := H1
                      clear H1
                      replace H := Option.bind_eq_some_iff.mp H
                      obtain ⟨t101, A590, H⟩ := H
                      replace H : (if t101 = 1 then ((impl_StrikeTest.f kj44 (⟨#[7, 126, 97]⟩ : ByteArray) 1).bind fun t102 => (some (t102 == 1))) else (some false)) = some r := H
                      have A59 := Aside0.mk A590
                      clear A590
                      by_cases c60 : t101 = 1
                      · rw [if_pos c60] at H
                        have c60b0 : (t101 == 1) = true := beq_iff_eq.mpr c60
                        have c60b1 : (t101 != 1) = false := bne_eq_false_iff_eq.mpr c60
                        clear c60
                        replace H := Option.bind_eq_some_iff.mp H
                        obtain ⟨t102, A610, H⟩ := H
                        replace H : (some (t102 == 1)) = some r := H
                        have A61 := Aside0.mk A610
                        clear A610
                        obtain rfl := Option.some.inj H
                        go_wp2_with (first | ((with_reducible refine gate_callee (f := 9) rfl ?_); refine goesL_ (some 120) rfl rfl Tryd.func9 (by kernel_rfl) rfl #[.string a0, .int .i64 a1] rfl (by (try simp only [List.map_toArray, List.map_cons, List.map_nil]); first | done | rfl | (simp only [List.length_drop, List.length_take]; rfl)) ?_; (with_reducible refine (impl_StrikeTest.calls kj44 a0 a1 t101 _ A59.out).mono ?_); rintro e w62 ⟨rfl, hb⟩; refine ⟨_, rfl, ?_⟩; have n0_ := Aside0.mk (below_step (by repeat (first | (with_reducible first | exact HB.out | apply below_alloc | apply pw_below_drewN | apply below_drew1) | exact HB.out)) hb); clear HB; have HB := n0_; clear n0_; (try clear hb); (try clear hb2); (try clear hk); (try clear hi)) | (go_at_call 9; (with_reducible refine (impl_StrikeTest.calls kj44 (⟨#[7, 126, 97]⟩ : ByteArray) 1 t102 _ A61.out).mono ?_); rintro e w63 ⟨rfl, hb⟩; have n0_ := Aside0.mk (below_step (by repeat (first | (with_reducible first | exact HB.out | apply below_alloc | apply pw_below_drewN | apply below_drew1) | exact HB.out)) hb); clear HB; have HB := n0_; clear n0_; (try clear hb); (try clear hb2); (try clear hk); (try clear hi)))
                        go_ret
                        exact ⟨by first | rfl | (simp [errW_none, errW_some] <;> rfl) | (simp [*, errW_none, errW_some] <;> rfl), by repeat (first | (with_reducible first | exact HB.out | apply below_alloc | apply pw_below_drewN | apply below_drew1) | exact HB.out)⟩
                      · rw [if_neg c60] at H
                        have c60b0 : (t101 == 1) = false := beq_eq_false_iff_ne.mpr c60
                        have c60b1 : (t101 != 1) = true := bne_iff_ne.mpr c60
                        obtain rfl := Option.some.inj H
                        go_wp2_with (first | ((with_reducible refine gate_callee (f := 9) rfl ?_); refine goesL_ (some 120) rfl rfl Tryd.func9 (by kernel_rfl) rfl #[.string a0, .int .i64 a1] rfl (by (try simp only [List.map_toArray, List.map_cons, List.map_nil]); first | done | rfl | (simp only [List.length_drop, List.length_take]; rfl)) ?_; (with_reducible refine (impl_StrikeTest.calls kj44 a0 a1 t101 _ A59.out).mono ?_); rintro e w64 ⟨rfl, hb⟩; refine ⟨_, rfl, ?_⟩; have n0_ := Aside0.mk (below_step (by repeat (first | (with_reducible first | exact HB.out | apply below_alloc | apply pw_below_drewN | apply below_drew1) | exact HB.out)) hb); clear HB; have HB := n0_; clear n0_; (try clear hb); (try clear hb2); (try clear hk); (try clear hi)))
                        go_ret
                        exact ⟨by first | rfl | (simp [errW_none, errW_some] <;> rfl) | (simp [*, errW_none, errW_some] <;> rfl), by repeat (first | (with_reducible first | exact HB.out | apply below_alloc | apply pw_below_drewN | apply below_drew1) | exact HB.out)⟩
                    · replace c58 := Bool.eq_false_iff.mpr c58
                      subst c58
                      have H1 : ((impl_StrikeTest.f kj44 a0 a1).bind fun t103 => (if t103 = (-1) then ((impl_StrikeTest.f kj44 (⟨#[7, 126, 97]⟩ : ByteArray) 1).bind fun t104 => (some (t104 == 1))) else (some false))) = some r := by rw [if_neg (show ¬ (false = true) by decide)] at H; exact H
                      clear H
                      have H := H1
                      clear H1
                      replace H := Option.bind_eq_some_iff.mp H
                      obtain ⟨t103, A650, H⟩ := H
                      replace H : (if t103 = (-1) then ((impl_StrikeTest.f kj44 (⟨#[7, 126, 97]⟩ : ByteArray) 1).bind fun t104 => (some (t104 == 1))) else (some false)) = some r := H
                      have A65 := Aside0.mk A650
                      clear A650
                      by_cases c66 : t103 = (-1)
                      · rw [if_pos c66] at H
                        have c66b0 : (t103 == (-1)) = true := beq_iff_eq.mpr c66
                        have c66b1 : (t103 != (-1)) = false := bne_eq_false_iff_eq.mpr c66
                        clear c66
                        replace H := Option.bind_eq_some_iff.mp H
                        obtain ⟨t104, A670, H⟩ := H
                        replace H : (some (t104 == 1)) = some r := H
                        have A67 := Aside0.mk A670
                        clear A670
                        obtain rfl := Option.some.inj H
                        go_wp2_with (first | ((with_reducible refine gate_callee (f := 9) rfl ?_); refine goesL_ (some 120) rfl rfl Tryd.func9 (by kernel_rfl) rfl #[.string a0, .int .i64 a1] rfl (by (try simp only [List.map_toArray, List.map_cons, List.map_nil]); first | done | rfl | (simp only [List.length_drop, List.length_take]; rfl)) ?_; (with_reducible refine (impl_StrikeTest.calls kj44 a0 a1 t103 _ A65.out).mono ?_); rintro e w68 ⟨rfl, hb⟩; refine ⟨_, rfl, ?_⟩; have n0_ := Aside0.mk (below_step (by repeat (first | (with_reducible first | exact HB.out | apply below_alloc | apply pw_below_drewN | apply below_drew1) | exact HB.out)) hb); clear HB; have HB := n0_; clear n0_; (try clear hb); (try clear hb2); (try clear hk); (try clear hi)) | (go_at_call 9; (with_reducible refine (impl_StrikeTest.calls kj44 (⟨#[7, 126, 97]⟩ : ByteArray) 1 t104 _ A67.out).mono ?_); rintro e w69 ⟨rfl, hb⟩; have n0_ := Aside0.mk (below_step (by repeat (first | (with_reducible first | exact HB.out | apply below_alloc | apply pw_below_drewN | apply below_drew1) | exact HB.out)) hb); clear HB; have HB := n0_; clear n0_; (try clear hb); (try clear hb2); (try clear hk); (try clear hi)))
                        go_ret
                        exact ⟨by first | rfl | (simp [errW_none, errW_some] <;> rfl) | (simp [*, errW_none, errW_some] <;> rfl), by repeat (first | (with_reducible first | exact HB.out | apply below_alloc | apply pw_below_drewN | apply below_drew1) | exact HB.out)⟩
                      · rw [if_neg c66] at H
                        have c66b0 : (t103 == (-1)) = false := beq_eq_false_iff_ne.mpr c66
                        have c66b1 : (t103 != (-1)) = true := bne_iff_ne.mpr c66
                        obtain rfl := Option.some.inj H
                        go_wp2_with (first | ((with_reducible refine gate_callee (f := 9) rfl ?_); refine goesL_ (some 120) rfl rfl Tryd.func9 (by kernel_rfl) rfl #[.string a0, .int .i64 a1] rfl (by (try simp only [List.map_toArray, List.map_cons, List.map_nil]); first | done | rfl | (simp only [List.length_drop, List.length_take]; rfl)) ?_; (with_reducible refine (impl_StrikeTest.calls kj44 a0 a1 t103 _ A65.out).mono ?_); rintro e w70 ⟨rfl, hb⟩; refine ⟨_, rfl, ?_⟩; have n0_ := Aside0.mk (below_step (by repeat (first | (with_reducible first | exact HB.out | apply below_alloc | apply pw_below_drewN | apply below_drew1) | exact HB.out)) hb); clear HB; have HB := n0_; clear n0_; (try clear hb); (try clear hb2); (try clear hk); (try clear hi)))
                        go_ret
                        exact ⟨by first | rfl | (simp [errW_none, errW_some] <;> rfl) | (simp [*, errW_none, errW_some] <;> rfl), by repeat (first | (with_reducible first | exact HB.out | apply below_alloc | apply pw_below_drewN | apply below_drew1) | exact HB.out)⟩

/-- THE ONE PURE STATEMENT of laws_FnStrikeTest: yours. -/
def laws_FnStrikeTest.Pure : Prop := ∀ (a0 : ByteArray) (a1 : Int), a0.size ≤ 140737488351232 → (Lit.int .i64 a1).wf = true → ∃ k, laws_FnStrikeTest.f k a0 a1 = some true
theorem laws_FnStrikeTest.walk (P : laws_FnStrikeTest.Pure) (a0 : ByteArray) (a1 : Int) (w : World) (w0 : a0.size ≤ 140737488351232) (w1 : (Lit.int .i64 a1).wf = true) :
    Calls Tryd.prog 3 #[.string a0, .int .i64 a1] w fun e w' => e = .returned (.bool true) ∧ Below w.heap.size w w' := by
  obtain ⟨k, h⟩ := P a0 a1 w0 w1
  refine (laws_FnStrikeTest.calls k a0 a1 true w h).mono ?_
  rintro e w' ⟨rfl, hd⟩
  exact ⟨rfl, hd⟩

end Go.Proofs.YtbhcoeabhdangaaDoor.PInl
