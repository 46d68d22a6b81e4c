/- Printed by the program extprint.py of this session, out of the kit's print and contracts of this session's own; Lean checks it. -/
import Derived.Test.YtbhcoeabhdangaaDoorEInlx0
import Derived.Test.YtbhcoeabhdangaaDoorEInlx1
import Derived.Test.YtbhcoeabhdangaaDoorEInlx2
import Derived.Test.YtbhcoeabhdangaaDoorAltX
import Derived.Test.YtbhcoeabhdangaaDoorLives
namespace Go.Proofs.YtbhcoeabhdangaaDoor.PInl
open Go.RowKit Go.Proofs.YtbhcoeabhdangaaDoorW.PrintWords Go.Proofs.YtbhcoeabhdangaaDoorW.PrintLast Go.Proofs.YtbhcoeabhdangaaDoorW.PrintMore
attribute [local go_sem] max2_int min2_int max_two min_two max_three min_three max_four min_four   -- for this text's walks alone
set_option linter.unusedVariables false
set_option linter.unusedSimpArgs false

/-! ### laws_FnAlt: function 5 -/
mutual
def laws_FnAlt.l0 : Nat → ByteArray → ByteArray → Bool → Int → Int → Int → Option (Bool)
  | 0, _, _, _, _, _, _ => none
  | k + 1, x0, x3, x4, x5, x16, x17 => if x17 < x16 then (if x4 = true then (if 0 ≤ x17 then (if x17 < (x0.size : Int) then (if (bt x0 x17) = 91 then (laws_FnAlt.l0 k x0 x3 false x5 x16 (wrap64 (x17 + 1))) else (if (bt x0 x17) = 93 then (laws_FnAlt.l0 k x0 x3 false x5 x16 (wrap64 (x17 + 1))) else (if (bt x0 x17) = 92 then (laws_FnAlt.l0 k x0 x3 false x5 x16 (wrap64 (x17 + 1))) else (laws_FnAlt.l0 k x0 x3 ((bt x0 x17) != 10) x5 x16 (wrap64 (x17 + 1)))))) else (none)) else (none)) else (laws_FnAlt.l0 k x0 x3 false x5 x16 (wrap64 (x17 + 1)))) else (if x4 = true then (if x3.toList = x0.toList then ((laws_inlineLives.f k).bind fun t202 => (some t202)) else (some false)) else (laws_FnAlt.l1 k x0 x3 x5 (x3.size : Int) 0))
def laws_FnAlt.l1 : Nat → ByteArray → ByteArray → Int → Int → Int → Option (Bool)
  | 0, _, _, _, _, _ => none
  | k + 1, x0, x3, x5, x49, x50 => if x50 < x49 then (if x5 < (x0.size : Int) then (if 0 ≤ x50 then (if x50 < (x3.size : Int) then (if 0 ≤ x5 then (if (bt x3 x50) = (bt x0 x5) then (laws_FnAlt.j2 k x0 x3 x5 x50 x49 x50 true) else (if (bt x0 x5) = 10 then (laws_FnAlt.j2 k x0 x3 x5 x50 x49 x50 ((bt x3 x50) == 32)) else (laws_FnAlt.j2 k x0 x3 x5 x50 x49 x50 false))) else (none)) else (none)) else (none)) else (laws_FnAlt.j2 k x0 x3 x5 x50 x49 x50 false)) else (if x5 = (x0.size : Int) then ((laws_inlineLives.f k).bind fun t203 => (some t203)) else (some false))
def laws_FnAlt.j2 : Nat → ByteArray → ByteArray → Int → Int → Int → Int → Bool → Option (Bool)
  | 0, _, _, _, _, _, _, _ => none
  | k + 1, x0, x3, x5, x7, x49, x50, x77 => if x77 = true then (laws_FnAlt.l1 k x0 x3 (wrap64 (x5 + 1)) x49 (wrap64 (x50 + 1))) else (if 0 ≤ x7 then (if x7 < (x3.size : Int) then (if (bt x3 x7) = 92 then (laws_FnAlt.l1 k x0 x3 x5 x49 (wrap64 (x50 + 1))) else (some false)) else (none)) else (none))
end
def laws_FnAlt.f (k : Nat) (a0 : ByteArray) : Option (Bool) := if (a0.size : Int) > 2147483647 then (some true) else ((laws_inlineASCII.f k a0).bind fun t200 => ((impl_Alt.f k t200).bind fun t201 => (laws_FnAlt.l0 k t200 t201 true 0 (t200.size : Int) 0)))
theorem laws_FnAlt.mono_l : ∀ k, (∀ y0 y1 y2 y3 y4 y5, LeO (laws_FnAlt.l0 k y0 y1 y2 y3 y4 y5) (laws_FnAlt.l0 (k + 1) y0 y1 y2 y3 y4 y5)) ∧ (∀ y0 y1 y2 y3 y4, LeO (laws_FnAlt.l1 k y0 y1 y2 y3 y4) (laws_FnAlt.l1 (k + 1) y0 y1 y2 y3 y4)) ∧ (∀ y0 y1 y2 y3 y4 y5 y6, LeO (laws_FnAlt.j2 k y0 y1 y2 y3 y4 y5 y6) (laws_FnAlt.j2 (k + 1) y0 y1 y2 y3 y4 y5 y6))
  | 0 => ⟨fun _ _ _ _ _ _ r h => by simp [laws_FnAlt.l0] at h, fun _ _ _ _ _ r h => by simp [laws_FnAlt.l1] at h, fun _ _ _ _ _ _ _ r h => by simp [laws_FnAlt.j2] at h⟩
  | k + 1 => by
    obtain ⟨ih0, ih1, ih2⟩ := laws_FnAlt.mono_l k
    refine ⟨?_, ?_, ?_⟩
    · intro y0 y1 y2 y3 y4 y5
      unfold laws_FnAlt.l0
      repeat' first
      | (with_reducible exact ih0 _ _ _ _ _ _)
      | (with_reducible exact ih1 _ _ _ _ _)
      | (with_reducible exact ih2 _ _ _ _ _ _ _)
      | (with_reducible exact impl_Alt.mono _ _)
      | (with_reducible exact laws_inlineASCII.mono _ _)
      | (with_reducible exact laws_inlineLives.mono _)
      | (with_reducible exact LeO.refl _)
      | (with_reducible exact LeO.none _)
      | (with_reducible refine LeO.ite ?_ ?_)
      | (with_reducible refine LeO.bind ?_ (fun _ => ?_))
      | exact ih0 _ _ _ _ _ _
      | exact ih1 _ _ _ _ _
      | exact ih2 _ _ _ _ _ _ _
      | exact impl_Alt.mono _ _
      | exact laws_inlineASCII.mono _ _
      | exact laws_inlineLives.mono _
      | exact LeO.none _
      | refine LeO.ite ?_ ?_
      | refine LeO.bind ?_ (fun _ => ?_)
    · intro y0 y1 y2 y3 y4
      unfold laws_FnAlt.l1
      repeat' first
      | (with_reducible exact ih0 _ _ _ _ _ _)
      | (with_reducible exact ih1 _ _ _ _ _)
      | (with_reducible exact ih2 _ _ _ _ _ _ _)
      | (with_reducible exact impl_Alt.mono _ _)
      | (with_reducible exact laws_inlineASCII.mono _ _)
      | (with_reducible exact laws_inlineLives.mono _)
      | (with_reducible exact LeO.refl _)
      | (with_reducible exact LeO.none _)
      | (with_reducible refine LeO.ite ?_ ?_)
      | (with_reducible refine LeO.bind ?_ (fun _ => ?_))
      | exact ih0 _ _ _ _ _ _
      | exact ih1 _ _ _ _ _
      | exact ih2 _ _ _ _ _ _ _
      | exact impl_Alt.mono _ _
      | exact laws_inlineASCII.mono _ _
      | exact laws_inlineLives.mono _
      | exact LeO.none _
      | refine LeO.ite ?_ ?_
      | refine LeO.bind ?_ (fun _ => ?_)
    · intro y0 y1 y2 y3 y4 y5 y6
      unfold laws_FnAlt.j2
      repeat' first
      | (with_reducible exact ih0 _ _ _ _ _ _)
      | (with_reducible exact ih1 _ _ _ _ _)
      | (with_reducible exact ih2 _ _ _ _ _ _ _)
      | (with_reducible exact impl_Alt.mono _ _)
      | (with_reducible exact laws_inlineASCII.mono _ _)
      | (with_reducible exact laws_inlineLives.mono _)
      | (with_reducible exact LeO.refl _)
      | (with_reducible exact LeO.none _)
      | (with_reducible refine LeO.ite ?_ ?_)
      | (with_reducible refine LeO.bind ?_ (fun _ => ?_))
      | exact ih0 _ _ _ _ _ _
      | exact ih1 _ _ _ _ _
      | exact ih2 _ _ _ _ _ _ _
      | exact impl_Alt.mono _ _
      | exact laws_inlineASCII.mono _ _
      | exact laws_inlineLives.mono _
      | exact LeO.none _
      | refine LeO.ite ?_ ?_
      | refine LeO.bind ?_ (fun _ => ?_)
theorem laws_FnAlt.mono : ∀ a0 k, LeO (laws_FnAlt.f k a0) (laws_FnAlt.f (k + 1) a0) := by
  intro a0 k
  obtain ⟨ih0, ih1, ih2⟩ := laws_FnAlt.mono_l k
  unfold laws_FnAlt.f
  repeat' first
      | (with_reducible exact ih0 _ _ _ _ _ _)
      | (with_reducible exact ih1 _ _ _ _ _)
      | (with_reducible exact ih2 _ _ _ _ _ _ _)
      | (with_reducible exact impl_Alt.mono _ _)
      | (with_reducible exact laws_inlineASCII.mono _ _)
      | (with_reducible exact laws_inlineLives.mono _)
      | (with_reducible exact LeO.refl _)
      | (with_reducible exact LeO.none _)
      | (with_reducible refine LeO.ite ?_ ?_)
      | (with_reducible refine LeO.bind ?_ (fun _ => ?_))
      | exact ih0 _ _ _ _ _ _
      | exact ih1 _ _ _ _ _
      | exact ih2 _ _ _ _ _ _ _
      | exact impl_Alt.mono _ _
      | exact laws_inlineASCII.mono _ _
      | exact laws_inlineLives.mono _
      | exact LeO.none _
      | refine LeO.ite ?_ ?_
      | refine LeO.bind ?_ (fun _ => ?_)
set_option maxHeartbeats 8000000 in
set_option maxRecDepth 100000 in
theorem laws_FnAlt.calls (k : Nat) (a0 : ByteArray) (r : Bool) (w : World) (h : laws_FnAlt.f k a0 = some r) :
    Calls Tryd.prog 5 #[.string a0] w fun e w' => e = .returned (.bool r) ∧ Below w.heap.size w w' := by
  have HB := Aside0.mk (Below.refl w.heap.size w)
  have H : (if (a0.size : Int) > 2147483647 then (some true) else ((laws_inlineASCII.f k a0).bind fun t200 => ((impl_Alt.f k t200).bind fun t201 => (laws_FnAlt.l0 k t200 t201 true 0 (t200.size : Int) 0)))) = some r := h
  clear h
  by_cases c2 : (a0.size : Int) > 2147483647
  · rw [if_pos c2] at H
    have c2b0 : decide (2147483647 < (a0.size : Int)) = true := decide_eq_true c2
    have c2b1 : decide (2147483647 < a0.size) = true := decide_eq_true (by omega)
    clear c2
    obtain rfl := Option.some.inj H
    go_enter Tryd.func5, Tryd.ntmps5
    go_wp2
    repeat (go_quiet (fail); try go_wp2)
    go_ret
    exact ⟨by first | rfl | (simp [errW_none, errW_some] <;> rfl) | (simp [*, errW_none, errW_some] <;> rfl), by repeat (first | (with_reducible first | exact HB.out | apply below_alloc | apply pw_below_drewN | apply below_drew1) | exact HB.out)⟩
  · rw [if_neg c2] at H
    have c2b0 : decide (2147483647 < (a0.size : Int)) = false := decide_eq_false c2
    have c2b1 : decide (2147483647 < a0.size) = false := decide_eq_false (by omega)
    clear c2
    replace H := Option.bind_eq_some_iff.mp H
    obtain ⟨t200, A30, H⟩ := H
    replace H : ((impl_Alt.f k t200).bind fun t201 => (laws_FnAlt.l0 k t200 t201 true 0 (t200.size : Int) 0)) = some r := H
    have A3 := Aside0.mk A30
    clear A30
    replace H := Option.bind_eq_some_iff.mp H
    obtain ⟨t201, A40, H⟩ := H
    replace H : (laws_FnAlt.l0 k t200 t201 true 0 (t200.size : Int) 0) = some r := H
    have A4 := Aside0.mk A40
    clear A40
    have H' := Aside0.mk H
    clear H
    go_enter Tryd.func5, Tryd.ntmps5
    go_wp2_with (first | (go_at_call 11; (with_reducible refine (laws_inlineASCII.calls k a0 t200 _ A3.out).mono ?_); rintro e w5 ⟨rfl, hb⟩; have n0_ := Aside0.mk (below_step (by repeat (first | (with_reducible first | exact HB.out | apply below_alloc | apply pw_below_drewN | apply below_drew1) | exact HB.out)) hb); clear HB; have HB := n0_; clear n0_; (try clear hb); (try clear hb2); (try clear hk); (try clear hi)) | (go_at_call 15; (with_reducible refine (impl_Alt.calls k t200 t201 _ A4.out).mono ?_); rintro e w6 ⟨rfl, hb⟩; have n0_ := Aside0.mk (below_step (by repeat (first | (with_reducible first | exact HB.out | apply below_alloc | apply pw_below_drewN | apply below_drew1) | exact HB.out)) hb); clear HB; have HB := n0_; clear n0_; (try clear hb); (try clear hb2); (try clear hk); (try clear hi)))
    repeat (go_quiet (first | (go_at_call 11; (with_reducible refine (laws_inlineASCII.calls k a0 t200 _ A3.out).mono ?_); rintro e w5 ⟨rfl, hb⟩; have n0_ := Aside0.mk (below_step (by repeat (first | (with_reducible first | exact HB.out | apply below_alloc | apply pw_below_drewN | apply below_drew1) | exact HB.out)) hb); clear HB; have HB := n0_; clear n0_; (try clear hb); (try clear hb2); (try clear hk); (try clear hi)) | (go_at_call 15; (with_reducible refine (impl_Alt.calls k t200 t201 _ A4.out).mono ?_); rintro e w6 ⟨rfl, hb⟩; have n0_ := Aside0.mk (below_step (by repeat (first | (with_reducible first | exact HB.out | apply below_alloc | apply pw_below_drewN | apply below_drew1) | exact HB.out)) hb); clear HB; have HB := n0_; clear n0_; (try clear hb); (try clear hb2); (try clear hk); (try clear hi))); try go_wp2_with (first | (go_at_call 11; (with_reducible refine (laws_inlineASCII.calls k a0 t200 _ A3.out).mono ?_); rintro e w5 ⟨rfl, hb⟩; have n0_ := Aside0.mk (below_step (by repeat (first | (with_reducible first | exact HB.out | apply below_alloc | apply pw_below_drewN | apply below_drew1) | exact HB.out)) hb); clear HB; have HB := n0_; clear n0_; (try clear hb); (try clear hb2); (try clear hk); (try clear hi)) | (go_at_call 15; (with_reducible refine (impl_Alt.calls k t200 t201 _ A4.out).mono ?_); rintro e w6 ⟨rfl, hb⟩; have n0_ := Aside0.mk (below_step (by repeat (first | (with_reducible first | exact HB.out | apply below_alloc | apply pw_below_drewN | apply below_drew1) | exact HB.out)) hb); clear HB; have HB := n0_; clear n0_; (try clear hb); (try clear hb2); (try clear hk); (try clear hi))))
    go_loopg [4, 17] k (fun kq v4 v17 w' => ∃ (x4_1 : Bool) (x17_1 : Int), v4 = .bool x4_1 ∧ v17 = .int .i64 x17_1 ∧ Aside0 (laws_FnAlt.l0 kq t200 t201 x4_1 0 (t200.size : Int) x17_1 = some r) ∧ Aside0 (kq ≤ k) ∧ Aside0 (Below w.heap.size w w'))
    case atStart => exact ⟨(true), (0), (by first | rfl | (simp; done) | (simp [*]; done)), (by first | rfl | (simp; done) | (simp [*]; done)), H', ⟨Nat.le_refl _⟩, ⟨by repeat (first | (with_reducible first | exact HB.out | apply below_alloc | apply pw_below_drewN | apply below_drew1) | exact HB.out)⟩⟩
    case round =>
      clear H'
      try clear c2
      try clear c2b0
      try clear c2b1
      try clear p2
      try clear c5
      obtain ⟨x4_1, x17_1, rfl, rfl, HA, HK1, HB⟩ := hrel
      cases gk with
      | zero => exact absurd HA.out (by simp [laws_FnAlt.l0])
      | succ k1 =>
        have H := HA.out
        clear HA
        simp only [laws_FnAlt.l0] at H
        by_cases c7 : x17_1 < (t200.size : Int)
        · rw [if_pos c7] at H
          have c7b0 : decide (x17_1 < (t200.size : Int)) = true := decide_eq_true c7
          clear c7
          by_cases c8 : x4_1 = true
          · subst c8
            have H1 : (if 0 ≤ x17_1 then (if x17_1 < (t200.size : Int) then (if (bt t200 x17_1) = 91 then (laws_FnAlt.l0 k1 t200 t201 false 0 (t200.size : Int) (wrap64 (x17_1 + 1))) else (if (bt t200 x17_1) = 93 then (laws_FnAlt.l0 k1 t200 t201 false 0 (t200.size : Int) (wrap64 (x17_1 + 1))) else (if (bt t200 x17_1) = 92 then (laws_FnAlt.l0 k1 t200 t201 false 0 (t200.size : Int) (wrap64 (x17_1 + 1))) else (laws_FnAlt.l0 k1 t200 t201 ((bt t200 x17_1) != 10) 0 (t200.size : Int) (wrap64 (x17_1 + 1)))))) else (none)) else (none)) = some r := by rw [if_pos rfl] at H; exact H
            clear H
            have H := H1
            clear H1
            by_cases c9 : 0 ≤ x17_1
            · rw [if_pos c9] at H
              have c9b0 : decide (0 ≤ x17_1) = true := decide_eq_true c9
              clear c9
              by_cases c10 : x17_1 < (t200.size : Int)
              · rw [if_pos c10] at H
                have c10b0 : decide (x17_1 < (t200.size : Int)) = true := decide_eq_true c10
                clear c10
                by_cases c12 : (bt t200 x17_1) = 91
                · rw [if_pos c12] at H
                  have c12b0 : ((bt t200 x17_1) == 91) = true := beq_iff_eq.mpr c12
                  have c12b1 : ((bt t200 x17_1) != 91) = false := bne_eq_false_iff_eq.mpr c12
                  clear c12
                  have H' := Aside0.mk H
                  clear H
                  have p11 : 0 ≤ (x17_1 : Int) := of_decide_eq_true (by first | (with_reducible assumption) | assumption)
                  have q11 : x17_1 < (t200.size : Int) := of_decide_eq_true (by first | (with_reducible assumption) | assumption)
                  have hx11 := bt_at t200 x17_1
                  replace p11 := eq_true p11
                  replace q11 := eq_true q11
                  go_wp2
                  repeat (go_quiet (fail); try go_wp2)
                  go_roundg k1
                  case measure => have := HK1.out; omega
                  case rel => exact ⟨(false), (wrap64 (x17_1 + 1)), (by first | rfl | (simp; done) | (simp [*]; done)), (by first | rfl | (simp; done) | (simp [*]; done)), H', ⟨by have := HK1.out; omega⟩, ⟨by repeat (first | (with_reducible first | exact HB.out | apply below_alloc | apply pw_below_drewN | apply below_drew1) | exact HB.out)⟩⟩
                · rw [if_neg c12] at H
                  have c12b0 : ((bt t200 x17_1) == 91) = false := beq_eq_false_iff_ne.mpr c12
                  have c12b1 : ((bt t200 x17_1) != 91) = true := bne_iff_ne.mpr c12
                  by_cases c14 : (bt t200 x17_1) = 93
                  · rw [if_pos c14] at H
                    have c14b0 : ((bt t200 x17_1) == 93) = true := beq_iff_eq.mpr c14
                    have c14b1 : ((bt t200 x17_1) != 93) = false := bne_eq_false_iff_eq.mpr c14
                    clear c14
                    have H' := Aside0.mk H
                    clear H
                    have p11 : 0 ≤ (x17_1 : Int) := of_decide_eq_true (by first | (with_reducible assumption) | assumption)
                    have q11 : x17_1 < (t200.size : Int) := of_decide_eq_true (by first | (with_reducible assumption) | assumption)
                    have hx11 := bt_at t200 x17_1
                    replace p11 := eq_true p11
                    replace q11 := eq_true q11
                    have p13 : 0 ≤ (x17_1 : Int) := of_decide_eq_true (by first | (with_reducible assumption) | assumption)
                    have q13 : x17_1 < (t200.size : Int) := of_decide_eq_true (by first | (with_reducible assumption) | assumption)
                    have hx13 := bt_at t200 x17_1
                    replace p13 := eq_true p13
                    replace q13 := eq_true q13
                    go_wp2
                    repeat (go_quiet (fail); try go_wp2)
                    go_roundg k1
                    case measure => have := HK1.out; omega
                    case rel => exact ⟨(false), (wrap64 (x17_1 + 1)), (by first | rfl | (simp; done) | (simp [*]; done)), (by first | rfl | (simp; done) | (simp [*]; done)), H', ⟨by have := HK1.out; omega⟩, ⟨by repeat (first | (with_reducible first | exact HB.out | apply below_alloc | apply pw_below_drewN | apply below_drew1) | exact HB.out)⟩⟩
                  · rw [if_neg c14] at H
                    have c14b0 : ((bt t200 x17_1) == 93) = false := beq_eq_false_iff_ne.mpr c14
                    have c14b1 : ((bt t200 x17_1) != 93) = true := bne_iff_ne.mpr c14
                    by_cases c16 : (bt t200 x17_1) = 92
                    · rw [if_pos c16] at H
                      have c16b0 : ((bt t200 x17_1) == 92) = true := beq_iff_eq.mpr c16
                      have c16b1 : ((bt t200 x17_1) != 92) = false := bne_eq_false_iff_eq.mpr c16
                      clear c16
                      have H' := Aside0.mk H
                      clear H
                      have p11 : 0 ≤ (x17_1 : Int) := of_decide_eq_true (by first | (with_reducible assumption) | assumption)
                      have q11 : x17_1 < (t200.size : Int) := of_decide_eq_true (by first | (with_reducible assumption) | assumption)
                      have hx11 := bt_at t200 x17_1
                      replace p11 := eq_true p11
                      replace q11 := eq_true q11
                      have p13 : 0 ≤ (x17_1 : Int) := of_decide_eq_true (by first | (with_reducible assumption) | assumption)
                      have q13 : x17_1 < (t200.size : Int) := of_decide_eq_true (by first | (with_reducible assumption) | assumption)
                      have hx13 := bt_at t200 x17_1
                      replace p13 := eq_true p13
                      replace q13 := eq_true q13
                      have p15 : 0 ≤ (x17_1 : Int) := of_decide_eq_true (by first | (with_reducible assumption) | assumption)
                      have q15 : x17_1 < (t200.size : Int) := of_decide_eq_true (by first | (with_reducible assumption) | assumption)
                      have hx15 := bt_at t200 x17_1
                      replace p15 := eq_true p15
                      replace q15 := eq_true q15
                      go_wp2
                      repeat (go_quiet (fail); try go_wp2)
                      go_roundg k1
                      case measure => have := HK1.out; omega
                      case rel => exact ⟨(false), (wrap64 (x17_1 + 1)), (by first | rfl | (simp; done) | (simp [*]; done)), (by first | rfl | (simp; done) | (simp [*]; done)), H', ⟨by have := HK1.out; omega⟩, ⟨by repeat (first | (with_reducible first | exact HB.out | apply below_alloc | apply pw_below_drewN | apply below_drew1) | exact HB.out)⟩⟩
                    · rw [if_neg c16] at H
                      have c16b0 : ((bt t200 x17_1) == 92) = false := beq_eq_false_iff_ne.mpr c16
                      have c16b1 : ((bt t200 x17_1) != 92) = true := bne_iff_ne.mpr c16
                      have H' := Aside0.mk H
                      clear H
                      have p11 : 0 ≤ (x17_1 : Int) := of_decide_eq_true (by first | (with_reducible assumption) | assumption)
                      have q11 : x17_1 < (t200.size : Int) := of_decide_eq_true (by first | (with_reducible assumption) | assumption)
                      have hx11 := bt_at t200 x17_1
                      replace p11 := eq_true p11
                      replace q11 := eq_true q11
                      have p13 : 0 ≤ (x17_1 : Int) := of_decide_eq_true (by first | (with_reducible assumption) | assumption)
                      have q13 : x17_1 < (t200.size : Int) := of_decide_eq_true (by first | (with_reducible assumption) | assumption)
                      have hx13 := bt_at t200 x17_1
                      replace p13 := eq_true p13
                      replace q13 := eq_true q13
                      have p15 : 0 ≤ (x17_1 : Int) := of_decide_eq_true (by first | (with_reducible assumption) | assumption)
                      have q15 : x17_1 < (t200.size : Int) := of_decide_eq_true (by first | (with_reducible assumption) | assumption)
                      have hx15 := bt_at t200 x17_1
                      replace p15 := eq_true p15
                      replace q15 := eq_true q15
                      have p17 : 0 ≤ (x17_1 : Int) := of_decide_eq_true (by first | (with_reducible assumption) | assumption)
                      have q17 : x17_1 < (t200.size : Int) := of_decide_eq_true (by first | (with_reducible assumption) | assumption)
                      have hx17 := bt_at t200 x17_1
                      replace p17 := eq_true p17
                      replace q17 := eq_true q17
                      go_wp2
                      repeat (go_quiet (fail); try go_wp2)
                      go_roundg k1
                      case measure => have := HK1.out; omega
                      case rel => exact ⟨(((bt t200 x17_1) != 10)), (wrap64 (x17_1 + 1)), (by first | rfl | (simp; done) | (simp [*]; done)), (by first | rfl | (simp; done) | (simp [*]; done)), H', ⟨by have := HK1.out; omega⟩, ⟨by repeat (first | (with_reducible first | exact HB.out | apply below_alloc | apply pw_below_drewN | apply below_drew1) | exact HB.out)⟩⟩
              · rw [if_neg c10] at H
                exact absurd H (by simp)
            · rw [if_neg c9] at H
              exact absurd H (by simp)
          · replace c8 := Bool.eq_false_iff.mpr c8
            subst c8
            have H1 : (laws_FnAlt.l0 k1 t200 t201 false 0 (t200.size : Int) (wrap64 (x17_1 + 1))) = some r := by rw [if_neg (show ¬ (false = true) by decide)] at H; exact H
            clear H
            have H := H1
            clear H1
            have H' := Aside0.mk H
            clear H
            go_wp2
            repeat (go_quiet (fail); try go_wp2)
            go_roundg k1
            case measure => have := HK1.out; omega
            case rel => exact ⟨(false), (wrap64 (x17_1 + 1)), (by first | rfl | (simp; done) | (simp [*]; done)), (by first | rfl | (simp; done) | (simp [*]; done)), H', ⟨by have := HK1.out; omega⟩, ⟨by repeat (first | (with_reducible first | exact HB.out | apply below_alloc | apply pw_below_drewN | apply below_drew1) | exact HB.out)⟩⟩
        · rw [if_neg c7] at H
          have c7b0 : decide (x17_1 < (t200.size : Int)) = false := decide_eq_false c7
          clear c7
          by_cases c18 : x4_1 = true
          · subst c18
            have H1 : (if t201.toList = t200.toList then ((laws_inlineLives.f k1).bind fun t202 => (some t202)) else (some false)) = some r := by rw [if_pos rfl] at H; exact H
            clear H
            have H := H1
            clear H1
            by_cases c19 : t201.toList = t200.toList
            · rw [if_pos c19] at H
              have c19b0 : (t201.toList == t200.toList) = true := beq_iff_eq.mpr c19
              have c19b1 : (t201.toList != t200.toList) = false := bne_eq_false_iff_eq.mpr c19
              clear c19
              replace H := Option.bind_eq_some_iff.mp H
              obtain ⟨t202, A200, H⟩ := H
              replace H : (some t202) = some r := H
              have A20 := Aside0.mk A200
              clear A200
              obtain rfl := Option.some.inj H
              go_wp2_with (first | (go_at_call 14; (with_reducible refine (laws_inlineLives.calls k1  t202 _ A20.out).mono ?_); rintro e w21 ⟨rfl, hb⟩; have n0_ := Aside0.mk (below_step (by repeat (first | (with_reducible first | exact HB.out | apply below_alloc | apply pw_below_drewN | apply below_drew1) | exact HB.out)) hb); clear HB; have HB := n0_; clear n0_; (try clear hb); (try clear hb2); (try clear hk); (try clear hi)))
              repeat (go_quiet (first | (go_at_call 14; (with_reducible refine (laws_inlineLives.calls k1  t202 _ A20.out).mono ?_); rintro e w21 ⟨rfl, hb⟩; have n0_ := Aside0.mk (below_step (by repeat (first | (with_reducible first | exact HB.out | apply below_alloc | apply pw_below_drewN | apply below_drew1) | exact HB.out)) hb); clear HB; have HB := n0_; clear n0_; (try clear hb); (try clear hb2); (try clear hk); (try clear hi))); try go_wp2_with (first | (go_at_call 14; (with_reducible refine (laws_inlineLives.calls k1  t202 _ A20.out).mono ?_); rintro e w21 ⟨rfl, hb⟩; have n0_ := Aside0.mk (below_step (by repeat (first | (with_reducible first | exact HB.out | apply below_alloc | apply pw_below_drewN | apply below_drew1) | exact HB.out)) hb); clear HB; have HB := n0_; clear n0_; (try clear hb); (try clear hb2); (try clear hk); (try clear hi))))
              go_ret
              exact ⟨by first | rfl | (simp [errW_none, errW_some] <;> rfl) | (simp [*, errW_none, errW_some] <;> rfl), by repeat (first | (with_reducible first | exact HB.out | apply below_alloc | apply pw_below_drewN | apply below_drew1) | exact HB.out)⟩
            · rw [if_neg c19] at H
              have c19b0 : (t201.toList == t200.toList) = false := beq_eq_false_iff_ne.mpr c19
              have c19b1 : (t201.toList != t200.toList) = true := bne_iff_ne.mpr c19
              obtain rfl := Option.some.inj H
              go_wp2
              repeat (go_quiet (fail); try go_wp2)
              go_ret
              exact ⟨by first | rfl | (simp [errW_none, errW_some] <;> rfl) | (simp [*, errW_none, errW_some] <;> rfl), by repeat (first | (with_reducible first | exact HB.out | apply below_alloc | apply pw_below_drewN | apply below_drew1) | exact HB.out)⟩
          · replace c18 := Bool.eq_false_iff.mpr c18
            subst c18
            have H1 : (laws_FnAlt.l1 k1 t200 t201 0 (t201.size : Int) 0) = some r := by rw [if_neg (show ¬ (false = true) by decide)] at H; exact H
            clear H
            have H := H1
            clear H1
            have H' := Aside0.mk H
            clear H
            go_wp2
            repeat (go_quiet (fail); try go_wp2)
            go_loopg [5, 50] k1 (fun kq v5 v50 w' => ∃ (x5_2 : Int) (x50_2 : Int), v5 = .int .i64 x5_2 ∧ v50 = .int .i64 x50_2 ∧ Aside0 (laws_FnAlt.l1 kq t200 t201 x5_2 (t201.size : Int) x50_2 = some r) ∧ Aside0 (kq ≤ k1) ∧ Aside0 (Below w.heap.size w w'))
            case atStart => exact ⟨(0), (0), (by first | rfl | (simp; done) | (simp [*]; done)), (by first | rfl | (simp; done) | (simp [*]; done)), H', ⟨Nat.le_refl _⟩, ⟨by repeat (first | (with_reducible first | exact HB.out | apply below_alloc | apply pw_below_drewN | apply below_drew1) | exact HB.out)⟩⟩
            case round =>
              clear H'
              try clear c1
              try clear p1
              try clear q1
              try clear hx1
              try clear c2
              try clear c2b0
              try clear c2b1
              try clear p2
              try clear c5
              try clear p6
              try clear c7
              try clear c7b0
              try clear c8
              try clear c9
              try clear c9b0
              try clear c10
              try clear c10b0
              try clear p11
              try clear q11
              try clear hx11
              try clear c12
              try clear c12b0
              try clear c12b1
              try clear p13
              try clear q13
              try clear hx13
              try clear c14
              try clear c14b0
              try clear c14b1
              try clear p15
              try clear q15
              try clear hx15
              try clear c16
              try clear c16b0
              try clear c16b1
              try clear p17
              try clear q17
              try clear hx17
              try clear c18
              try clear c19
              try clear c19b0
              try clear c19b1
              try clear p11
              try clear p13
              try clear p15
              try clear p17
              try clear p2
              try clear q11
              try clear q13
              try clear q15
              try clear q17
              obtain ⟨x5_2, x50_2, rfl, rfl, HA, HK2, HB⟩ := hrel
              cases gk with
              | zero => exact absurd HA.out (by simp [laws_FnAlt.l1])
              | succ k2 =>
                have H := HA.out
                clear HA
                simp only [laws_FnAlt.l1] at H
                by_cases c22 : x50_2 < (t201.size : Int)
                · rw [if_pos c22] at H
                  have c22b0 : decide (x50_2 < (t201.size : Int)) = true := decide_eq_true c22
                  clear c22
                  have HC23 := Aside0.mk H
                  clear H
                  go_upto_region 14 with (fail)
                  repeat (go_quiet (fail); go_upto_region 14 with (fail))
                  go_cut [77] (fun v77 wc => ∃ (kq : Nat) (x77_22 : Bool), v77 = .bool x77_22 ∧ Aside0 (laws_FnAlt.j2 kq t200 t201 x5_2 x50_2 (t201.size : Int) x50_2 x77_22 = some r) ∧ Aside0 (kq ≤ k2) ∧ Aside0 (Below w.heap.size w wc))
                  case first =>
                    have H := HC23.out
                    clear HC23
                    by_cases c24 : x5_2 < (t200.size : Int)
                    · rw [if_pos c24] at H
                      have c24b0 : decide (x5_2 < (t200.size : Int)) = true := decide_eq_true c24
                      clear c24
                      (first | rw [c24b0] | (simp only [i64_w, i32_w]; rw [c24b0]) | skip)
                      by_cases c25 : 0 ≤ x50_2
                      · rw [if_pos c25] at H
                        have c25b0 : decide (0 ≤ x50_2) = true := decide_eq_true c25
                        clear c25
                        by_cases c26 : x50_2 < (t201.size : Int)
                        · rw [if_pos c26] at H
                          have c26b0 : decide (x50_2 < (t201.size : Int)) = true := decide_eq_true c26
                          clear c26
                          by_cases c28 : 0 ≤ x5_2
                          · rw [if_pos c28] at H
                            have c28b0 : decide (0 ≤ x5_2) = true := decide_eq_true c28
                            clear c28
                            by_cases c30 : (bt t201 x50_2) = (bt t200 x5_2)
                            · rw [if_pos c30] at H
                              have c30b0 : ((bt t201 x50_2) == (bt t200 x5_2)) = true := beq_iff_eq.mpr c30
                              have c30b1 : ((bt t201 x50_2) != (bt t200 x5_2)) = false := bne_eq_false_iff_eq.mpr c30
                              clear c30
                              have H' := Aside0.mk H
                              clear H
                              have p27 : 0 ≤ (x50_2 : Int) := of_decide_eq_true (by first | (with_reducible assumption) | assumption)
                              have q27 : x50_2 < (t201.size : Int) := of_decide_eq_true (by first | (with_reducible assumption) | assumption)
                              have hx27 := bt_at t201 x50_2
                              replace p27 := eq_true p27
                              replace q27 := eq_true q27
                              have p29 : 0 ≤ (x5_2 : Int) := of_decide_eq_true (by first | (with_reducible assumption) | assumption)
                              have q29 : x5_2 < (t200.size : Int) := of_decide_eq_true (by first | (with_reducible assumption) | assumption)
                              have hx29 := bt_at t200 x5_2
                              replace p29 := eq_true p29
                              replace q29 := eq_true q29
                              go_wp2
                              repeat (go_quiet (fail); try go_wp2)
                              go_meet
                              case rel => exact ⟨_, (true), (by first | rfl | (simp; done) | (simp [*]; done)), H', ⟨by have := HK1.out; have := HK2.out; first | omega | exact Nat.le_refl _⟩, ⟨by repeat (first | (with_reducible first | exact HB.out | apply below_alloc | apply pw_below_drewN | apply below_drew1) | exact HB.out)⟩⟩
                            · rw [if_neg c30] at H
                              have c30b0 : ((bt t201 x50_2) == (bt t200 x5_2)) = false := beq_eq_false_iff_ne.mpr c30
                              have c30b1 : ((bt t201 x50_2) != (bt t200 x5_2)) = true := bne_iff_ne.mpr c30
                              by_cases c32 : (bt t200 x5_2) = 10
                              · rw [if_pos c32] at H
                                have c32b0 : ((bt t200 x5_2) == 10) = true := beq_iff_eq.mpr c32
                                have c32b1 : ((bt t200 x5_2) != 10) = false := bne_eq_false_iff_eq.mpr c32
                                clear c32
                                have H' := Aside0.mk H
                                clear H
                                have p27 : 0 ≤ (x50_2 : Int) := of_decide_eq_true (by first | (with_reducible assumption) | assumption)
                                have q27 : x50_2 < (t201.size : Int) := of_decide_eq_true (by first | (with_reducible assumption) | assumption)
                                have hx27 := bt_at t201 x50_2
                                replace p27 := eq_true p27
                                replace q27 := eq_true q27
                                have p29 : 0 ≤ (x5_2 : Int) := of_decide_eq_true (by first | (with_reducible assumption) | assumption)
                                have q29 : x5_2 < (t200.size : Int) := of_decide_eq_true (by first | (with_reducible assumption) | assumption)
                                have hx29 := bt_at t200 x5_2
                                replace p29 := eq_true p29
                                replace q29 := eq_true q29
                                have p31 : 0 ≤ (x5_2 : Int) := of_decide_eq_true (by first | (with_reducible assumption) | assumption)
                                have q31 : x5_2 < (t200.size : Int) := of_decide_eq_true (by first | (with_reducible assumption) | assumption)
                                have hx31 := bt_at t200 x5_2
                                replace p31 := eq_true p31
                                replace q31 := eq_true q31
                                have p33 : 0 ≤ (x50_2 : Int) := of_decide_eq_true (by first | (with_reducible assumption) | assumption)
                                have q33 : x50_2 < (t201.size : Int) := of_decide_eq_true (by first | (with_reducible assumption) | assumption)
                                have hx33 := bt_at t201 x50_2
                                replace p33 := eq_true p33
                                replace q33 := eq_true q33
                                go_wp2
                                repeat (go_quiet (fail); try go_wp2)
                                go_meet
                                case rel => exact ⟨_, (((bt t201 x50_2) == 32)), (by first | rfl | (simp; done) | (simp [*]; done)), H', ⟨by have := HK1.out; have := HK2.out; first | omega | exact Nat.le_refl _⟩, ⟨by repeat (first | (with_reducible first | exact HB.out | apply below_alloc | apply pw_below_drewN | apply below_drew1) | exact HB.out)⟩⟩
                              · rw [if_neg c32] at H
                                have c32b0 : ((bt t200 x5_2) == 10) = false := beq_eq_false_iff_ne.mpr c32
                                have c32b1 : ((bt t200 x5_2) != 10) = true := bne_iff_ne.mpr c32
                                have H' := Aside0.mk H
                                clear H
                                have p27 : 0 ≤ (x50_2 : Int) := of_decide_eq_true (by first | (with_reducible assumption) | assumption)
                                have q27 : x50_2 < (t201.size : Int) := of_decide_eq_true (by first | (with_reducible assumption) | assumption)
                                have hx27 := bt_at t201 x50_2
                                replace p27 := eq_true p27
                                replace q27 := eq_true q27
                                have p29 : 0 ≤ (x5_2 : Int) := of_decide_eq_true (by first | (with_reducible assumption) | assumption)
                                have q29 : x5_2 < (t200.size : Int) := of_decide_eq_true (by first | (with_reducible assumption) | assumption)
                                have hx29 := bt_at t200 x5_2
                                replace p29 := eq_true p29
                                replace q29 := eq_true q29
                                have p31 : 0 ≤ (x5_2 : Int) := of_decide_eq_true (by first | (with_reducible assumption) | assumption)
                                have q31 : x5_2 < (t200.size : Int) := of_decide_eq_true (by first | (with_reducible assumption) | assumption)
                                have hx31 := bt_at t200 x5_2
                                replace p31 := eq_true p31
                                replace q31 := eq_true q31
                                go_wp2
                                repeat (go_quiet (fail); try go_wp2)
                                go_meet
                                case rel => exact ⟨_, (false), (by first | rfl | (simp; done) | (simp [*]; done)), H', ⟨by have := HK1.out; have := HK2.out; first | omega | exact Nat.le_refl _⟩, ⟨by repeat (first | (with_reducible first | exact HB.out | apply below_alloc | apply pw_below_drewN | apply below_drew1) | exact HB.out)⟩⟩
                          · rw [if_neg c28] at H
                            exact absurd H (by simp)
                        · rw [if_neg c26] at H
                          exact absurd H (by simp)
                      · rw [if_neg c25] at H
                        exact absurd H (by simp)
                    · rw [if_neg c24] at H
                      have c24b0 : decide (x5_2 < (t200.size : Int)) = false := decide_eq_false c24
                      clear c24
                      (first | rw [c24b0] | (simp only [i64_w, i32_w]; rw [c24b0]) | skip)
                      have H' := Aside0.mk H
                      clear H
                      go_wp2
                      repeat (go_quiet (fail); try go_wp2)
                      go_meet
                      case rel => exact ⟨_, (false), (by first | rfl | (simp; done) | (simp [*]; done)), H', ⟨by have := HK1.out; have := HK2.out; first | omega | exact Nat.le_refl _⟩, ⟨by repeat (first | (with_reducible first | exact HB.out | apply below_alloc | apply pw_below_drewN | apply below_drew1) | exact HB.out)⟩⟩
                  case rest =>
                    clear HC23
                    try clear c1
                    try clear p1
                    try clear q1
                    try clear hx1
                    try clear c2
                    try clear c2b0
                    try clear c2b1
                    try clear p2
                    try clear q2
                    try clear hx2
                    try clear c3
                    try clear p3
                    try clear q3
                    try clear hx3
                    try clear c5
                    try clear p6
                    try clear c7
                    try clear c7b0
                    try clear c8
                    try clear c9
                    try clear c9b0
                    try clear c10
                    try clear c10b0
                    try clear p11
                    try clear q11
                    try clear hx11
                    try clear c12
                    try clear c12b0
                    try clear c12b1
                    try clear p13
                    try clear q13
                    try clear hx13
                    try clear c14
                    try clear c14b0
                    try clear c14b1
                    try clear p15
                    try clear q15
                    try clear hx15
                    try clear c16
                    try clear c16b0
                    try clear c16b1
                    try clear p17
                    try clear q17
                    try clear hx17
                    try clear c18
                    try clear c19
                    try clear c19b0
                    try clear c19b1
                    try clear c22
                    try clear c22b0
                    try clear c24
                    try clear c24b0
                    try clear c25
                    try clear c25b0
                    try clear c26
                    try clear c26b0
                    try clear p27
                    try clear q27
                    try clear hx27
                    try clear c28
                    try clear c28b0
                    try clear p29
                    try clear q29
                    try clear hx29
                    try clear c30
                    try clear c30b0
                    try clear c30b1
                    try clear p31
                    try clear q31
                    try clear hx31
                    try clear c32
                    try clear c32b0
                    try clear c32b1
                    try clear p33
                    try clear q33
                    try clear hx33
                    try clear p1
                    try clear p11
                    try clear p13
                    try clear p15
                    try clear p17
                    try clear p2
                    try clear p27
                    try clear p29
                    try clear p31
                    try clear p33
                    try clear p6
                    try clear q1
                    try clear q11
                    try clear q13
                    try clear q15
                    try clear q17
                    try clear q27
                    try clear q29
                    try clear q31
                    try clear q33
                    obtain ⟨kq, x77_22, rfl, HA, HJ22, HB⟩ := hcut
                    cases kq with
                    | zero => exact absurd HA.out (by simp [laws_FnAlt.j2])
                    | succ kj22 =>
                      have H := HA.out
                      clear HA
                      simp only [laws_FnAlt.j2] at H
                      by_cases c34 : x77_22 = true
                      · subst c34
                        have H1 : (laws_FnAlt.l1 kj22 t200 t201 (wrap64 (x5_2 + 1)) (t201.size : Int) (wrap64 (x50_2 + 1))) = some r := by rw [if_pos rfl] at H; exact H
                        clear H
                        have H := H1
                        clear H1
                        have H' := Aside0.mk H
                        clear H
                        go_wp2
                        repeat (go_quiet (fail); try go_wp2)
                        go_roundg kj22
                        case measure => have := HK1.out; have := HK2.out; have := HJ22.out; omega
                        case rel => exact ⟨(wrap64 (x5_2 + 1)), (wrap64 (x50_2 + 1)), (by first | rfl | (simp; done) | (simp [*]; done)), (by first | rfl | (simp; done) | (simp [*]; done)), H', ⟨by have := HK1.out; have := HK2.out; have := HJ22.out; omega⟩, ⟨by repeat (first | (with_reducible first | exact HB.out | apply below_alloc | apply pw_below_drewN | apply below_drew1) | exact HB.out)⟩⟩
                      · replace c34 := Bool.eq_false_iff.mpr c34
                        subst c34
                        have H1 : (if 0 ≤ x50_2 then (if x50_2 < (t201.size : Int) then (if (bt t201 x50_2) = 92 then (laws_FnAlt.l1 kj22 t200 t201 x5_2 (t201.size : Int) (wrap64 (x50_2 + 1))) else (some false)) else (none)) else (none)) = some r := by rw [if_neg (show ¬ (false = true) by decide)] at H; exact H
                        clear H
                        have H := H1
                        clear H1
                        by_cases c35 : 0 ≤ x50_2
                        · rw [if_pos c35] at H
                          have c35b0 : decide (0 ≤ x50_2) = true := decide_eq_true c35
                          clear c35
                          by_cases c36 : x50_2 < (t201.size : Int)
                          · rw [if_pos c36] at H
                            have c36b0 : decide (x50_2 < (t201.size : Int)) = true := decide_eq_true c36
                            clear c36
                            by_cases c38 : (bt t201 x50_2) = 92
                            · rw [if_pos c38] at H
                              have c38b0 : ((bt t201 x50_2) == 92) = true := beq_iff_eq.mpr c38
                              have c38b1 : ((bt t201 x50_2) != 92) = false := bne_eq_false_iff_eq.mpr c38
                              clear c38
                              have H' := Aside0.mk H
                              clear H
                              have p37 : 0 ≤ (x50_2 : Int) := of_decide_eq_true (by first | (with_reducible assumption) | assumption)
                              have q37 : x50_2 < (t201.size : Int) := of_decide_eq_true (by first | (with_reducible assumption) | assumption)
                              have hx37 := bt_at t201 x50_2
                              replace p37 := eq_true p37
                              replace q37 := eq_true q37
                              go_wp2
                              repeat (go_quiet (fail); try go_wp2)
                              go_roundg kj22
                              case measure => have := HK1.out; have := HK2.out; have := HJ22.out; omega
                              case rel => exact ⟨(x5_2), (wrap64 (x50_2 + 1)), (by first | rfl | (simp; done) | (simp [*]; done)), (by first | rfl | (simp; done) | (simp [*]; done)), H', ⟨by have := HK1.out; have := HK2.out; have := HJ22.out; omega⟩, ⟨by repeat (first | (with_reducible first | exact HB.out | apply below_alloc | apply pw_below_drewN | apply below_drew1) | exact HB.out)⟩⟩
                            · rw [if_neg c38] at H
                              have c38b0 : ((bt t201 x50_2) == 92) = false := beq_eq_false_iff_ne.mpr c38
                              have c38b1 : ((bt t201 x50_2) != 92) = true := bne_iff_ne.mpr c38
                              obtain rfl := Option.some.inj H
                              have p37 : 0 ≤ (x50_2 : Int) := of_decide_eq_true (by first | (with_reducible assumption) | assumption)
                              have q37 : x50_2 < (t201.size : Int) := of_decide_eq_true (by first | (with_reducible assumption) | assumption)
                              have hx37 := bt_at t201 x50_2
                              replace p37 := eq_true p37
                              replace q37 := eq_true q37
                              go_wp2
                              repeat (go_quiet (fail); try go_wp2)
                              go_ret
                              exact ⟨by first | rfl | (simp [errW_none, errW_some] <;> rfl) | (simp [*, errW_none, errW_some] <;> rfl), by repeat (first | (with_reducible first | exact HB.out | apply below_alloc | apply pw_below_drewN | apply below_drew1) | exact HB.out)⟩
                          · rw [if_neg c36] at H
                            exact absurd H (by simp)
                        · rw [if_neg c35] at H
                          exact absurd H (by simp)
                · rw [if_neg c22] at H
                  have c22b0 : decide (x50_2 < (t201.size : Int)) = false := decide_eq_false c22
                  clear c22
                  by_cases c39 : x5_2 = (t200.size : Int)
                  · rw [if_pos c39] at H
                    have c39b0 : (x5_2 == (t200.size : Int)) = true := beq_iff_eq.mpr c39
                    have c39b1 : (x5_2 != (t200.size : Int)) = false := bne_eq_false_iff_eq.mpr c39
                    clear c39
                    replace H := Option.bind_eq_some_iff.mp H
                    obtain ⟨t203, A400, H⟩ := H
                    replace H : (some t203) = some r := H
                    have A40 := Aside0.mk A400
                    clear A400
                    obtain rfl := Option.some.inj H
                    go_wp2_with (first | (go_at_call 14; (with_reducible refine (laws_inlineLives.calls k2  t203 _ A40.out).mono ?_); rintro e w41 ⟨rfl, hb⟩; have n0_ := Aside0.mk (below_step (by repeat (first | (with_reducible first | exact HB.out | apply below_alloc | apply pw_below_drewN | apply below_drew1) | exact HB.out)) hb); clear HB; have HB := n0_; clear n0_; (try clear hb); (try clear hb2); (try clear hk); (try clear hi)))
                    repeat (go_quiet (first | (go_at_call 14; (with_reducible refine (laws_inlineLives.calls k2  t203 _ A40.out).mono ?_); rintro e w41 ⟨rfl, hb⟩; have n0_ := Aside0.mk (below_step (by repeat (first | (with_reducible first | exact HB.out | apply below_alloc | apply pw_below_drewN | apply below_drew1) | exact HB.out)) hb); clear HB; have HB := n0_; clear n0_; (try clear hb); (try clear hb2); (try clear hk); (try clear hi))); try go_wp2_with (first | (go_at_call 14; (with_reducible refine (laws_inlineLives.calls k2  t203 _ A40.out).mono ?_); rintro e w41 ⟨rfl, hb⟩; have n0_ := Aside0.mk (below_step (by repeat (first | (with_reducible first | exact HB.out | apply below_alloc | apply pw_below_drewN | apply below_drew1) | exact HB.out)) hb); clear HB; have HB := n0_; clear n0_; (try clear hb); (try clear hb2); (try clear hk); (try clear hi))))
                    go_ret
                    exact ⟨by first | rfl | (simp [errW_none, errW_some] <;> rfl) | (simp [*, errW_none, errW_some] <;> rfl), by repeat (first | (with_reducible first | exact HB.out | apply below_alloc | apply pw_below_drewN | apply below_drew1) | exact HB.out)⟩
                  · rw [if_neg c39] at H
                    have c39b0 : (x5_2 == (t200.size : Int)) = false := beq_eq_false_iff_ne.mpr c39
                    have c39b1 : (x5_2 != (t200.size : Int)) = true := bne_iff_ne.mpr c39
                    obtain rfl := Option.some.inj H
                    go_wp2
                    repeat (go_quiet (fail); try go_wp2)
                    go_ret
                    exact ⟨by first | rfl | (simp [errW_none, errW_some] <;> rfl) | (simp [*, errW_none, errW_some] <;> rfl), by repeat (first | (with_reducible first | exact HB.out | apply below_alloc | apply pw_below_drewN | apply below_drew1) | exact HB.out)⟩

/-- THE ONE PURE STATEMENT of laws_FnAlt: yours. -/
def laws_FnAlt.Pure : Prop := ∀ (a0 : ByteArray), a0.size ≤ 140737488351232 → ∃ k, laws_FnAlt.f k a0 = some true
theorem laws_FnAlt.walk (P : laws_FnAlt.Pure) (a0 : ByteArray) (w : World) (w0 : a0.size ≤ 140737488351232) :
    Calls Tryd.prog 5 #[.string a0] w fun e w' => e = .returned (.bool true) ∧ Below w.heap.size w w' := by
  obtain ⟨k, h⟩ := P a0 w0
  refine (laws_FnAlt.calls k a0 true w h).mono ?_
  rintro e w' ⟨rfl, hd⟩
  exact ⟨rfl, hd⟩

end Go.Proofs.YtbhcoeabhdangaaDoor.PInl
