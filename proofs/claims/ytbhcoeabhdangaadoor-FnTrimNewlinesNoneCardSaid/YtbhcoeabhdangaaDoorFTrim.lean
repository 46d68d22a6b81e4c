/- Printed by the program extprint.py of this session, out of the kit's print and contracts of this session's own; Lean checks it. -/
import Derived.Test.YtbhcoeabhdangaaDoorEInlx0
import Derived.Test.YtbhcoeabhdangaaDoorEInlx1
import Derived.Test.YtbhcoeabhdangaaDoorEInlx2
import Derived.Test.YtbhcoeabhdangaaDoorTrimX
import Derived.Test.YtbhcoeabhdangaaDoorLives
namespace Go.Proofs.YtbhcoeabhdangaaDoor.PInl
open Go.RowKit Go.Proofs.YtbhcoeabhdangaaDoorW.PrintWords Go.Proofs.YtbhcoeabhdangaaDoorW.PrintLast Go.Proofs.YtbhcoeabhdangaaDoorW.PrintMore
attribute [local go_sem] max2_int min2_int max_two min_two max_three min_three max_four min_four   -- for this text's walks alone
set_option linter.unusedVariables false
set_option linter.unusedSimpArgs false




-- NOT PRINTED: function 53 (utf8_decodeRuneSlow)

-- NOT PRINTED: function 39 (utf8_DecodeRune)

-- NOT PRINTED: function 27 (textutils_TrimConsecutiveNewlines)


-- NOT PRINTED: function 54 (collapse_replaceAnyWhitespaceWithSpace)

-- NOT PRINTED: function 40 (collapse_ZzBlanks)

-- NOT PRINTED: function 28 (impl_Blanks)





-- NOT PRINTED: function 29 (impl_Quoted)


/-! ### laws_FnTrimNewlinesNone: function 4 -/
def laws_FnTrimNewlinesNone.l0 : Nat → ByteArray → Int → Int → Option (Bool)
  | 0, _, _, _ => none
  | k + 1, x0, x11, x12 => if x12 < x11 then (if 0 ≤ x12 then (if x12 < (x0.size : Int) then (if (bt x0 x12) = 10 then (if 0 ≤ (wrap64 (x12 - 1)) then (if (wrap64 (x12 - 1)) < (x0.size : Int) then ((spec_Blank.f (bt x0 (wrap64 (x12 - 1)))).bind fun t176 => (if t176 = true then (if (bt x0 (wrap64 (x12 - 1))) = 10 then (if 0 ≤ (wrap64 (x12 + 1)) then (if (wrap64 (x12 + 1)) < (x0.size : Int) then ((spec_Blank.f (bt x0 (wrap64 (x12 + 1)))).bind fun t177 => (if t177 = true then (if (bt x0 (wrap64 (x12 + 1))) = 10 then (if x12 > 1 then (if 0 ≤ (wrap64 (x12 - 2)) then (if (wrap64 (x12 - 2)) < (x0.size : Int) then (if (bt x0 (wrap64 (x12 - 2))) = 10 then (some true) else (laws_FnTrimNewlinesNone.l0 k x0 x11 (wrap64 (x12 + 1)))) else (none)) else (none)) else (laws_FnTrimNewlinesNone.l0 k x0 x11 (wrap64 (x12 + 1)))) else (some true)) else (if x12 > 1 then (if 0 ≤ (wrap64 (x12 - 2)) then (if (wrap64 (x12 - 2)) < (x0.size : Int) then (if (bt x0 (wrap64 (x12 - 2))) = 10 then (some true) else (laws_FnTrimNewlinesNone.l0 k x0 x11 (wrap64 (x12 + 1)))) else (none)) else (none)) else (laws_FnTrimNewlinesNone.l0 k x0 x11 (wrap64 (x12 + 1)))))) else (none)) else (none)) else (some true)) else (if 0 ≤ (wrap64 (x12 + 1)) then (if (wrap64 (x12 + 1)) < (x0.size : Int) then ((spec_Blank.f (bt x0 (wrap64 (x12 + 1)))).bind fun t178 => (if t178 = true then (if (bt x0 (wrap64 (x12 + 1))) = 10 then (if x12 > 1 then (if (bt x0 (wrap64 (x12 - 1))) = 10 then (if 0 ≤ (wrap64 (x12 - 2)) then (if (wrap64 (x12 - 2)) < (x0.size : Int) then (if (bt x0 (wrap64 (x12 - 2))) = 10 then (some true) else (laws_FnTrimNewlinesNone.l0 k x0 x11 (wrap64 (x12 + 1)))) else (none)) else (none)) else (laws_FnTrimNewlinesNone.l0 k x0 x11 (wrap64 (x12 + 1)))) else (laws_FnTrimNewlinesNone.l0 k x0 x11 (wrap64 (x12 + 1)))) else (some true)) else (if x12 > 1 then (if (bt x0 (wrap64 (x12 - 1))) = 10 then (if 0 ≤ (wrap64 (x12 - 2)) then (if (wrap64 (x12 - 2)) < (x0.size : Int) then (if (bt x0 (wrap64 (x12 - 2))) = 10 then (some true) else (laws_FnTrimNewlinesNone.l0 k x0 x11 (wrap64 (x12 + 1)))) else (none)) else (none)) else (laws_FnTrimNewlinesNone.l0 k x0 x11 (wrap64 (x12 + 1)))) else (laws_FnTrimNewlinesNone.l0 k x0 x11 (wrap64 (x12 + 1)))))) else (none)) else (none)))) else (none)) else (none)) else (laws_FnTrimNewlinesNone.l0 k x0 x11 (wrap64 (x12 + 1)))) else (none)) else (none)) else ((impl_TrimNewlines.f k x0).bind fun t174 => (if t174.toList = x0.toList then ((laws_inlineLives.f k).bind fun t175 => (some t175)) else (some false)))
def laws_FnTrimNewlinesNone.f (k : Nat) (a0 : ByteArray) : Option (Bool) := if (a0.size : Int) > 2147483647 then (some true) else ((laws_inlineASCII.f k a0).bind fun t172 => ((laws_inlineTrim.f k t172).bind fun t173 => (laws_FnTrimNewlinesNone.l0 k t173 (t173.size : Int) 0)))
theorem laws_FnTrimNewlinesNone.mono_l : ∀ k, (∀ y0 y1 y2, LeO (laws_FnTrimNewlinesNone.l0 k y0 y1 y2) (laws_FnTrimNewlinesNone.l0 (k + 1) y0 y1 y2))
  | 0 => fun _ _ _ r h => by simp [laws_FnTrimNewlinesNone.l0] at h
  | k + 1 => by
    have ih0 := laws_FnTrimNewlinesNone.mono_l k
    · intro y0 y1 y2
      unfold laws_FnTrimNewlinesNone.l0
      repeat' first
      | (with_reducible exact ih0 _ _ _)
      | (with_reducible exact impl_TrimNewlines.mono _ _)
      | (with_reducible exact laws_inlineASCII.mono _ _)
      | (with_reducible exact laws_inlineLives.mono _)
      | (with_reducible exact laws_inlineTrim.mono _ _)
      | (with_reducible exact LeO.refl _)
      | (with_reducible exact LeO.none _)
      | (with_reducible refine LeO.ite ?_ ?_)
      | (with_reducible refine LeO.bind ?_ (fun _ => ?_))
      | exact ih0 _ _ _
      | exact impl_TrimNewlines.mono _ _
      | exact laws_inlineASCII.mono _ _
      | exact laws_inlineLives.mono _
      | exact laws_inlineTrim.mono _ _
      | exact LeO.none _
      | refine LeO.ite ?_ ?_
      | refine LeO.bind ?_ (fun _ => ?_)
theorem laws_FnTrimNewlinesNone.mono : ∀ a0 k, LeO (laws_FnTrimNewlinesNone.f k a0) (laws_FnTrimNewlinesNone.f (k + 1) a0) := by
  intro a0 k
  have ih0 := laws_FnTrimNewlinesNone.mono_l k
  unfold laws_FnTrimNewlinesNone.f
  repeat' first
      | (with_reducible exact ih0 _ _ _)
      | (with_reducible exact impl_TrimNewlines.mono _ _)
      | (with_reducible exact laws_inlineASCII.mono _ _)
      | (with_reducible exact laws_inlineLives.mono _)
      | (with_reducible exact laws_inlineTrim.mono _ _)
      | (with_reducible exact LeO.refl _)
      | (with_reducible exact LeO.none _)
      | (with_reducible refine LeO.ite ?_ ?_)
      | (with_reducible refine LeO.bind ?_ (fun _ => ?_))
      | exact ih0 _ _ _
      | exact impl_TrimNewlines.mono _ _
      | exact laws_inlineASCII.mono _ _
      | exact laws_inlineLives.mono _
      | exact laws_inlineTrim.mono _ _
      | exact LeO.none _
      | refine LeO.ite ?_ ?_
      | refine LeO.bind ?_ (fun _ => ?_)
set_option maxHeartbeats 8000000 in
set_option maxRecDepth 100000 in
theorem laws_FnTrimNewlinesNone.calls (k : Nat) (a0 : ByteArray) (r : Bool) (w : World) (h : laws_FnTrimNewlinesNone.f k a0 = some r) :
    Calls Tryd.prog 4 #[.string a0] w fun e w' => e = .returned (.bool r) ∧ Below w.heap.size w w' := by
  have HB := Aside0.mk (Below.refl w.heap.size w)
  have H : (if (a0.size : Int) > 2147483647 then (some true) else ((laws_inlineASCII.f k a0).bind fun t172 => ((laws_inlineTrim.f k t172).bind fun t173 => (laws_FnTrimNewlinesNone.l0 k t173 (t173.size : Int) 0)))) = some r := h
  clear h
  by_cases c2 : (a0.size : Int) > 2147483647
  · rw [if_pos c2] at H
    have c2b0 : decide (2147483647 < (a0.size : Int)) = true := decide_eq_true c2
    have c2b1 : decide (2147483647 < a0.size) = true := decide_eq_true (by omega)
    clear c2
    obtain rfl := Option.some.inj H
    go_enter Tryd.func4, Tryd.ntmps4
    go_wp2
    go_ret
    exact ⟨by first | rfl | (simp [errW_none, errW_some] <;> rfl) | (simp [*, errW_none, errW_some] <;> rfl), by repeat (first | (with_reducible first | exact HB.out | apply below_alloc | apply pw_below_drewN | apply below_drew1) | exact HB.out)⟩
  · rw [if_neg c2] at H
    have c2b0 : decide (2147483647 < (a0.size : Int)) = false := decide_eq_false c2
    have c2b1 : decide (2147483647 < a0.size) = false := decide_eq_false (by omega)
    clear c2
    replace H := Option.bind_eq_some_iff.mp H
    obtain ⟨t172, A30, H⟩ := H
    replace H : ((laws_inlineTrim.f k t172).bind fun t173 => (laws_FnTrimNewlinesNone.l0 k t173 (t173.size : Int) 0)) = some r := H
    have A3 := Aside0.mk A30
    clear A30
    replace H := Option.bind_eq_some_iff.mp H
    obtain ⟨t173, A40, H⟩ := H
    replace H : (laws_FnTrimNewlinesNone.l0 k t173 (t173.size : Int) 0) = some r := H
    have A4 := Aside0.mk A40
    clear A40
    have H' := Aside0.mk H
    clear H
    go_enter Tryd.func4, Tryd.ntmps4
    go_wp2_with (first | ((with_reducible refine gate_callee (f := 11) rfl ?_); refine goesL_ (some 8) rfl rfl Tryd.func11 (by kernel_rfl) rfl #[.string a0] rfl (by (try simp only [List.map_toArray, List.map_cons, List.map_nil]); first | done | rfl | (simp only [List.length_drop, List.length_take]; rfl)) ?_; (with_reducible refine (laws_inlineASCII.calls k a0 t172 _ A3.out).mono ?_); rintro e w5 ⟨rfl, hb⟩; refine ⟨_, rfl, ?_⟩; have n0_ := Aside0.mk (below_step (by repeat (first | (with_reducible first | exact HB.out | apply below_alloc | apply pw_below_drewN | apply below_drew1) | exact HB.out)) hb); clear HB; have HB := n0_; clear n0_; (try clear hb); (try clear hb2); (try clear hk); (try clear hi)) | ((with_reducible refine gate_callee (f := 10) rfl ?_); refine goesL_ (some 9) rfl rfl Tryd.func10 (by kernel_rfl) rfl #[.string t172] rfl (by (try simp only [List.map_toArray, List.map_cons, List.map_nil]); first | done | rfl | (simp only [List.length_drop, List.length_take]; rfl)) ?_; (with_reducible refine (laws_inlineTrim.calls k t172 t173 _ A4.out).mono ?_); rintro e w' ⟨rfl, ⟨nd, rfl⟩⟩; refine ⟨_, rfl, ?_⟩))
    go_loopg [12] k (fun kq v12 w' => ∃ (x12_1 : Int), v12 = .int .i64 x12_1 ∧ Aside0 (laws_FnTrimNewlinesNone.l0 kq t173 (t173.size : Int) x12_1 = some r) ∧ Aside0 (kq ≤ k) ∧ Aside0 (Below w.heap.size w w'))
    case atStart => exact ⟨(0), (by first | rfl | (simp; done) | (simp [*]; done)), H', ⟨Nat.le_refl _⟩, ⟨by repeat (first | (with_reducible first | exact HB.out | apply below_alloc | apply pw_below_drewN | apply below_drew1) | exact HB.out)⟩⟩
    case round =>
      clear H'
      try clear c1
      try clear c2
      try clear c2b0
      try clear c2b1
      try clear p2
      try clear c4
      obtain ⟨x12_1, rfl, HA, HK1, HB⟩ := hrel
      cases gk with
      | zero => exact absurd HA.out (by simp [laws_FnTrimNewlinesNone.l0])
      | succ k1 =>
        have H := HA.out
        clear HA
        simp only [laws_FnTrimNewlinesNone.l0] at H
        by_cases c6 : x12_1 < (t173.size : Int)
        · rw [if_pos c6] at H
          have c6b0 : decide (x12_1 < (t173.size : Int)) = true := decide_eq_true c6
          clear c6
          by_cases c7 : 0 ≤ x12_1
          · rw [if_pos c7] at H
            have c7b0 : decide (0 ≤ x12_1) = true := decide_eq_true c7
            clear c7
            by_cases c8 : x12_1 < (t173.size : Int)
            · rw [if_pos c8] at H
              have c8b0 : decide (x12_1 < (t173.size : Int)) = true := decide_eq_true c8
              clear c8
              by_cases c10 : (bt t173 x12_1) = 10
              · rw [if_pos c10] at H
                have c10b0 : ((bt t173 x12_1) == 10) = true := beq_iff_eq.mpr c10
                have c10b1 : ((bt t173 x12_1) != 10) = false := bne_eq_false_iff_eq.mpr c10
                clear c10
                obtain ⟨ji11, hji11⟩ : ∃ j_ : Int, (wrap64 (x12_1 - 1)) = j_ := ⟨_, rfl⟩
                replace H : (if 0 ≤ (ji11) then (if (ji11) < (t173.size : Int) then ((spec_Blank.f (bt t173 (ji11))).bind fun t176 => (if t176 = true then (if (bt t173 (ji11)) = 10 then (if 0 ≤ (wrap64 (x12_1 + 1)) then (if (wrap64 (x12_1 + 1)) < (t173.size : Int) then ((spec_Blank.f (bt t173 (wrap64 (x12_1 + 1)))).bind fun t177 => (if t177 = true then (if (bt t173 (wrap64 (x12_1 + 1))) = 10 then (if x12_1 > 1 then (if 0 ≤ (wrap64 (x12_1 - 2)) then (if (wrap64 (x12_1 - 2)) < (t173.size : Int) then (if (bt t173 (wrap64 (x12_1 - 2))) = 10 then (some true) else (laws_FnTrimNewlinesNone.l0 k1 t173 (t173.size : Int) (wrap64 (x12_1 + 1)))) else (none)) else (none)) else (laws_FnTrimNewlinesNone.l0 k1 t173 (t173.size : Int) (wrap64 (x12_1 + 1)))) else (some true)) else (if x12_1 > 1 then (if 0 ≤ (wrap64 (x12_1 - 2)) then (if (wrap64 (x12_1 - 2)) < (t173.size : Int) then (if (bt t173 (wrap64 (x12_1 - 2))) = 10 then (some true) else (laws_FnTrimNewlinesNone.l0 k1 t173 (t173.size : Int) (wrap64 (x12_1 + 1)))) else (none)) else (none)) else (laws_FnTrimNewlinesNone.l0 k1 t173 (t173.size : Int) (wrap64 (x12_1 + 1)))))) else (none)) else (none)) else (some true)) else (if 0 ≤ (wrap64 (x12_1 + 1)) then (if (wrap64 (x12_1 + 1)) < (t173.size : Int) then ((spec_Blank.f (bt t173 (wrap64 (x12_1 + 1)))).bind fun t178 => (if t178 = true then (if (bt t173 (wrap64 (x12_1 + 1))) = 10 then (if x12_1 > 1 then (if (bt t173 (ji11)) = 10 then (if 0 ≤ (wrap64 (x12_1 - 2)) then (if (wrap64 (x12_1 - 2)) < (t173.size : Int) then (if (bt t173 (wrap64 (x12_1 - 2))) = 10 then (some true) else (laws_FnTrimNewlinesNone.l0 k1 t173 (t173.size : Int) (wrap64 (x12_1 + 1)))) else (none)) else (none)) else (laws_FnTrimNewlinesNone.l0 k1 t173 (t173.size : Int) (wrap64 (x12_1 + 1)))) else (laws_FnTrimNewlinesNone.l0 k1 t173 (t173.size : Int) (wrap64 (x12_1 + 1)))) else (some true)) else (if x12_1 > 1 then (if (bt t173 (ji11)) = 10 then (if 0 ≤ (wrap64 (x12_1 - 2)) then (if (wrap64 (x12_1 - 2)) < (t173.size : Int) then (if (bt t173 (wrap64 (x12_1 - 2))) = 10 then (some true) else (laws_FnTrimNewlinesNone.l0 k1 t173 (t173.size : Int) (wrap64 (x12_1 + 1)))) else (none)) else (none)) else (laws_FnTrimNewlinesNone.l0 k1 t173 (t173.size : Int) (wrap64 (x12_1 + 1)))) else (laws_FnTrimNewlinesNone.l0 k1 t173 (t173.size : Int) (wrap64 (x12_1 + 1)))))) else (none)) else (none)))) else (none)) else (none)) = some r := by first | (rw [hji11] at H; exact H) | (simp only [hji11] at H ⊢; exact H)
                have hji11w : (IntKind.i64.wrap (x12_1 - 1)) = ji11 := (i64_w _).trans hji11
                by_cases c12 : 0 ≤ (ji11)
                · rw [if_pos c12] at H
                  have c12b0 : decide (0 ≤ (ji11)) = true := decide_eq_true c12
                  clear c12
                  by_cases c13 : (ji11) < (t173.size : Int)
                  · rw [if_pos c13] at H
                    have c13b0 : decide ((ji11) < (t173.size : Int)) = true := decide_eq_true c13
                    clear c13
                    replace H := Option.bind_eq_some_iff.mp H
                    obtain ⟨t176, A150, H⟩ := H
                    replace H : (if t176 = true then (if (bt t173 (ji11)) = 10 then (if 0 ≤ (wrap64 (x12_1 + 1)) then (if (wrap64 (x12_1 + 1)) < (t173.size : Int) then ((spec_Blank.f (bt t173 (wrap64 (x12_1 + 1)))).bind fun t177 => (if t177 = true then (if (bt t173 (wrap64 (x12_1 + 1))) = 10 then (if x12_1 > 1 then (if 0 ≤ (wrap64 (x12_1 - 2)) then (if (wrap64 (x12_1 - 2)) < (t173.size : Int) then (if (bt t173 (wrap64 (x12_1 - 2))) = 10 then (some true) else (laws_FnTrimNewlinesNone.l0 k1 t173 (t173.size : Int) (wrap64 (x12_1 + 1)))) else (none)) else (none)) else (laws_FnTrimNewlinesNone.l0 k1 t173 (t173.size : Int) (wrap64 (x12_1 + 1)))) else (some true)) else (if x12_1 > 1 then (if 0 ≤ (wrap64 (x12_1 - 2)) then (if (wrap64 (x12_1 - 2)) < (t173.size : Int) then (if (bt t173 (wrap64 (x12_1 - 2))) = 10 then (some true) else (laws_FnTrimNewlinesNone.l0 k1 t173 (t173.size : Int) (wrap64 (x12_1 + 1)))) else (none)) else (none)) else (laws_FnTrimNewlinesNone.l0 k1 t173 (t173.size : Int) (wrap64 (x12_1 + 1)))))) else (none)) else (none)) else (some true)) else (if 0 ≤ (wrap64 (x12_1 + 1)) then (if (wrap64 (x12_1 + 1)) < (t173.size : Int) then ((spec_Blank.f (bt t173 (wrap64 (x12_1 + 1)))).bind fun t178 => (if t178 = true then (if (bt t173 (wrap64 (x12_1 + 1))) = 10 then (if x12_1 > 1 then (if (bt t173 (ji11)) = 10 then (if 0 ≤ (wrap64 (x12_1 - 2)) then (if (wrap64 (x12_1 - 2)) < (t173.size : Int) then (if (bt t173 (wrap64 (x12_1 - 2))) = 10 then (some true) else (laws_FnTrimNewlinesNone.l0 k1 t173 (t173.size : Int) (wrap64 (x12_1 + 1)))) else (none)) else (none)) else (laws_FnTrimNewlinesNone.l0 k1 t173 (t173.size : Int) (wrap64 (x12_1 + 1)))) else (laws_FnTrimNewlinesNone.l0 k1 t173 (t173.size : Int) (wrap64 (x12_1 + 1)))) else (some true)) else (if x12_1 > 1 then (if (bt t173 (ji11)) = 10 then (if 0 ≤ (wrap64 (x12_1 - 2)) then (if (wrap64 (x12_1 - 2)) < (t173.size : Int) then (if (bt t173 (wrap64 (x12_1 - 2))) = 10 then (some true) else (laws_FnTrimNewlinesNone.l0 k1 t173 (t173.size : Int) (wrap64 (x12_1 + 1)))) else (none)) else (none)) else (laws_FnTrimNewlinesNone.l0 k1 t173 (t173.size : Int) (wrap64 (x12_1 + 1)))) else (laws_FnTrimNewlinesNone.l0 k1 t173 (t173.size : Int) (wrap64 (x12_1 + 1)))))) else (none)) else (none))) = some r := H
                    have A15 := Aside0.mk A150
                    clear A150
                    by_cases c16 : t176 = true
                    · subst c16
                      have H1 : (if (bt t173 (ji11)) = 10 then (if 0 ≤ (wrap64 (x12_1 + 1)) then (if (wrap64 (x12_1 + 1)) < (t173.size : Int) then ((spec_Blank.f (bt t173 (wrap64 (x12_1 + 1)))).bind fun t177 => (if t177 = true then (if (bt t173 (wrap64 (x12_1 + 1))) = 10 then (if x12_1 > 1 then (if 0 ≤ (wrap64 (x12_1 - 2)) then (if (wrap64 (x12_1 - 2)) < (t173.size : Int) then (if (bt t173 (wrap64 (x12_1 - 2))) = 10 then (some true) else (laws_FnTrimNewlinesNone.l0 k1 t173 (t173.size : Int) (wrap64 (x12_1 + 1)))) else (none)) else (none)) else (laws_FnTrimNewlinesNone.l0 k1 t173 (t173.size : Int) (wrap64 (x12_1 + 1)))) else (some true)) else (if x12_1 > 1 then (if 0 ≤ (wrap64 (x12_1 - 2)) then (if (wrap64 (x12_1 - 2)) < (t173.size : Int) then (if (bt t173 (wrap64 (x12_1 - 2))) = 10 then (some true) else (laws_FnTrimNewlinesNone.l0 k1 t173 (t173.size : Int) (wrap64 (x12_1 + 1)))) else (none)) else (none)) else (laws_FnTrimNewlinesNone.l0 k1 t173 (t173.size : Int) (wrap64 (x12_1 + 1)))))) else (none)) else (none)) else (some true)) = some r := by rw [if_pos rfl] at H; exact H
                      clear H
                      have H := H1
                      clear H1
                      by_cases c18 : (bt t173 (ji11)) = 10
                      · rw [if_pos c18] at H
                        have c18b0 : ((bt t173 (ji11)) == 10) = true := beq_iff_eq.mpr c18
                        have c18b1 : ((bt t173 (ji11)) != 10) = false := bne_eq_false_iff_eq.mpr c18
                        clear c18
                        obtain ⟨ji19, hji19⟩ : ∃ j_ : Int, (wrap64 (x12_1 + 1)) = j_ := ⟨_, rfl⟩
                        replace H : (if 0 ≤ (ji19) then (if (ji19) < (t173.size : Int) then ((spec_Blank.f (bt t173 (ji19))).bind fun t177 => (if t177 = true then (if (bt t173 (ji19)) = 10 then (if x12_1 > 1 then (if 0 ≤ (wrap64 (x12_1 - 2)) then (if (wrap64 (x12_1 - 2)) < (t173.size : Int) then (if (bt t173 (wrap64 (x12_1 - 2))) = 10 then (some true) else (laws_FnTrimNewlinesNone.l0 k1 t173 (t173.size : Int) ji19)) else (none)) else (none)) else (laws_FnTrimNewlinesNone.l0 k1 t173 (t173.size : Int) ji19)) else (some true)) else (if x12_1 > 1 then (if 0 ≤ (wrap64 (x12_1 - 2)) then (if (wrap64 (x12_1 - 2)) < (t173.size : Int) then (if (bt t173 (wrap64 (x12_1 - 2))) = 10 then (some true) else (laws_FnTrimNewlinesNone.l0 k1 t173 (t173.size : Int) ji19)) else (none)) else (none)) else (laws_FnTrimNewlinesNone.l0 k1 t173 (t173.size : Int) ji19)))) else (none)) else (none)) = some r := by first | (rw [hji19] at H; exact H) | (simp only [hji19] at H ⊢; exact H)
                        (try rw [hji19] at A15)
                        have hji19w : (IntKind.i64.wrap (x12_1 + 1)) = ji19 := (i64_w _).trans hji19
                        by_cases c20 : 0 ≤ (ji19)
                        · rw [if_pos c20] at H
                          have c20b0 : decide (0 ≤ (ji19)) = true := decide_eq_true c20
                          clear c20
                          by_cases c21 : (ji19) < (t173.size : Int)
                          · rw [if_pos c21] at H
                            have c21b0 : decide ((ji19) < (t173.size : Int)) = true := decide_eq_true c21
                            clear c21
                            replace H := Option.bind_eq_some_iff.mp H
                            obtain ⟨t177, A230, H⟩ := H
                            replace H : (if t177 = true then (if (bt t173 (ji19)) = 10 then (if x12_1 > 1 then (if 0 ≤ (wrap64 (x12_1 - 2)) then (if (wrap64 (x12_1 - 2)) < (t173.size : Int) then (if (bt t173 (wrap64 (x12_1 - 2))) = 10 then (some true) else (laws_FnTrimNewlinesNone.l0 k1 t173 (t173.size : Int) ji19)) else (none)) else (none)) else (laws_FnTrimNewlinesNone.l0 k1 t173 (t173.size : Int) ji19)) else (some true)) else (if x12_1 > 1 then (if 0 ≤ (wrap64 (x12_1 - 2)) then (if (wrap64 (x12_1 - 2)) < (t173.size : Int) then (if (bt t173 (wrap64 (x12_1 - 2))) = 10 then (some true) else (laws_FnTrimNewlinesNone.l0 k1 t173 (t173.size : Int) ji19)) else (none)) else (none)) else (laws_FnTrimNewlinesNone.l0 k1 t173 (t173.size : Int) ji19))) = some r := H
                            have A23 := Aside0.mk A230
                            clear A230
                            by_cases c24 : t177 = true
                            · subst c24
                              have H1 : (if (bt t173 (ji19)) = 10 then (if x12_1 > 1 then (if 0 ≤ (wrap64 (x12_1 - 2)) then (if (wrap64 (x12_1 - 2)) < (t173.size : Int) then (if (bt t173 (wrap64 (x12_1 - 2))) = 10 then (some true) else (laws_FnTrimNewlinesNone.l0 k1 t173 (t173.size : Int) ji19)) else (none)) else (none)) else (laws_FnTrimNewlinesNone.l0 k1 t173 (t173.size : Int) ji19)) else (some true)) = some r := by rw [if_pos rfl] at H; exact H
                              clear H
                              have H := H1
                              clear H1
                              by_cases c26 : (bt t173 (ji19)) = 10
                              · rw [if_pos c26] at H
                                have c26b0 : ((bt t173 (ji19)) == 10) = true := beq_iff_eq.mpr c26
                                have c26b1 : ((bt t173 (ji19)) != 10) = false := bne_eq_false_iff_eq.mpr c26
                                clear c26
                                by_cases c27 : x12_1 > 1
                                · rw [if_pos c27] at H
                                  have c27b0 : decide (1 < x12_1) = true := decide_eq_true c27
                                  clear c27
                                  obtain ⟨ji29, hji29⟩ : ∃ j_ : Int, (wrap64 (x12_1 - 2)) = j_ := ⟨_, rfl⟩
                                  replace H : (if 0 ≤ (ji29) then (if (ji29) < (t173.size : Int) then (if (bt t173 (ji29)) = 10 then (some true) else (laws_FnTrimNewlinesNone.l0 k1 t173 (t173.size : Int) ji19)) else (none)) else (none)) = some r := by first | (rw [hji29] at H; exact H) | (simp only [hji29] at H ⊢; exact H)
                                  (try rw [hji29] at A15)
                                  (try rw [hji29] at A23)
                                  have hji29w : (IntKind.i64.wrap (x12_1 - 2)) = ji29 := (i64_w _).trans hji29
                                  by_cases c30 : 0 ≤ (ji29)
                                  · rw [if_pos c30] at H
                                    have c30b0 : decide (0 ≤ (ji29)) = true := decide_eq_true c30
                                    clear c30
                                    by_cases c31 : (ji29) < (t173.size : Int)
                                    · rw [if_pos c31] at H
                                      have c31b0 : decide ((ji29) < (t173.size : Int)) = true := decide_eq_true c31
                                      clear c31
                                      by_cases c33 : (bt t173 (ji29)) = 10
                                      · rw [if_pos c33] at H
                                        have c33b0 : ((bt t173 (ji29)) == 10) = true := beq_iff_eq.mpr c33
                                        have c33b1 : ((bt t173 (ji29)) != 10) = false := bne_eq_false_iff_eq.mpr c33
                                        clear c33
                                        obtain rfl := Option.some.inj H
                                        have p9 : 0 ≤ (x12_1 : Int) := of_decide_eq_true (by first | (with_reducible assumption) | assumption)
                                        have q9 : x12_1 < (t173.size : Int) := of_decide_eq_true (by first | (with_reducible assumption) | assumption)
                                        have hx9 := bt_at t173 x12_1
                                        replace p9 := eq_true p9
                                        replace q9 := eq_true q9
                                        have p14 : 0 ≤ ((ji11) : Int) := of_decide_eq_true (by first | (with_reducible assumption) | assumption)
                                        have q14 : (ji11) < (t173.size : Int) := of_decide_eq_true (by first | (with_reducible assumption) | assumption)
                                        have hx14 := bt_at t173 (ji11)
                                        replace p14 := eq_true p14
                                        replace q14 := eq_true q14
                                        go_wp2_with (first | (go_at_call 12; (with_reducible refine (spec_Blank.calls (bt t173 (ji11)) true _ A15.out).mono ?_); rintro e w' ⟨rfl, ⟨nd, rfl⟩⟩; have p17 : 0 ≤ ((ji11) : Int) := of_decide_eq_true (by first | (with_reducible assumption) | assumption); have q17 : (ji11) < (t173.size : Int) := of_decide_eq_true (by first | (with_reducible assumption) | assumption); have hx17 := bt_at t173 (ji11); replace p17 := eq_true p17; replace q17 := eq_true q17; have p22 : 0 ≤ ((ji19) : Int) := of_decide_eq_true (by first | (with_reducible assumption) | assumption); have q22 : (ji19) < (t173.size : Int) := of_decide_eq_true (by first | (with_reducible assumption) | assumption); have hx22 := bt_at t173 (ji19); replace p22 := eq_true p22; replace q22 := eq_true q22) | (go_at_call 12; (with_reducible refine (spec_Blank.calls (bt t173 (ji19)) true _ A23.out).mono ?_); rintro e w' ⟨rfl, ⟨nd, rfl⟩⟩; have p25 : 0 ≤ ((ji19) : Int) := of_decide_eq_true (by first | (with_reducible assumption) | assumption); have q25 : (ji19) < (t173.size : Int) := of_decide_eq_true (by first | (with_reducible assumption) | assumption); have hx25 := bt_at t173 (ji19); replace p25 := eq_true p25; replace q25 := eq_true q25; have p28 : 0 ≤ ((ji11) : Int) := of_decide_eq_true (by first | (with_reducible assumption) | assumption); have q28 : (ji11) < (t173.size : Int) := of_decide_eq_true (by first | (with_reducible assumption) | assumption); have hx28 := bt_at t173 (ji11); replace p28 := eq_true p28; replace q28 := eq_true q28; have p32 : 0 ≤ ((ji29) : Int) := of_decide_eq_true (by first | (with_reducible assumption) | assumption); have q32 : (ji29) < (t173.size : Int) := of_decide_eq_true (by first | (with_reducible assumption) | assumption); have hx32 := bt_at t173 (ji29); replace p32 := eq_true p32; replace q32 := eq_true q32))
                                        go_ret
                                        exact ⟨by first | rfl | (simp [errW_none, errW_some] <;> rfl) | (simp only [← hji11, ← hji19, ← hji29]; first | rfl | (simp [errW_none, errW_some] <;> rfl)) | (simp [*, errW_none, errW_some] <;> rfl), by repeat (first | (with_reducible first | exact HB.out | apply below_alloc | apply pw_below_drewN | apply below_drew1) | exact HB.out)⟩
                                      · rw [if_neg c33] at H
                                        have c33b0 : ((bt t173 (ji29)) == 10) = false := beq_eq_false_iff_ne.mpr c33
                                        have c33b1 : ((bt t173 (ji29)) != 10) = true := bne_iff_ne.mpr c33
                                        have H' := Aside0.mk H
                                        clear H
                                        have p9 : 0 ≤ (x12_1 : Int) := of_decide_eq_true (by first | (with_reducible assumption) | assumption)
                                        have q9 : x12_1 < (t173.size : Int) := of_decide_eq_true (by first | (with_reducible assumption) | assumption)
                                        have hx9 := bt_at t173 x12_1
                                        replace p9 := eq_true p9
                                        replace q9 := eq_true q9
                                        have p14 : 0 ≤ ((ji11) : Int) := of_decide_eq_true (by first | (with_reducible assumption) | assumption)
                                        have q14 : (ji11) < (t173.size : Int) := of_decide_eq_true (by first | (with_reducible assumption) | assumption)
                                        have hx14 := bt_at t173 (ji11)
                                        replace p14 := eq_true p14
                                        replace q14 := eq_true q14
                                        go_wp2_with (first | (go_at_call 12; (with_reducible refine (spec_Blank.calls (bt t173 (ji11)) true _ A15.out).mono ?_); rintro e w' ⟨rfl, ⟨nd, rfl⟩⟩; have p17 : 0 ≤ ((ji11) : Int) := of_decide_eq_true (by first | (with_reducible assumption) | assumption); have q17 : (ji11) < (t173.size : Int) := of_decide_eq_true (by first | (with_reducible assumption) | assumption); have hx17 := bt_at t173 (ji11); replace p17 := eq_true p17; replace q17 := eq_true q17; have p22 : 0 ≤ ((ji19) : Int) := of_decide_eq_true (by first | (with_reducible assumption) | assumption); have q22 : (ji19) < (t173.size : Int) := of_decide_eq_true (by first | (with_reducible assumption) | assumption); have hx22 := bt_at t173 (ji19); replace p22 := eq_true p22; replace q22 := eq_true q22) | (go_at_call 12; (with_reducible refine (spec_Blank.calls (bt t173 (ji19)) true _ A23.out).mono ?_); rintro e w' ⟨rfl, ⟨nd, rfl⟩⟩; have p25 : 0 ≤ ((ji19) : Int) := of_decide_eq_true (by first | (with_reducible assumption) | assumption); have q25 : (ji19) < (t173.size : Int) := of_decide_eq_true (by first | (with_reducible assumption) | assumption); have hx25 := bt_at t173 (ji19); replace p25 := eq_true p25; replace q25 := eq_true q25; have p28 : 0 ≤ ((ji11) : Int) := of_decide_eq_true (by first | (with_reducible assumption) | assumption); have q28 : (ji11) < (t173.size : Int) := of_decide_eq_true (by first | (with_reducible assumption) | assumption); have hx28 := bt_at t173 (ji11); replace p28 := eq_true p28; replace q28 := eq_true q28; have p32 : 0 ≤ ((ji29) : Int) := of_decide_eq_true (by first | (with_reducible assumption) | assumption); have q32 : (ji29) < (t173.size : Int) := of_decide_eq_true (by first | (with_reducible assumption) | assumption); have hx32 := bt_at t173 (ji29); replace p32 := eq_true p32; replace q32 := eq_true q32))
                                        go_roundg k1
                                        case measure => have := HK1.out; omega
                                        case rel => exact ⟨(ji19), (by first | rfl | (simp; done) | (simp only [← hji19] <;> (first | rfl | simp)) | (simp [*]; done)), H', ⟨by have := HK1.out; omega⟩, ⟨by repeat (first | (with_reducible first | exact HB.out | apply below_alloc | apply pw_below_drewN | apply below_drew1) | exact HB.out)⟩⟩
                                    · rw [if_neg c31] at H
                                      exact absurd H (by simp)
                                  · rw [if_neg c30] at H
                                    exact absurd H (by simp)
                                · rw [if_neg c27] at H
                                  have c27b0 : decide (1 < x12_1) = false := decide_eq_false c27
                                  clear c27
                                  have H' := Aside0.mk H
                                  clear H
                                  have p9 : 0 ≤ (x12_1 : Int) := of_decide_eq_true (by first | (with_reducible assumption) | assumption)
                                  have q9 : x12_1 < (t173.size : Int) := of_decide_eq_true (by first | (with_reducible assumption) | assumption)
                                  have hx9 := bt_at t173 x12_1
                                  replace p9 := eq_true p9
                                  replace q9 := eq_true q9
                                  have p14 : 0 ≤ ((ji11) : Int) := of_decide_eq_true (by first | (with_reducible assumption) | assumption)
                                  have q14 : (ji11) < (t173.size : Int) := of_decide_eq_true (by first | (with_reducible assumption) | assumption)
                                  have hx14 := bt_at t173 (ji11)
                                  replace p14 := eq_true p14
                                  replace q14 := eq_true q14
                                  go_wp2_with (first | (go_at_call 12; (with_reducible refine (spec_Blank.calls (bt t173 (ji11)) true _ A15.out).mono ?_); rintro e w' ⟨rfl, ⟨nd, rfl⟩⟩; have p17 : 0 ≤ ((ji11) : Int) := of_decide_eq_true (by first | (with_reducible assumption) | assumption); have q17 : (ji11) < (t173.size : Int) := of_decide_eq_true (by first | (with_reducible assumption) | assumption); have hx17 := bt_at t173 (ji11); replace p17 := eq_true p17; replace q17 := eq_true q17; have p22 : 0 ≤ ((ji19) : Int) := of_decide_eq_true (by first | (with_reducible assumption) | assumption); have q22 : (ji19) < (t173.size : Int) := of_decide_eq_true (by first | (with_reducible assumption) | assumption); have hx22 := bt_at t173 (ji19); replace p22 := eq_true p22; replace q22 := eq_true q22) | (go_at_call 12; (with_reducible refine (spec_Blank.calls (bt t173 (ji19)) true _ A23.out).mono ?_); rintro e w' ⟨rfl, ⟨nd, rfl⟩⟩; have p25 : 0 ≤ ((ji19) : Int) := of_decide_eq_true (by first | (with_reducible assumption) | assumption); have q25 : (ji19) < (t173.size : Int) := of_decide_eq_true (by first | (with_reducible assumption) | assumption); have hx25 := bt_at t173 (ji19); replace p25 := eq_true p25; replace q25 := eq_true q25))
                                  go_roundg k1
                                  case measure => have := HK1.out; omega
                                  case rel => exact ⟨(ji19), (by first | rfl | (simp; done) | (simp only [← hji19] <;> (first | rfl | simp)) | (simp [*]; done)), H', ⟨by have := HK1.out; omega⟩, ⟨by repeat (first | (with_reducible first | exact HB.out | apply below_alloc | apply pw_below_drewN | apply below_drew1) | exact HB.out)⟩⟩
                              · rw [if_neg c26] at H
                                have c26b0 : ((bt t173 (ji19)) == 10) = false := beq_eq_false_iff_ne.mpr c26
                                have c26b1 : ((bt t173 (ji19)) != 10) = true := bne_iff_ne.mpr c26
                                obtain rfl := Option.some.inj H
                                have p9 : 0 ≤ (x12_1 : Int) := of_decide_eq_true (by first | (with_reducible assumption) | assumption)
                                have q9 : x12_1 < (t173.size : Int) := of_decide_eq_true (by first | (with_reducible assumption) | assumption)
                                have hx9 := bt_at t173 x12_1
                                replace p9 := eq_true p9
                                replace q9 := eq_true q9
                                have p14 : 0 ≤ ((ji11) : Int) := of_decide_eq_true (by first | (with_reducible assumption) | assumption)
                                have q14 : (ji11) < (t173.size : Int) := of_decide_eq_true (by first | (with_reducible assumption) | assumption)
                                have hx14 := bt_at t173 (ji11)
                                replace p14 := eq_true p14
                                replace q14 := eq_true q14
                                go_wp2_with (first | (go_at_call 12; (with_reducible refine (spec_Blank.calls (bt t173 (ji11)) true _ A15.out).mono ?_); rintro e w' ⟨rfl, ⟨nd, rfl⟩⟩; have p17 : 0 ≤ ((ji11) : Int) := of_decide_eq_true (by first | (with_reducible assumption) | assumption); have q17 : (ji11) < (t173.size : Int) := of_decide_eq_true (by first | (with_reducible assumption) | assumption); have hx17 := bt_at t173 (ji11); replace p17 := eq_true p17; replace q17 := eq_true q17; have p22 : 0 ≤ ((ji19) : Int) := of_decide_eq_true (by first | (with_reducible assumption) | assumption); have q22 : (ji19) < (t173.size : Int) := of_decide_eq_true (by first | (with_reducible assumption) | assumption); have hx22 := bt_at t173 (ji19); replace p22 := eq_true p22; replace q22 := eq_true q22) | (go_at_call 12; (with_reducible refine (spec_Blank.calls (bt t173 (ji19)) true _ A23.out).mono ?_); rintro e w' ⟨rfl, ⟨nd, rfl⟩⟩; have p25 : 0 ≤ ((ji19) : Int) := of_decide_eq_true (by first | (with_reducible assumption) | assumption); have q25 : (ji19) < (t173.size : Int) := of_decide_eq_true (by first | (with_reducible assumption) | assumption); have hx25 := bt_at t173 (ji19); replace p25 := eq_true p25; replace q25 := eq_true q25))
                                go_ret
                                exact ⟨by first | rfl | (simp [errW_none, errW_some] <;> rfl) | (simp only [← hji11, ← hji19]; first | rfl | (simp [errW_none, errW_some] <;> rfl)) | (simp [*, errW_none, errW_some] <;> rfl), by repeat (first | (with_reducible first | exact HB.out | apply below_alloc | apply pw_below_drewN | apply below_drew1) | exact HB.out)⟩
                            · replace c24 := Bool.eq_false_iff.mpr c24
                              subst c24
                              have H1 : (if x12_1 > 1 then (if 0 ≤ (wrap64 (x12_1 - 2)) then (if (wrap64 (x12_1 - 2)) < (t173.size : Int) then (if (bt t173 (wrap64 (x12_1 - 2))) = 10 then (some true) else (laws_FnTrimNewlinesNone.l0 k1 t173 (t173.size : Int) ji19)) else (none)) else (none)) else (laws_FnTrimNewlinesNone.l0 k1 t173 (t173.size : Int) ji19)) = some r := by rw [if_neg (show ¬ (false = true) by decide)] at H; exact H
                              clear H
                              have H := H1
                              clear H1
                              by_cases c34 : x12_1 > 1
                              · rw [if_pos c34] at H
                                have c34b0 : decide (1 < x12_1) = true := decide_eq_true c34
                                clear c34
                                obtain ⟨ji36, hji36⟩ : ∃ j_ : Int, (wrap64 (x12_1 - 2)) = j_ := ⟨_, rfl⟩
                                replace H : (if 0 ≤ (ji36) then (if (ji36) < (t173.size : Int) then (if (bt t173 (ji36)) = 10 then (some true) else (laws_FnTrimNewlinesNone.l0 k1 t173 (t173.size : Int) ji19)) else (none)) else (none)) = some r := by first | (rw [hji36] at H; exact H) | (simp only [hji36] at H ⊢; exact H)
                                (try rw [hji36] at A15)
                                (try rw [hji36] at A23)
                                have hji36w : (IntKind.i64.wrap (x12_1 - 2)) = ji36 := (i64_w _).trans hji36
                                by_cases c37 : 0 ≤ (ji36)
                                · rw [if_pos c37] at H
                                  have c37b0 : decide (0 ≤ (ji36)) = true := decide_eq_true c37
                                  clear c37
                                  by_cases c38 : (ji36) < (t173.size : Int)
                                  · rw [if_pos c38] at H
                                    have c38b0 : decide ((ji36) < (t173.size : Int)) = true := decide_eq_true c38
                                    clear c38
                                    by_cases c40 : (bt t173 (ji36)) = 10
                                    · rw [if_pos c40] at H
                                      have c40b0 : ((bt t173 (ji36)) == 10) = true := beq_iff_eq.mpr c40
                                      have c40b1 : ((bt t173 (ji36)) != 10) = false := bne_eq_false_iff_eq.mpr c40
                                      clear c40
                                      obtain rfl := Option.some.inj H
                                      have p9 : 0 ≤ (x12_1 : Int) := of_decide_eq_true (by first | (with_reducible assumption) | assumption)
                                      have q9 : x12_1 < (t173.size : Int) := of_decide_eq_true (by first | (with_reducible assumption) | assumption)
                                      have hx9 := bt_at t173 x12_1
                                      replace p9 := eq_true p9
                                      replace q9 := eq_true q9
                                      have p14 : 0 ≤ ((ji11) : Int) := of_decide_eq_true (by first | (with_reducible assumption) | assumption)
                                      have q14 : (ji11) < (t173.size : Int) := of_decide_eq_true (by first | (with_reducible assumption) | assumption)
                                      have hx14 := bt_at t173 (ji11)
                                      replace p14 := eq_true p14
                                      replace q14 := eq_true q14
                                      go_wp2_with (first | (go_at_call 12; (with_reducible refine (spec_Blank.calls (bt t173 (ji11)) true _ A15.out).mono ?_); rintro e w' ⟨rfl, ⟨nd, rfl⟩⟩; have p17 : 0 ≤ ((ji11) : Int) := of_decide_eq_true (by first | (with_reducible assumption) | assumption); have q17 : (ji11) < (t173.size : Int) := of_decide_eq_true (by first | (with_reducible assumption) | assumption); have hx17 := bt_at t173 (ji11); replace p17 := eq_true p17; replace q17 := eq_true q17; have p22 : 0 ≤ ((ji19) : Int) := of_decide_eq_true (by first | (with_reducible assumption) | assumption); have q22 : (ji19) < (t173.size : Int) := of_decide_eq_true (by first | (with_reducible assumption) | assumption); have hx22 := bt_at t173 (ji19); replace p22 := eq_true p22; replace q22 := eq_true q22) | (go_at_call 12; (with_reducible refine (spec_Blank.calls (bt t173 (ji19)) false _ A23.out).mono ?_); rintro e w' ⟨rfl, ⟨nd, rfl⟩⟩; have p35 : 0 ≤ ((ji11) : Int) := of_decide_eq_true (by first | (with_reducible assumption) | assumption); have q35 : (ji11) < (t173.size : Int) := of_decide_eq_true (by first | (with_reducible assumption) | assumption); have hx35 := bt_at t173 (ji11); replace p35 := eq_true p35; replace q35 := eq_true q35; have p39 : 0 ≤ ((ji36) : Int) := of_decide_eq_true (by first | (with_reducible assumption) | assumption); have q39 : (ji36) < (t173.size : Int) := of_decide_eq_true (by first | (with_reducible assumption) | assumption); have hx39 := bt_at t173 (ji36); replace p39 := eq_true p39; replace q39 := eq_true q39))
                                      go_ret
                                      exact ⟨by first | rfl | (simp [errW_none, errW_some] <;> rfl) | (simp only [← hji11, ← hji19, ← hji36]; first | rfl | (simp [errW_none, errW_some] <;> rfl)) | (simp [*, errW_none, errW_some] <;> rfl), by repeat (first | (with_reducible first | exact HB.out | apply below_alloc | apply pw_below_drewN | apply below_drew1) | exact HB.out)⟩
                                    · rw [if_neg c40] at H
                                      have c40b0 : ((bt t173 (ji36)) == 10) = false := beq_eq_false_iff_ne.mpr c40
                                      have c40b1 : ((bt t173 (ji36)) != 10) = true := bne_iff_ne.mpr c40
                                      have H' := Aside0.mk H
                                      clear H
                                      have p9 : 0 ≤ (x12_1 : Int) := of_decide_eq_true (by first | (with_reducible assumption) | assumption)
                                      have q9 : x12_1 < (t173.size : Int) := of_decide_eq_true (by first | (with_reducible assumption) | assumption)
                                      have hx9 := bt_at t173 x12_1
                                      replace p9 := eq_true p9
                                      replace q9 := eq_true q9
                                      have p14 : 0 ≤ ((ji11) : Int) := of_decide_eq_true (by first | (with_reducible assumption) | assumption)
                                      have q14 : (ji11) < (t173.size : Int) := of_decide_eq_true (by first | (with_reducible assumption) | assumption)
                                      have hx14 := bt_at t173 (ji11)
                                      replace p14 := eq_true p14
                                      replace q14 := eq_true q14
                                      go_wp2_with (first | (go_at_call 12; (with_reducible refine (spec_Blank.calls (bt t173 (ji11)) true _ A15.out).mono ?_); rintro e w' ⟨rfl, ⟨nd, rfl⟩⟩; have p17 : 0 ≤ ((ji11) : Int) := of_decide_eq_true (by first | (with_reducible assumption) | assumption); have q17 : (ji11) < (t173.size : Int) := of_decide_eq_true (by first | (with_reducible assumption) | assumption); have hx17 := bt_at t173 (ji11); replace p17 := eq_true p17; replace q17 := eq_true q17; have p22 : 0 ≤ ((ji19) : Int) := of_decide_eq_true (by first | (with_reducible assumption) | assumption); have q22 : (ji19) < (t173.size : Int) := of_decide_eq_true (by first | (with_reducible assumption) | assumption); have hx22 := bt_at t173 (ji19); replace p22 := eq_true p22; replace q22 := eq_true q22) | (go_at_call 12; (with_reducible refine (spec_Blank.calls (bt t173 (ji19)) false _ A23.out).mono ?_); rintro e w' ⟨rfl, ⟨nd, rfl⟩⟩; have p35 : 0 ≤ ((ji11) : Int) := of_decide_eq_true (by first | (with_reducible assumption) | assumption); have q35 : (ji11) < (t173.size : Int) := of_decide_eq_true (by first | (with_reducible assumption) | assumption); have hx35 := bt_at t173 (ji11); replace p35 := eq_true p35; replace q35 := eq_true q35; have p39 : 0 ≤ ((ji36) : Int) := of_decide_eq_true (by first | (with_reducible assumption) | assumption); have q39 : (ji36) < (t173.size : Int) := of_decide_eq_true (by first | (with_reducible assumption) | assumption); have hx39 := bt_at t173 (ji36); replace p39 := eq_true p39; replace q39 := eq_true q39))
                                      go_roundg k1
                                      case measure => have := HK1.out; omega
                                      case rel => exact ⟨(ji19), (by first | rfl | (simp; done) | (simp only [← hji19] <;> (first | rfl | simp)) | (simp [*]; done)), H', ⟨by have := HK1.out; omega⟩, ⟨by repeat (first | (with_reducible first | exact HB.out | apply below_alloc | apply pw_below_drewN | apply below_drew1) | exact HB.out)⟩⟩
                                  · rw [if_neg c38] at H
                                    exact absurd H (by simp)
                                · rw [if_neg c37] at H
                                  exact absurd H (by simp)
                              · rw [if_neg c34] at H
                                have c34b0 : decide (1 < x12_1) = false := decide_eq_false c34
                                clear c34
                                have H' := Aside0.mk H
                                clear H
                                have p9 : 0 ≤ (x12_1 : Int) := of_decide_eq_true (by first | (with_reducible assumption) | assumption)
                                have q9 : x12_1 < (t173.size : Int) := of_decide_eq_true (by first | (with_reducible assumption) | assumption)
                                have hx9 := bt_at t173 x12_1
                                replace p9 := eq_true p9
                                replace q9 := eq_true q9
                                have p14 : 0 ≤ ((ji11) : Int) := of_decide_eq_true (by first | (with_reducible assumption) | assumption)
                                have q14 : (ji11) < (t173.size : Int) := of_decide_eq_true (by first | (with_reducible assumption) | assumption)
                                have hx14 := bt_at t173 (ji11)
                                replace p14 := eq_true p14
                                replace q14 := eq_true q14
                                go_wp2_with (first | (go_at_call 12; (with_reducible refine (spec_Blank.calls (bt t173 (ji11)) true _ A15.out).mono ?_); rintro e w' ⟨rfl, ⟨nd, rfl⟩⟩; have p17 : 0 ≤ ((ji11) : Int) := of_decide_eq_true (by first | (with_reducible assumption) | assumption); have q17 : (ji11) < (t173.size : Int) := of_decide_eq_true (by first | (with_reducible assumption) | assumption); have hx17 := bt_at t173 (ji11); replace p17 := eq_true p17; replace q17 := eq_true q17; have p22 : 0 ≤ ((ji19) : Int) := of_decide_eq_true (by first | (with_reducible assumption) | assumption); have q22 : (ji19) < (t173.size : Int) := of_decide_eq_true (by first | (with_reducible assumption) | assumption); have hx22 := bt_at t173 (ji19); replace p22 := eq_true p22; replace q22 := eq_true q22) | (go_at_call 12; (with_reducible refine (spec_Blank.calls (bt t173 (ji19)) false _ A23.out).mono ?_); rintro e w' ⟨rfl, ⟨nd, rfl⟩⟩))
                                go_roundg k1
                                case measure => have := HK1.out; omega
                                case rel => exact ⟨(ji19), (by first | rfl | (simp; done) | (simp only [← hji19] <;> (first | rfl | simp)) | (simp [*]; done)), H', ⟨by have := HK1.out; omega⟩, ⟨by repeat (first | (with_reducible first | exact HB.out | apply below_alloc | apply pw_below_drewN | apply below_drew1) | exact HB.out)⟩⟩
                          · rw [if_neg c21] at H
                            exact absurd H (by simp)
                        · rw [if_neg c20] at H
                          exact absurd H (by simp)
                      · rw [if_neg c18] at H
                        have c18b0 : ((bt t173 (ji11)) == 10) = false := beq_eq_false_iff_ne.mpr c18
                        have c18b1 : ((bt t173 (ji11)) != 10) = true := bne_iff_ne.mpr c18
                        obtain rfl := Option.some.inj H
                        have p9 : 0 ≤ (x12_1 : Int) := of_decide_eq_true (by first | (with_reducible assumption) | assumption)
                        have q9 : x12_1 < (t173.size : Int) := of_decide_eq_true (by first | (with_reducible assumption) | assumption)
                        have hx9 := bt_at t173 x12_1
                        replace p9 := eq_true p9
                        replace q9 := eq_true q9
                        have p14 : 0 ≤ ((ji11) : Int) := of_decide_eq_true (by first | (with_reducible assumption) | assumption)
                        have q14 : (ji11) < (t173.size : Int) := of_decide_eq_true (by first | (with_reducible assumption) | assumption)
                        have hx14 := bt_at t173 (ji11)
                        replace p14 := eq_true p14
                        replace q14 := eq_true q14
                        go_wp2_with (first | (go_at_call 12; (with_reducible refine (spec_Blank.calls (bt t173 (ji11)) true _ A15.out).mono ?_); rintro e w' ⟨rfl, ⟨nd, rfl⟩⟩; have p17 : 0 ≤ ((ji11) : Int) := of_decide_eq_true (by first | (with_reducible assumption) | assumption); have q17 : (ji11) < (t173.size : Int) := of_decide_eq_true (by first | (with_reducible assumption) | assumption); have hx17 := bt_at t173 (ji11); replace p17 := eq_true p17; replace q17 := eq_true q17))
                        go_ret
                        exact ⟨by first | rfl | (simp [errW_none, errW_some] <;> rfl) | (simp only [← hji11]; first | rfl | (simp [errW_none, errW_some] <;> rfl)) | (simp [*, errW_none, errW_some] <;> rfl), by repeat (first | (with_reducible first | exact HB.out | apply below_alloc | apply pw_below_drewN | apply below_drew1) | exact HB.out)⟩
                    · replace c16 := Bool.eq_false_iff.mpr c16
                      subst c16
                      have H1 : (if 0 ≤ (wrap64 (x12_1 + 1)) then (if (wrap64 (x12_1 + 1)) < (t173.size : Int) then ((spec_Blank.f (bt t173 (wrap64 (x12_1 + 1)))).bind fun t178 => (if t178 = true then (if (bt t173 (wrap64 (x12_1 + 1))) = 10 then (if x12_1 > 1 then (if (bt t173 (ji11)) = 10 then (if 0 ≤ (wrap64 (x12_1 - 2)) then (if (wrap64 (x12_1 - 2)) < (t173.size : Int) then (if (bt t173 (wrap64 (x12_1 - 2))) = 10 then (some true) else (laws_FnTrimNewlinesNone.l0 k1 t173 (t173.size : Int) (wrap64 (x12_1 + 1)))) else (none)) else (none)) else (laws_FnTrimNewlinesNone.l0 k1 t173 (t173.size : Int) (wrap64 (x12_1 + 1)))) else (laws_FnTrimNewlinesNone.l0 k1 t173 (t173.size : Int) (wrap64 (x12_1 + 1)))) else (some true)) else (if x12_1 > 1 then (if (bt t173 (ji11)) = 10 then (if 0 ≤ (wrap64 (x12_1 - 2)) then (if (wrap64 (x12_1 - 2)) < (t173.size : Int) then (if (bt t173 (wrap64 (x12_1 - 2))) = 10 then (some true) else (laws_FnTrimNewlinesNone.l0 k1 t173 (t173.size : Int) (wrap64 (x12_1 + 1)))) else (none)) else (none)) else (laws_FnTrimNewlinesNone.l0 k1 t173 (t173.size : Int) (wrap64 (x12_1 + 1)))) else (laws_FnTrimNewlinesNone.l0 k1 t173 (t173.size : Int) (wrap64 (x12_1 + 1)))))) else (none)) else (none)) = some r := by rw [if_neg (show ¬ (false = true) by decide)] at H; exact H
                      clear H
                      have H := H1
                      clear H1
                      obtain ⟨ji41, hji41⟩ : ∃ j_ : Int, (wrap64 (x12_1 + 1)) = j_ := ⟨_, rfl⟩
                      replace H : (if 0 ≤ (ji41) then (if (ji41) < (t173.size : Int) then ((spec_Blank.f (bt t173 (ji41))).bind fun t178 => (if t178 = true then (if (bt t173 (ji41)) = 10 then (if x12_1 > 1 then (if (bt t173 (ji11)) = 10 then (if 0 ≤ (wrap64 (x12_1 - 2)) then (if (wrap64 (x12_1 - 2)) < (t173.size : Int) then (if (bt t173 (wrap64 (x12_1 - 2))) = 10 then (some true) else (laws_FnTrimNewlinesNone.l0 k1 t173 (t173.size : Int) ji41)) else (none)) else (none)) else (laws_FnTrimNewlinesNone.l0 k1 t173 (t173.size : Int) ji41)) else (laws_FnTrimNewlinesNone.l0 k1 t173 (t173.size : Int) ji41)) else (some true)) else (if x12_1 > 1 then (if (bt t173 (ji11)) = 10 then (if 0 ≤ (wrap64 (x12_1 - 2)) then (if (wrap64 (x12_1 - 2)) < (t173.size : Int) then (if (bt t173 (wrap64 (x12_1 - 2))) = 10 then (some true) else (laws_FnTrimNewlinesNone.l0 k1 t173 (t173.size : Int) ji41)) else (none)) else (none)) else (laws_FnTrimNewlinesNone.l0 k1 t173 (t173.size : Int) ji41)) else (laws_FnTrimNewlinesNone.l0 k1 t173 (t173.size : Int) ji41)))) else (none)) else (none)) = some r := by first | (rw [hji41] at H; exact H) | (simp only [hji41] at H ⊢; exact H)
                      (try rw [hji41] at A15)
                      have hji41w : (IntKind.i64.wrap (x12_1 + 1)) = ji41 := (i64_w _).trans hji41
                      by_cases c42 : 0 ≤ (ji41)
                      · rw [if_pos c42] at H
                        have c42b0 : decide (0 ≤ (ji41)) = true := decide_eq_true c42
                        clear c42
                        by_cases c43 : (ji41) < (t173.size : Int)
                        · rw [if_pos c43] at H
                          have c43b0 : decide ((ji41) < (t173.size : Int)) = true := decide_eq_true c43
                          clear c43
                          replace H := Option.bind_eq_some_iff.mp H
                          obtain ⟨t178, A450, H⟩ := H
                          replace H : (if t178 = true then (if (bt t173 (ji41)) = 10 then (if x12_1 > 1 then (if (bt t173 (ji11)) = 10 then (if 0 ≤ (wrap64 (x12_1 - 2)) then (if (wrap64 (x12_1 - 2)) < (t173.size : Int) then (if (bt t173 (wrap64 (x12_1 - 2))) = 10 then (some true) else (laws_FnTrimNewlinesNone.l0 k1 t173 (t173.size : Int) ji41)) else (none)) else (none)) else (laws_FnTrimNewlinesNone.l0 k1 t173 (t173.size : Int) ji41)) else (laws_FnTrimNewlinesNone.l0 k1 t173 (t173.size : Int) ji41)) else (some true)) else (if x12_1 > 1 then (if (bt t173 (ji11)) = 10 then (if 0 ≤ (wrap64 (x12_1 - 2)) then (if (wrap64 (x12_1 - 2)) < (t173.size : Int) then (if (bt t173 (wrap64 (x12_1 - 2))) = 10 then (some true) else (laws_FnTrimNewlinesNone.l0 k1 t173 (t173.size : Int) ji41)) else (none)) else (none)) else (laws_FnTrimNewlinesNone.l0 k1 t173 (t173.size : Int) ji41)) else (laws_FnTrimNewlinesNone.l0 k1 t173 (t173.size : Int) ji41))) = some r := H
                          have A45 := Aside0.mk A450
                          clear A450
                          by_cases c46 : t178 = true
                          · subst c46
                            have H1 : (if (bt t173 (ji41)) = 10 then (if x12_1 > 1 then (if (bt t173 (ji11)) = 10 then (if 0 ≤ (wrap64 (x12_1 - 2)) then (if (wrap64 (x12_1 - 2)) < (t173.size : Int) then (if (bt t173 (wrap64 (x12_1 - 2))) = 10 then (some true) else (laws_FnTrimNewlinesNone.l0 k1 t173 (t173.size : Int) ji41)) else (none)) else (none)) else (laws_FnTrimNewlinesNone.l0 k1 t173 (t173.size : Int) ji41)) else (laws_FnTrimNewlinesNone.l0 k1 t173 (t173.size : Int) ji41)) else (some true)) = some r := by rw [if_pos rfl] at H; exact H
                            clear H
                            have H := H1
                            clear H1
                            by_cases c48 : (bt t173 (ji41)) = 10
                            · rw [if_pos c48] at H
                              have c48b0 : ((bt t173 (ji41)) == 10) = true := beq_iff_eq.mpr c48
                              have c48b1 : ((bt t173 (ji41)) != 10) = false := bne_eq_false_iff_eq.mpr c48
                              clear c48
                              by_cases c49 : x12_1 > 1
                              · rw [if_pos c49] at H
                                have c49b0 : decide (1 < x12_1) = true := decide_eq_true c49
                                clear c49
                                by_cases c51 : (bt t173 (ji11)) = 10
                                · rw [if_pos c51] at H
                                  have c51b0 : ((bt t173 (ji11)) == 10) = true := beq_iff_eq.mpr c51
                                  have c51b1 : ((bt t173 (ji11)) != 10) = false := bne_eq_false_iff_eq.mpr c51
                                  clear c51
                                  obtain ⟨ji52, hji52⟩ : ∃ j_ : Int, (wrap64 (x12_1 - 2)) = j_ := ⟨_, rfl⟩
                                  replace H : (if 0 ≤ (ji52) then (if (ji52) < (t173.size : Int) then (if (bt t173 (ji52)) = 10 then (some true) else (laws_FnTrimNewlinesNone.l0 k1 t173 (t173.size : Int) ji41)) else (none)) else (none)) = some r := by first | (rw [hji52] at H; exact H) | (simp only [hji52] at H ⊢; exact H)
                                  (try rw [hji52] at A15)
                                  (try rw [hji52] at A45)
                                  have hji52w : (IntKind.i64.wrap (x12_1 - 2)) = ji52 := (i64_w _).trans hji52
                                  by_cases c53 : 0 ≤ (ji52)
                                  · rw [if_pos c53] at H
                                    have c53b0 : decide (0 ≤ (ji52)) = true := decide_eq_true c53
                                    clear c53
                                    by_cases c54 : (ji52) < (t173.size : Int)
                                    · rw [if_pos c54] at H
                                      have c54b0 : decide ((ji52) < (t173.size : Int)) = true := decide_eq_true c54
                                      clear c54
                                      by_cases c56 : (bt t173 (ji52)) = 10
                                      · rw [if_pos c56] at H
                                        have c56b0 : ((bt t173 (ji52)) == 10) = true := beq_iff_eq.mpr c56
                                        have c56b1 : ((bt t173 (ji52)) != 10) = false := bne_eq_false_iff_eq.mpr c56
                                        clear c56
                                        obtain rfl := Option.some.inj H
                                        have p9 : 0 ≤ (x12_1 : Int) := of_decide_eq_true (by first | (with_reducible assumption) | assumption)
                                        have q9 : x12_1 < (t173.size : Int) := of_decide_eq_true (by first | (with_reducible assumption) | assumption)
                                        have hx9 := bt_at t173 x12_1
                                        replace p9 := eq_true p9
                                        replace q9 := eq_true q9
                                        have p14 : 0 ≤ ((ji11) : Int) := of_decide_eq_true (by first | (with_reducible assumption) | assumption)
                                        have q14 : (ji11) < (t173.size : Int) := of_decide_eq_true (by first | (with_reducible assumption) | assumption)
                                        have hx14 := bt_at t173 (ji11)
                                        replace p14 := eq_true p14
                                        replace q14 := eq_true q14
                                        go_wp2_with (first | (go_at_call 12; (with_reducible refine (spec_Blank.calls (bt t173 (ji11)) false _ A15.out).mono ?_); rintro e w' ⟨rfl, ⟨nd, rfl⟩⟩; have p44 : 0 ≤ ((ji41) : Int) := of_decide_eq_true (by first | (with_reducible assumption) | assumption); have q44 : (ji41) < (t173.size : Int) := of_decide_eq_true (by first | (with_reducible assumption) | assumption); have hx44 := bt_at t173 (ji41); replace p44 := eq_true p44; replace q44 := eq_true q44) | (go_at_call 12; (with_reducible refine (spec_Blank.calls (bt t173 (ji41)) true _ A45.out).mono ?_); rintro e w' ⟨rfl, ⟨nd, rfl⟩⟩; have p47 : 0 ≤ ((ji41) : Int) := of_decide_eq_true (by first | (with_reducible assumption) | assumption); have q47 : (ji41) < (t173.size : Int) := of_decide_eq_true (by first | (with_reducible assumption) | assumption); have hx47 := bt_at t173 (ji41); replace p47 := eq_true p47; replace q47 := eq_true q47; have p50 : 0 ≤ ((ji11) : Int) := of_decide_eq_true (by first | (with_reducible assumption) | assumption); have q50 : (ji11) < (t173.size : Int) := of_decide_eq_true (by first | (with_reducible assumption) | assumption); have hx50 := bt_at t173 (ji11); replace p50 := eq_true p50; replace q50 := eq_true q50; have p55 : 0 ≤ ((ji52) : Int) := of_decide_eq_true (by first | (with_reducible assumption) | assumption); have q55 : (ji52) < (t173.size : Int) := of_decide_eq_true (by first | (with_reducible assumption) | assumption); have hx55 := bt_at t173 (ji52); replace p55 := eq_true p55; replace q55 := eq_true q55))
                                        go_ret
                                        exact ⟨by first | rfl | (simp [errW_none, errW_some] <;> rfl) | (simp only [← hji11, ← hji41, ← hji52]; first | rfl | (simp [errW_none, errW_some] <;> rfl)) | (simp [*, errW_none, errW_some] <;> rfl), by repeat (first | (with_reducible first | exact HB.out | apply below_alloc | apply pw_below_drewN | apply below_drew1) | exact HB.out)⟩
                                      · rw [if_neg c56] at H
                                        have c56b0 : ((bt t173 (ji52)) == 10) = false := beq_eq_false_iff_ne.mpr c56
                                        have c56b1 : ((bt t173 (ji52)) != 10) = true := bne_iff_ne.mpr c56
                                        have H' := Aside0.mk H
                                        clear H
                                        have p9 : 0 ≤ (x12_1 : Int) := of_decide_eq_true (by first | (with_reducible assumption) | assumption)
                                        have q9 : x12_1 < (t173.size : Int) := of_decide_eq_true (by first | (with_reducible assumption) | assumption)
                                        have hx9 := bt_at t173 x12_1
                                        replace p9 := eq_true p9
                                        replace q9 := eq_true q9
                                        have p14 : 0 ≤ ((ji11) : Int) := of_decide_eq_true (by first | (with_reducible assumption) | assumption)
                                        have q14 : (ji11) < (t173.size : Int) := of_decide_eq_true (by first | (with_reducible assumption) | assumption)
                                        have hx14 := bt_at t173 (ji11)
                                        replace p14 := eq_true p14
                                        replace q14 := eq_true q14
                                        go_wp2_with (first | (go_at_call 12; (with_reducible refine (spec_Blank.calls (bt t173 (ji11)) false _ A15.out).mono ?_); rintro e w' ⟨rfl, ⟨nd, rfl⟩⟩; have p44 : 0 ≤ ((ji41) : Int) := of_decide_eq_true (by first | (with_reducible assumption) | assumption); have q44 : (ji41) < (t173.size : Int) := of_decide_eq_true (by first | (with_reducible assumption) | assumption); have hx44 := bt_at t173 (ji41); replace p44 := eq_true p44; replace q44 := eq_true q44) | (go_at_call 12; (with_reducible refine (spec_Blank.calls (bt t173 (ji41)) true _ A45.out).mono ?_); rintro e w' ⟨rfl, ⟨nd, rfl⟩⟩; have p47 : 0 ≤ ((ji41) : Int) := of_decide_eq_true (by first | (with_reducible assumption) | assumption); have q47 : (ji41) < (t173.size : Int) := of_decide_eq_true (by first | (with_reducible assumption) | assumption); have hx47 := bt_at t173 (ji41); replace p47 := eq_true p47; replace q47 := eq_true q47; have p50 : 0 ≤ ((ji11) : Int) := of_decide_eq_true (by first | (with_reducible assumption) | assumption); have q50 : (ji11) < (t173.size : Int) := of_decide_eq_true (by first | (with_reducible assumption) | assumption); have hx50 := bt_at t173 (ji11); replace p50 := eq_true p50; replace q50 := eq_true q50; have p55 : 0 ≤ ((ji52) : Int) := of_decide_eq_true (by first | (with_reducible assumption) | assumption); have q55 : (ji52) < (t173.size : Int) := of_decide_eq_true (by first | (with_reducible assumption) | assumption); have hx55 := bt_at t173 (ji52); replace p55 := eq_true p55; replace q55 := eq_true q55))
                                        go_roundg k1
                                        case measure => have := HK1.out; omega
                                        case rel => exact ⟨(ji41), (by first | rfl | (simp; done) | (simp only [← hji41] <;> (first | rfl | simp)) | (simp [*]; done)), H', ⟨by have := HK1.out; omega⟩, ⟨by repeat (first | (with_reducible first | exact HB.out | apply below_alloc | apply pw_below_drewN | apply below_drew1) | exact HB.out)⟩⟩
                                    · rw [if_neg c54] at H
                                      exact absurd H (by simp)
                                  · rw [if_neg c53] at H
                                    exact absurd H (by simp)
                                · rw [if_neg c51] at H
                                  have c51b0 : ((bt t173 (ji11)) == 10) = false := beq_eq_false_iff_ne.mpr c51
                                  have c51b1 : ((bt t173 (ji11)) != 10) = true := bne_iff_ne.mpr c51
                                  have H' := Aside0.mk H
                                  clear H
                                  have p9 : 0 ≤ (x12_1 : Int) := of_decide_eq_true (by first | (with_reducible assumption) | assumption)
                                  have q9 : x12_1 < (t173.size : Int) := of_decide_eq_true (by first | (with_reducible assumption) | assumption)
                                  have hx9 := bt_at t173 x12_1
                                  replace p9 := eq_true p9
                                  replace q9 := eq_true q9
                                  have p14 : 0 ≤ ((ji11) : Int) := of_decide_eq_true (by first | (with_reducible assumption) | assumption)
                                  have q14 : (ji11) < (t173.size : Int) := of_decide_eq_true (by first | (with_reducible assumption) | assumption)
                                  have hx14 := bt_at t173 (ji11)
                                  replace p14 := eq_true p14
                                  replace q14 := eq_true q14
                                  go_wp2_with (first | (go_at_call 12; (with_reducible refine (spec_Blank.calls (bt t173 (ji11)) false _ A15.out).mono ?_); rintro e w' ⟨rfl, ⟨nd, rfl⟩⟩; have p44 : 0 ≤ ((ji41) : Int) := of_decide_eq_true (by first | (with_reducible assumption) | assumption); have q44 : (ji41) < (t173.size : Int) := of_decide_eq_true (by first | (with_reducible assumption) | assumption); have hx44 := bt_at t173 (ji41); replace p44 := eq_true p44; replace q44 := eq_true q44) | (go_at_call 12; (with_reducible refine (spec_Blank.calls (bt t173 (ji41)) true _ A45.out).mono ?_); rintro e w' ⟨rfl, ⟨nd, rfl⟩⟩; have p47 : 0 ≤ ((ji41) : Int) := of_decide_eq_true (by first | (with_reducible assumption) | assumption); have q47 : (ji41) < (t173.size : Int) := of_decide_eq_true (by first | (with_reducible assumption) | assumption); have hx47 := bt_at t173 (ji41); replace p47 := eq_true p47; replace q47 := eq_true q47; have p50 : 0 ≤ ((ji11) : Int) := of_decide_eq_true (by first | (with_reducible assumption) | assumption); have q50 : (ji11) < (t173.size : Int) := of_decide_eq_true (by first | (with_reducible assumption) | assumption); have hx50 := bt_at t173 (ji11); replace p50 := eq_true p50; replace q50 := eq_true q50))
                                  go_roundg k1
                                  case measure => have := HK1.out; omega
                                  case rel => exact ⟨(ji41), (by first | rfl | (simp; done) | (simp only [← hji41] <;> (first | rfl | simp)) | (simp [*]; done)), H', ⟨by have := HK1.out; omega⟩, ⟨by repeat (first | (with_reducible first | exact HB.out | apply below_alloc | apply pw_below_drewN | apply below_drew1) | exact HB.out)⟩⟩
                              · rw [if_neg c49] at H
                                have c49b0 : decide (1 < x12_1) = false := decide_eq_false c49
                                clear c49
                                have H' := Aside0.mk H
                                clear H
                                have p9 : 0 ≤ (x12_1 : Int) := of_decide_eq_true (by first | (with_reducible assumption) | assumption)
                                have q9 : x12_1 < (t173.size : Int) := of_decide_eq_true (by first | (with_reducible assumption) | assumption)
                                have hx9 := bt_at t173 x12_1
                                replace p9 := eq_true p9
                                replace q9 := eq_true q9
                                have p14 : 0 ≤ ((ji11) : Int) := of_decide_eq_true (by first | (with_reducible assumption) | assumption)
                                have q14 : (ji11) < (t173.size : Int) := of_decide_eq_true (by first | (with_reducible assumption) | assumption)
                                have hx14 := bt_at t173 (ji11)
                                replace p14 := eq_true p14
                                replace q14 := eq_true q14
                                go_wp2_with (first | (go_at_call 12; (with_reducible refine (spec_Blank.calls (bt t173 (ji11)) false _ A15.out).mono ?_); rintro e w' ⟨rfl, ⟨nd, rfl⟩⟩; have p44 : 0 ≤ ((ji41) : Int) := of_decide_eq_true (by first | (with_reducible assumption) | assumption); have q44 : (ji41) < (t173.size : Int) := of_decide_eq_true (by first | (with_reducible assumption) | assumption); have hx44 := bt_at t173 (ji41); replace p44 := eq_true p44; replace q44 := eq_true q44) | (go_at_call 12; (with_reducible refine (spec_Blank.calls (bt t173 (ji41)) true _ A45.out).mono ?_); rintro e w' ⟨rfl, ⟨nd, rfl⟩⟩; have p47 : 0 ≤ ((ji41) : Int) := of_decide_eq_true (by first | (with_reducible assumption) | assumption); have q47 : (ji41) < (t173.size : Int) := of_decide_eq_true (by first | (with_reducible assumption) | assumption); have hx47 := bt_at t173 (ji41); replace p47 := eq_true p47; replace q47 := eq_true q47))
                                go_roundg k1
                                case measure => have := HK1.out; omega
                                case rel => exact ⟨(ji41), (by first | rfl | (simp; done) | (simp only [← hji41] <;> (first | rfl | simp)) | (simp [*]; done)), H', ⟨by have := HK1.out; omega⟩, ⟨by repeat (first | (with_reducible first | exact HB.out | apply below_alloc | apply pw_below_drewN | apply below_drew1) | exact HB.out)⟩⟩
                            · rw [if_neg c48] at H
                              have c48b0 : ((bt t173 (ji41)) == 10) = false := beq_eq_false_iff_ne.mpr c48
                              have c48b1 : ((bt t173 (ji41)) != 10) = true := bne_iff_ne.mpr c48
                              obtain rfl := Option.some.inj H
                              have p9 : 0 ≤ (x12_1 : Int) := of_decide_eq_true (by first | (with_reducible assumption) | assumption)
                              have q9 : x12_1 < (t173.size : Int) := of_decide_eq_true (by first | (with_reducible assumption) | assumption)
                              have hx9 := bt_at t173 x12_1
                              replace p9 := eq_true p9
                              replace q9 := eq_true q9
                              have p14 : 0 ≤ ((ji11) : Int) := of_decide_eq_true (by first | (with_reducible assumption) | assumption)
                              have q14 : (ji11) < (t173.size : Int) := of_decide_eq_true (by first | (with_reducible assumption) | assumption)
                              have hx14 := bt_at t173 (ji11)
                              replace p14 := eq_true p14
                              replace q14 := eq_true q14
                              go_wp2_with (first | (go_at_call 12; (with_reducible refine (spec_Blank.calls (bt t173 (ji11)) false _ A15.out).mono ?_); rintro e w' ⟨rfl, ⟨nd, rfl⟩⟩; have p44 : 0 ≤ ((ji41) : Int) := of_decide_eq_true (by first | (with_reducible assumption) | assumption); have q44 : (ji41) < (t173.size : Int) := of_decide_eq_true (by first | (with_reducible assumption) | assumption); have hx44 := bt_at t173 (ji41); replace p44 := eq_true p44; replace q44 := eq_true q44) | (go_at_call 12; (with_reducible refine (spec_Blank.calls (bt t173 (ji41)) true _ A45.out).mono ?_); rintro e w' ⟨rfl, ⟨nd, rfl⟩⟩; have p47 : 0 ≤ ((ji41) : Int) := of_decide_eq_true (by first | (with_reducible assumption) | assumption); have q47 : (ji41) < (t173.size : Int) := of_decide_eq_true (by first | (with_reducible assumption) | assumption); have hx47 := bt_at t173 (ji41); replace p47 := eq_true p47; replace q47 := eq_true q47))
                              go_ret
                              exact ⟨by first | rfl | (simp [errW_none, errW_some] <;> rfl) | (simp only [← hji11, ← hji41]; first | rfl | (simp [errW_none, errW_some] <;> rfl)) | (simp [*, errW_none, errW_some] <;> rfl), by repeat (first | (with_reducible first | exact HB.out | apply below_alloc | apply pw_below_drewN | apply below_drew1) | exact HB.out)⟩
                          · replace c46 := Bool.eq_false_iff.mpr c46
                            subst c46
                            have H1 : (if x12_1 > 1 then (if (bt t173 (ji11)) = 10 then (if 0 ≤ (wrap64 (x12_1 - 2)) then (if (wrap64 (x12_1 - 2)) < (t173.size : Int) then (if (bt t173 (wrap64 (x12_1 - 2))) = 10 then (some true) else (laws_FnTrimNewlinesNone.l0 k1 t173 (t173.size : Int) ji41)) else (none)) else (none)) else (laws_FnTrimNewlinesNone.l0 k1 t173 (t173.size : Int) ji41)) else (laws_FnTrimNewlinesNone.l0 k1 t173 (t173.size : Int) ji41)) = some r := by rw [if_neg (show ¬ (false = true) by decide)] at H; exact H
                            clear H
                            have H := H1
                            clear H1
                            by_cases c57 : x12_1 > 1
                            · rw [if_pos c57] at H
                              have c57b0 : decide (1 < x12_1) = true := decide_eq_true c57
                              clear c57
                              by_cases c59 : (bt t173 (ji11)) = 10
                              · rw [if_pos c59] at H
                                have c59b0 : ((bt t173 (ji11)) == 10) = true := beq_iff_eq.mpr c59
                                have c59b1 : ((bt t173 (ji11)) != 10) = false := bne_eq_false_iff_eq.mpr c59
                                clear c59
                                obtain ⟨ji60, hji60⟩ : ∃ j_ : Int, (wrap64 (x12_1 - 2)) = j_ := ⟨_, rfl⟩
                                replace H : (if 0 ≤ (ji60) then (if (ji60) < (t173.size : Int) then (if (bt t173 (ji60)) = 10 then (some true) else (laws_FnTrimNewlinesNone.l0 k1 t173 (t173.size : Int) ji41)) else (none)) else (none)) = some r := by first | (rw [hji60] at H; exact H) | (simp only [hji60] at H ⊢; exact H)
                                (try rw [hji60] at A15)
                                (try rw [hji60] at A45)
                                have hji60w : (IntKind.i64.wrap (x12_1 - 2)) = ji60 := (i64_w _).trans hji60
                                by_cases c61 : 0 ≤ (ji60)
                                · rw [if_pos c61] at H
                                  have c61b0 : decide (0 ≤ (ji60)) = true := decide_eq_true c61
                                  clear c61
                                  by_cases c62 : (ji60) < (t173.size : Int)
                                  · rw [if_pos c62] at H
                                    have c62b0 : decide ((ji60) < (t173.size : Int)) = true := decide_eq_true c62
                                    clear c62
                                    by_cases c64 : (bt t173 (ji60)) = 10
                                    · rw [if_pos c64] at H
                                      have c64b0 : ((bt t173 (ji60)) == 10) = true := beq_iff_eq.mpr c64
                                      have c64b1 : ((bt t173 (ji60)) != 10) = false := bne_eq_false_iff_eq.mpr c64
                                      clear c64
                                      obtain rfl := Option.some.inj H
                                      have p9 : 0 ≤ (x12_1 : Int) := of_decide_eq_true (by first | (with_reducible assumption) | assumption)
                                      have q9 : x12_1 < (t173.size : Int) := of_decide_eq_true (by first | (with_reducible assumption) | assumption)
                                      have hx9 := bt_at t173 x12_1
                                      replace p9 := eq_true p9
                                      replace q9 := eq_true q9
                                      have p14 : 0 ≤ ((ji11) : Int) := of_decide_eq_true (by first | (with_reducible assumption) | assumption)
                                      have q14 : (ji11) < (t173.size : Int) := of_decide_eq_true (by first | (with_reducible assumption) | assumption)
                                      have hx14 := bt_at t173 (ji11)
                                      replace p14 := eq_true p14
                                      replace q14 := eq_true q14
                                      go_wp2_with (first | (go_at_call 12; (with_reducible refine (spec_Blank.calls (bt t173 (ji11)) false _ A15.out).mono ?_); rintro e w' ⟨rfl, ⟨nd, rfl⟩⟩; have p44 : 0 ≤ ((ji41) : Int) := of_decide_eq_true (by first | (with_reducible assumption) | assumption); have q44 : (ji41) < (t173.size : Int) := of_decide_eq_true (by first | (with_reducible assumption) | assumption); have hx44 := bt_at t173 (ji41); replace p44 := eq_true p44; replace q44 := eq_true q44) | (go_at_call 12; (with_reducible refine (spec_Blank.calls (bt t173 (ji41)) false _ A45.out).mono ?_); rintro e w' ⟨rfl, ⟨nd, rfl⟩⟩; have p58 : 0 ≤ ((ji11) : Int) := of_decide_eq_true (by first | (with_reducible assumption) | assumption); have q58 : (ji11) < (t173.size : Int) := of_decide_eq_true (by first | (with_reducible assumption) | assumption); have hx58 := bt_at t173 (ji11); replace p58 := eq_true p58; replace q58 := eq_true q58; have p63 : 0 ≤ ((ji60) : Int) := of_decide_eq_true (by first | (with_reducible assumption) | assumption); have q63 : (ji60) < (t173.size : Int) := of_decide_eq_true (by first | (with_reducible assumption) | assumption); have hx63 := bt_at t173 (ji60); replace p63 := eq_true p63; replace q63 := eq_true q63))
                                      go_ret
                                      exact ⟨by first | rfl | (simp [errW_none, errW_some] <;> rfl) | (simp only [← hji11, ← hji41, ← hji60]; first | rfl | (simp [errW_none, errW_some] <;> rfl)) | (simp [*, errW_none, errW_some] <;> rfl), by repeat (first | (with_reducible first | exact HB.out | apply below_alloc | apply pw_below_drewN | apply below_drew1) | exact HB.out)⟩
                                    · rw [if_neg c64] at H
                                      have c64b0 : ((bt t173 (ji60)) == 10) = false := beq_eq_false_iff_ne.mpr c64
                                      have c64b1 : ((bt t173 (ji60)) != 10) = true := bne_iff_ne.mpr c64
                                      have H' := Aside0.mk H
                                      clear H
                                      have p9 : 0 ≤ (x12_1 : Int) := of_decide_eq_true (by first | (with_reducible assumption) | assumption)
                                      have q9 : x12_1 < (t173.size : Int) := of_decide_eq_true (by first | (with_reducible assumption) | assumption)
                                      have hx9 := bt_at t173 x12_1
                                      replace p9 := eq_true p9
                                      replace q9 := eq_true q9
                                      have p14 : 0 ≤ ((ji11) : Int) := of_decide_eq_true (by first | (with_reducible assumption) | assumption)
                                      have q14 : (ji11) < (t173.size : Int) := of_decide_eq_true (by first | (with_reducible assumption) | assumption)
                                      have hx14 := bt_at t173 (ji11)
                                      replace p14 := eq_true p14
                                      replace q14 := eq_true q14
                                      go_wp2_with (first | (go_at_call 12; (with_reducible refine (spec_Blank.calls (bt t173 (ji11)) false _ A15.out).mono ?_); rintro e w' ⟨rfl, ⟨nd, rfl⟩⟩; have p44 : 0 ≤ ((ji41) : Int) := of_decide_eq_true (by first | (with_reducible assumption) | assumption); have q44 : (ji41) < (t173.size : Int) := of_decide_eq_true (by first | (with_reducible assumption) | assumption); have hx44 := bt_at t173 (ji41); replace p44 := eq_true p44; replace q44 := eq_true q44) | (go_at_call 12; (with_reducible refine (spec_Blank.calls (bt t173 (ji41)) false _ A45.out).mono ?_); rintro e w' ⟨rfl, ⟨nd, rfl⟩⟩; have p58 : 0 ≤ ((ji11) : Int) := of_decide_eq_true (by first | (with_reducible assumption) | assumption); have q58 : (ji11) < (t173.size : Int) := of_decide_eq_true (by first | (with_reducible assumption) | assumption); have hx58 := bt_at t173 (ji11); replace p58 := eq_true p58; replace q58 := eq_true q58; have p63 : 0 ≤ ((ji60) : Int) := of_decide_eq_true (by first | (with_reducible assumption) | assumption); have q63 : (ji60) < (t173.size : Int) := of_decide_eq_true (by first | (with_reducible assumption) | assumption); have hx63 := bt_at t173 (ji60); replace p63 := eq_true p63; replace q63 := eq_true q63))
                                      go_roundg k1
                                      case measure => have := HK1.out; omega
                                      case rel => exact ⟨(ji41), (by first | rfl | (simp; done) | (simp only [← hji41] <;> (first | rfl | simp)) | (simp [*]; done)), H', ⟨by have := HK1.out; omega⟩, ⟨by repeat (first | (with_reducible first | exact HB.out | apply below_alloc | apply pw_below_drewN | apply below_drew1) | exact HB.out)⟩⟩
                                  · rw [if_neg c62] at H
                                    exact absurd H (by simp)
                                · rw [if_neg c61] at H
                                  exact absurd H (by simp)
                              · rw [if_neg c59] at H
                                have c59b0 : ((bt t173 (ji11)) == 10) = false := beq_eq_false_iff_ne.mpr c59
                                have c59b1 : ((bt t173 (ji11)) != 10) = true := bne_iff_ne.mpr c59
                                have H' := Aside0.mk H
                                clear H
                                have p9 : 0 ≤ (x12_1 : Int) := of_decide_eq_true (by first | (with_reducible assumption) | assumption)
                                have q9 : x12_1 < (t173.size : Int) := of_decide_eq_true (by first | (with_reducible assumption) | assumption)
                                have hx9 := bt_at t173 x12_1
                                replace p9 := eq_true p9
                                replace q9 := eq_true q9
                                have p14 : 0 ≤ ((ji11) : Int) := of_decide_eq_true (by first | (with_reducible assumption) | assumption)
                                have q14 : (ji11) < (t173.size : Int) := of_decide_eq_true (by first | (with_reducible assumption) | assumption)
                                have hx14 := bt_at t173 (ji11)
                                replace p14 := eq_true p14
                                replace q14 := eq_true q14
                                go_wp2_with (first | (go_at_call 12; (with_reducible refine (spec_Blank.calls (bt t173 (ji11)) false _ A15.out).mono ?_); rintro e w' ⟨rfl, ⟨nd, rfl⟩⟩; have p44 : 0 ≤ ((ji41) : Int) := of_decide_eq_true (by first | (with_reducible assumption) | assumption); have q44 : (ji41) < (t173.size : Int) := of_decide_eq_true (by first | (with_reducible assumption) | assumption); have hx44 := bt_at t173 (ji41); replace p44 := eq_true p44; replace q44 := eq_true q44) | (go_at_call 12; (with_reducible refine (spec_Blank.calls (bt t173 (ji41)) false _ A45.out).mono ?_); rintro e w' ⟨rfl, ⟨nd, rfl⟩⟩; have p58 : 0 ≤ ((ji11) : Int) := of_decide_eq_true (by first | (with_reducible assumption) | assumption); have q58 : (ji11) < (t173.size : Int) := of_decide_eq_true (by first | (with_reducible assumption) | assumption); have hx58 := bt_at t173 (ji11); replace p58 := eq_true p58; replace q58 := eq_true q58))
                                go_roundg k1
                                case measure => have := HK1.out; omega
                                case rel => exact ⟨(ji41), (by first | rfl | (simp; done) | (simp only [← hji41] <;> (first | rfl | simp)) | (simp [*]; done)), H', ⟨by have := HK1.out; omega⟩, ⟨by repeat (first | (with_reducible first | exact HB.out | apply below_alloc | apply pw_below_drewN | apply below_drew1) | exact HB.out)⟩⟩
                            · rw [if_neg c57] at H
                              have c57b0 : decide (1 < x12_1) = false := decide_eq_false c57
                              clear c57
                              have H' := Aside0.mk H
                              clear H
                              have p9 : 0 ≤ (x12_1 : Int) := of_decide_eq_true (by first | (with_reducible assumption) | assumption)
                              have q9 : x12_1 < (t173.size : Int) := of_decide_eq_true (by first | (with_reducible assumption) | assumption)
                              have hx9 := bt_at t173 x12_1
                              replace p9 := eq_true p9
                              replace q9 := eq_true q9
                              have p14 : 0 ≤ ((ji11) : Int) := of_decide_eq_true (by first | (with_reducible assumption) | assumption)
                              have q14 : (ji11) < (t173.size : Int) := of_decide_eq_true (by first | (with_reducible assumption) | assumption)
                              have hx14 := bt_at t173 (ji11)
                              replace p14 := eq_true p14
                              replace q14 := eq_true q14
                              go_wp2_with (first | (go_at_call 12; (with_reducible refine (spec_Blank.calls (bt t173 (ji11)) false _ A15.out).mono ?_); rintro e w' ⟨rfl, ⟨nd, rfl⟩⟩; have p44 : 0 ≤ ((ji41) : Int) := of_decide_eq_true (by first | (with_reducible assumption) | assumption); have q44 : (ji41) < (t173.size : Int) := of_decide_eq_true (by first | (with_reducible assumption) | assumption); have hx44 := bt_at t173 (ji41); replace p44 := eq_true p44; replace q44 := eq_true q44) | (go_at_call 12; (with_reducible refine (spec_Blank.calls (bt t173 (ji41)) false _ A45.out).mono ?_); rintro e w' ⟨rfl, ⟨nd, rfl⟩⟩))
                              go_roundg k1
                              case measure => have := HK1.out; omega
                              case rel => exact ⟨(ji41), (by first | rfl | (simp; done) | (simp only [← hji41] <;> (first | rfl | simp)) | (simp [*]; done)), H', ⟨by have := HK1.out; omega⟩, ⟨by repeat (first | (with_reducible first | exact HB.out | apply below_alloc | apply pw_below_drewN | apply below_drew1) | exact HB.out)⟩⟩
                        · rw [if_neg c43] at H
                          exact absurd H (by simp)
                      · rw [if_neg c42] at H
                        exact absurd H (by simp)
                  · rw [if_neg c13] at H
                    exact absurd H (by simp)
                · rw [if_neg c12] at H
                  exact absurd H (by simp)
              · rw [if_neg c10] at H
                have c10b0 : ((bt t173 x12_1) == 10) = false := beq_eq_false_iff_ne.mpr c10
                have c10b1 : ((bt t173 x12_1) != 10) = true := bne_iff_ne.mpr c10
                have H' := Aside0.mk H
                clear H
                have p9 : 0 ≤ (x12_1 : Int) := of_decide_eq_true (by first | (with_reducible assumption) | assumption)
                have q9 : x12_1 < (t173.size : Int) := of_decide_eq_true (by first | (with_reducible assumption) | assumption)
                have hx9 := bt_at t173 x12_1
                replace p9 := eq_true p9
                replace q9 := eq_true q9
                go_wp2
                go_roundg k1
                case measure => have := HK1.out; omega
                case rel => exact ⟨(wrap64 (x12_1 + 1)), (by first | rfl | (simp; done) | (simp [*]; done)), H', ⟨by have := HK1.out; omega⟩, ⟨by repeat (first | (with_reducible first | exact HB.out | apply below_alloc | apply pw_below_drewN | apply below_drew1) | exact HB.out)⟩⟩
            · rw [if_neg c8] at H
              exact absurd H (by simp)
          · rw [if_neg c7] at H
            exact absurd H (by simp)
        · rw [if_neg c6] at H
          have c6b0 : decide (x12_1 < (t173.size : Int)) = false := decide_eq_false c6
          clear c6
          replace H := Option.bind_eq_some_iff.mp H
          obtain ⟨t174, A650, H⟩ := H
          replace H : (if t174.toList = t173.toList then ((laws_inlineLives.f k1).bind fun t175 => (some t175)) else (some false)) = some r := H
          have A65 := Aside0.mk A650
          clear A650
          by_cases c66 : t174.toList = t173.toList
          · rw [if_pos c66] at H
            have c66b0 : (t174.toList == t173.toList) = true := beq_iff_eq.mpr c66
            have c66b1 : (t174.toList != t173.toList) = false := bne_eq_false_iff_eq.mpr c66
            clear c66
            replace H := Option.bind_eq_some_iff.mp H
            obtain ⟨t175, A670, H⟩ := H
            replace H : (some t175) = some r := H
            have A67 := Aside0.mk A670
            clear A670
            obtain rfl := Option.some.inj H
            go_wp2_with (first | ((with_reducible refine gate_callee (f := 13) rfl ?_); refine goesL_ (some 67) rfl rfl Tryd.func13 (by kernel_rfl) rfl #[.string t173] rfl (by (try simp only [List.map_toArray, List.map_cons, List.map_nil]); first | done | rfl | (simp only [List.length_drop, List.length_take]; rfl)) ?_; (with_reducible refine (impl_TrimNewlines.calls k1 t173 t174 _ A65.out).mono ?_); rintro e w68 ⟨rfl, hb⟩; refine ⟨_, rfl, ?_⟩; have n0_ := Aside0.mk (below_step (by repeat (first | (with_reducible first | exact HB.out | apply below_alloc | apply pw_below_drewN | apply below_drew1) | exact HB.out)) hb); clear HB; have HB := n0_; clear n0_; (try clear hb); (try clear hb2); (try clear hk); (try clear hi)) | (go_at_call 14; (with_reducible refine (laws_inlineLives.calls k1  t175 _ A67.out).mono ?_); rintro e w69 ⟨rfl, hb⟩; have n0_ := Aside0.mk (below_step (by repeat (first | (with_reducible first | exact HB.out | apply below_alloc | apply pw_below_drewN | apply below_drew1) | exact HB.out)) hb); clear HB; have HB := n0_; clear n0_; (try clear hb); (try clear hb2); (try clear hk); (try clear hi)))
            go_ret
            exact ⟨by first | rfl | (simp [errW_none, errW_some] <;> rfl) | (simp [*, errW_none, errW_some] <;> rfl), by repeat (first | (with_reducible first | exact HB.out | apply below_alloc | apply pw_below_drewN | apply below_drew1) | exact HB.out)⟩
          · rw [if_neg c66] at H
            have c66b0 : (t174.toList == t173.toList) = false := beq_eq_false_iff_ne.mpr c66
            have c66b1 : (t174.toList != t173.toList) = true := bne_iff_ne.mpr c66
            obtain rfl := Option.some.inj H
            go_wp2_with (first | ((with_reducible refine gate_callee (f := 13) rfl ?_); refine goesL_ (some 67) rfl rfl Tryd.func13 (by kernel_rfl) rfl #[.string t173] rfl (by (try simp only [List.map_toArray, List.map_cons, List.map_nil]); first | done | rfl | (simp only [List.length_drop, List.length_take]; rfl)) ?_; (with_reducible refine (impl_TrimNewlines.calls k1 t173 t174 _ A65.out).mono ?_); rintro e w70 ⟨rfl, hb⟩; refine ⟨_, rfl, ?_⟩; have n0_ := Aside0.mk (below_step (by repeat (first | (with_reducible first | exact HB.out | apply below_alloc | apply pw_below_drewN | apply below_drew1) | exact HB.out)) hb); clear HB; have HB := n0_; clear n0_; (try clear hb); (try clear hb2); (try clear hk); (try clear hi)))
            go_ret
            exact ⟨by first | rfl | (simp [errW_none, errW_some] <;> rfl) | (simp [*, errW_none, errW_some] <;> rfl), by repeat (first | (with_reducible first | exact HB.out | apply below_alloc | apply pw_below_drewN | apply below_drew1) | exact HB.out)⟩

/-- THE ONE PURE STATEMENT of laws_FnTrimNewlinesNone: yours. -/
def laws_FnTrimNewlinesNone.Pure : Prop := ∀ (a0 : ByteArray), a0.size ≤ 140737488351232 → ∃ k, laws_FnTrimNewlinesNone.f k a0 = some true
theorem laws_FnTrimNewlinesNone.walk (P : laws_FnTrimNewlinesNone.Pure) (a0 : ByteArray) (w : World) (w0 : a0.size ≤ 140737488351232) :
    Calls Tryd.prog 4 #[.string a0] w fun e w' => e = .returned (.bool true) ∧ Below w.heap.size w w' := by
  obtain ⟨k, h⟩ := P a0 w0
  refine (laws_FnTrimNewlinesNone.calls k a0 true w h).mono ?_
  rintro e w' ⟨rfl, hd⟩
  exact ⟨rfl, hd⟩

end Go.Proofs.YtbhcoeabhdangaaDoor.PInl
