/- Printed by the program extprint.py of this session, out of the kit's print and contracts of this session's own; Lean checks it. -/
import Derived.Test.YtbhcoeabhdangaaDoorEInlx0
import Derived.Test.YtbhcoeabhdangaaDoorEInlx1
import Derived.Test.YtbhcoeabhdangaaDoorEInlx2
import Derived.Test.YtbhcoeabhdangaaDoorEscX
import Derived.Test.YtbhcoeabhdangaaDoorLives
namespace Go.Proofs.YtbhcoeabhdangaaDoor.PInl
open Go.RowKit Go.Proofs.YtbhcoeabhdangaaDoorW.PrintWords Go.Proofs.YtbhcoeabhdangaaDoorW.PrintLast Go.Proofs.YtbhcoeabhdangaaDoorW.PrintMore
attribute [local go_sem] max2_int min2_int max_two min_two max_three min_three max_four min_four   -- for this text's walks alone
set_option linter.unusedVariables false
set_option linter.unusedSimpArgs false




-- NOT PRINTED: function 54 (collapse_replaceAnyWhitespaceWithSpace)

-- NOT PRINTED: function 40 (collapse_ZzBlanks)

-- NOT PRINTED: function 28 (impl_Blanks)





-- NOT PRINTED: function 29 (impl_Quoted)


-- NOT PRINTED: function 62 (unicode_is16)

-- NOT PRINTED: function 63 (unicode_is32)

-- NOT PRINTED: function 46 (unicode_isExcludingLatin)

-- NOT PRINTED: function 32 (unicode_IsSpace)

-- NOT PRINTED: function 43 (textutils_zzLines)

-- NOT PRINTED: function 53 (utf8_decodeRuneSlow)

-- NOT PRINTED: function 39 (utf8_DecodeRune)

-- NOT PRINTED: function 60 (bytes_indexFunc)

-- NOT PRINTED: function 44 (bytes_TrimLeftFunc)



-- NOT PRINTED: function 31 (textutils_EscapeMultiLine)


/-! ### laws_FnMultiLine: function 6 -/
mutual
def laws_FnMultiLine.l0 : Nat → ByteArray → ByteArray → Bool → Int → Int → Option (Bool)
  | 0, _, _, _, _, _ => none
  | k + 1, x0, x3, x4, x16, x17 => if x17 < x16 then (if x4 = true then (if 0 ≤ x17 then (if x17 < (x0.size : Int) then (laws_FnMultiLine.l0 k x0 x3 ((bt x0 x17) != 10) x16 (wrap64 (x17 + 1))) else (none)) else (none)) else (laws_FnMultiLine.l0 k x0 x3 false x16 (wrap64 (x17 + 1)))) else (laws_FnMultiLine.l1 k x0 x3 x4 1)
def laws_FnMultiLine.l1 : Nat → ByteArray → ByteArray → Bool → Int → Option (Bool)
  | 0, _, _, _, _ => none
  | k + 1, x0, x3, x4, x6 => if x6 < (x3.size : Int) then (if 0 ≤ x6 then (if (bt x3 x6) = 10 then (if 0 ≤ (wrap64 (x6 - 1)) then (if (wrap64 (x6 - 1)) < (x3.size : Int) then (if (bt x3 (wrap64 (x6 - 1))) = 10 then (some false) else (laws_FnMultiLine.l1 k x0 x3 x4 (wrap64 (x6 + 1)))) else (none)) else (none)) else (laws_FnMultiLine.l1 k x0 x3 x4 (wrap64 (x6 + 1)))) else (none)) else (if x4 = true then (if x3.toList = x0.toList then ((laws_inlineLives.f k).bind fun t174 => (some t174)) else (some false)) else ((laws_inlineLives.f k).bind fun t175 => (some t175)))
end
def laws_FnMultiLine.f (k : Nat) (a0 : ByteArray) : Option (Bool) := if (a0.size : Int) > 2147483647 then (some true) else ((laws_inlineASCII.f k a0).bind fun t171 => ((laws_inlineTrim.f k t171).bind fun t172 => ((impl_MultiLine.f k t172).bind fun t173 => (laws_FnMultiLine.l0 k t172 t173 true (t172.size : Int) 0))))
theorem laws_FnMultiLine.mono_l : ∀ k, (∀ y0 y1 y2 y3 y4, LeO (laws_FnMultiLine.l0 k y0 y1 y2 y3 y4) (laws_FnMultiLine.l0 (k + 1) y0 y1 y2 y3 y4)) ∧ (∀ y0 y1 y2 y3, LeO (laws_FnMultiLine.l1 k y0 y1 y2 y3) (laws_FnMultiLine.l1 (k + 1) y0 y1 y2 y3))
  | 0 => ⟨fun _ _ _ _ _ r h => by simp [laws_FnMultiLine.l0] at h, fun _ _ _ _ r h => by simp [laws_FnMultiLine.l1] at h⟩
  | k + 1 => by
    obtain ⟨ih0, ih1⟩ := laws_FnMultiLine.mono_l k
    refine ⟨?_, ?_⟩
    · intro y0 y1 y2 y3 y4
      unfold laws_FnMultiLine.l0
      repeat' first
      | (with_reducible exact ih0 _ _ _ _ _)
      | (with_reducible exact ih1 _ _ _ _)
      | (with_reducible exact impl_MultiLine.mono _ _)
      | (with_reducible exact laws_inlineASCII.mono _ _)
      | (with_reducible exact laws_inlineLives.mono _)
      | (with_reducible exact laws_inlineTrim.mono _ _)
      | (with_reducible exact LeO.refl _)
      | (with_reducible exact LeO.none _)
      | (with_reducible refine LeO.ite ?_ ?_)
      | (with_reducible refine LeO.bind ?_ (fun _ => ?_))
      | exact ih0 _ _ _ _ _
      | exact ih1 _ _ _ _
      | exact impl_MultiLine.mono _ _
      | exact laws_inlineASCII.mono _ _
      | exact laws_inlineLives.mono _
      | exact laws_inlineTrim.mono _ _
      | exact LeO.none _
      | refine LeO.ite ?_ ?_
      | refine LeO.bind ?_ (fun _ => ?_)
    · intro y0 y1 y2 y3
      unfold laws_FnMultiLine.l1
      repeat' first
      | (with_reducible exact ih0 _ _ _ _ _)
      | (with_reducible exact ih1 _ _ _ _)
      | (with_reducible exact impl_MultiLine.mono _ _)
      | (with_reducible exact laws_inlineASCII.mono _ _)
      | (with_reducible exact laws_inlineLives.mono _)
      | (with_reducible exact laws_inlineTrim.mono _ _)
      | (with_reducible exact LeO.refl _)
      | (with_reducible exact LeO.none _)
      | (with_reducible refine LeO.ite ?_ ?_)
      | (with_reducible refine LeO.bind ?_ (fun _ => ?_))
      | exact ih0 _ _ _ _ _
      | exact ih1 _ _ _ _
      | exact impl_MultiLine.mono _ _
      | exact laws_inlineASCII.mono _ _
      | exact laws_inlineLives.mono _
      | exact laws_inlineTrim.mono _ _
      | exact LeO.none _
      | refine LeO.ite ?_ ?_
      | refine LeO.bind ?_ (fun _ => ?_)
theorem laws_FnMultiLine.mono : ∀ a0 k, LeO (laws_FnMultiLine.f k a0) (laws_FnMultiLine.f (k + 1) a0) := by
  intro a0 k
  obtain ⟨ih0, ih1⟩ := laws_FnMultiLine.mono_l k
  unfold laws_FnMultiLine.f
  repeat' first
      | (with_reducible exact ih0 _ _ _ _ _)
      | (with_reducible exact ih1 _ _ _ _)
      | (with_reducible exact impl_MultiLine.mono _ _)
      | (with_reducible exact laws_inlineASCII.mono _ _)
      | (with_reducible exact laws_inlineLives.mono _)
      | (with_reducible exact laws_inlineTrim.mono _ _)
      | (with_reducible exact LeO.refl _)
      | (with_reducible exact LeO.none _)
      | (with_reducible refine LeO.ite ?_ ?_)
      | (with_reducible refine LeO.bind ?_ (fun _ => ?_))
      | exact ih0 _ _ _ _ _
      | exact ih1 _ _ _ _
      | exact impl_MultiLine.mono _ _
      | exact laws_inlineASCII.mono _ _
      | exact laws_inlineLives.mono _
      | exact laws_inlineTrim.mono _ _
      | exact LeO.none _
      | refine LeO.ite ?_ ?_
      | refine LeO.bind ?_ (fun _ => ?_)
set_option maxHeartbeats 8000000 in
set_option maxRecDepth 100000 in
theorem laws_FnMultiLine.calls (k : Nat) (a0 : ByteArray) (r : Bool) (w : World) (h : laws_FnMultiLine.f k a0 = some r) :
    Calls Tryd.prog 6 #[.string a0] w fun e w' => e = .returned (.bool r) ∧ Below w.heap.size w w' := by
  have HB := Aside0.mk (Below.refl w.heap.size w)
  have H : (if (a0.size : Int) > 2147483647 then (some true) else ((laws_inlineASCII.f k a0).bind fun t171 => ((laws_inlineTrim.f k t171).bind fun t172 => ((impl_MultiLine.f k t172).bind fun t173 => (laws_FnMultiLine.l0 k t172 t173 true (t172.size : Int) 0))))) = some r := h
  clear h
  by_cases c2 : (a0.size : Int) > 2147483647
  · rw [if_pos c2] at H
    have c2b0 : decide (2147483647 < (a0.size : Int)) = true := decide_eq_true c2
    have c2b1 : decide (2147483647 < a0.size) = true := decide_eq_true (by omega)
    clear c2
    obtain rfl := Option.some.inj H
    go_enter Tryd.func6, Tryd.ntmps6
    go_wp2
    go_ret
    exact ⟨by first | rfl | (simp [errW_none, errW_some] <;> rfl) | (simp [*, errW_none, errW_some] <;> rfl), by repeat (first | (with_reducible first | exact HB.out | apply below_alloc | apply pw_below_drewN | apply below_drew1) | exact HB.out)⟩
  · rw [if_neg c2] at H
    have c2b0 : decide (2147483647 < (a0.size : Int)) = false := decide_eq_false c2
    have c2b1 : decide (2147483647 < a0.size) = false := decide_eq_false (by omega)
    clear c2
    replace H := Option.bind_eq_some_iff.mp H
    obtain ⟨t171, A30, H⟩ := H
    replace H : ((laws_inlineTrim.f k t171).bind fun t172 => ((impl_MultiLine.f k t172).bind fun t173 => (laws_FnMultiLine.l0 k t172 t173 true (t172.size : Int) 0))) = some r := H
    have A3 := Aside0.mk A30
    clear A30
    replace H := Option.bind_eq_some_iff.mp H
    obtain ⟨t172, A40, H⟩ := H
    replace H : ((impl_MultiLine.f k t172).bind fun t173 => (laws_FnMultiLine.l0 k t172 t173 true (t172.size : Int) 0)) = some r := H
    have A4 := Aside0.mk A40
    clear A40
    replace H := Option.bind_eq_some_iff.mp H
    obtain ⟨t173, A50, H⟩ := H
    replace H : (laws_FnMultiLine.l0 k t172 t173 true (t172.size : Int) 0) = some r := H
    have A5 := Aside0.mk A50
    clear A50
    have H' := Aside0.mk H
    clear H
    go_enter Tryd.func6, Tryd.ntmps6
    go_wp2_with (first | ((with_reducible refine gate_callee (f := 11) rfl ?_); refine goesL_ (some 11) rfl rfl Tryd.func11 (by kernel_rfl) rfl #[.string a0] rfl (by (try simp only [List.map_toArray, List.map_cons, List.map_nil]); first | done | rfl | (simp only [List.length_drop, List.length_take]; rfl)) ?_; (with_reducible refine (laws_inlineASCII.calls k a0 t171 _ A3.out).mono ?_); rintro e w6 ⟨rfl, hb⟩; refine ⟨_, rfl, ?_⟩; have n0_ := Aside0.mk (below_step (by repeat (first | (with_reducible first | exact HB.out | apply below_alloc | apply pw_below_drewN | apply below_drew1) | exact HB.out)) hb); clear HB; have HB := n0_; clear n0_; (try clear hb); (try clear hb2); (try clear hk); (try clear hi)) | ((with_reducible refine gate_callee (f := 10) rfl ?_); refine goesL_ (some 12) rfl rfl Tryd.func10 (by kernel_rfl) rfl #[.string t171] rfl (by (try simp only [List.map_toArray, List.map_cons, List.map_nil]); first | done | rfl | (simp only [List.length_drop, List.length_take]; rfl)) ?_; (with_reducible refine (laws_inlineTrim.calls k t171 t172 _ A4.out).mono ?_); rintro e w' ⟨rfl, ⟨nd, rfl⟩⟩; refine ⟨_, rfl, ?_⟩) | ((with_reducible refine gate_callee (f := 16) rfl ?_); refine goesL_ (some 14) rfl rfl Tryd.func16 (by kernel_rfl) rfl #[.string t172] rfl (by (try simp only [List.map_toArray, List.map_cons, List.map_nil]); first | done | rfl | (simp only [List.length_drop, List.length_take]; rfl)) ?_; (with_reducible refine (impl_MultiLine.calls k t172 t173 _ A5.out).mono ?_); rintro e w7 ⟨rfl, hb⟩; refine ⟨_, rfl, ?_⟩; have n0_ := Aside0.mk (below_step (by repeat (first | (with_reducible first | exact HB.out | apply below_alloc | apply pw_below_drewN | apply below_drew1) | exact HB.out)) hb); clear HB; have HB := n0_; clear n0_; (try clear hb); (try clear hb2); (try clear hk); (try clear hi)))
    go_loopg [4, 17] k (fun kq v4 v17 w' => ∃ (x4_1 : Bool) (x17_1 : Int), v4 = .bool x4_1 ∧ v17 = .int .i64 x17_1 ∧ Aside0 (laws_FnMultiLine.l0 kq t172 t173 x4_1 (t172.size : Int) x17_1 = some r) ∧ Aside0 (kq ≤ k) ∧ Aside0 (Below w.heap.size w w'))
    case atStart => exact ⟨(true), (0), (by first | rfl | (simp; done) | (simp [*]; done)), (by first | rfl | (simp; done) | (simp [*]; done)), H', ⟨Nat.le_refl _⟩, ⟨by repeat (first | (with_reducible first | exact HB.out | apply below_alloc | apply pw_below_drewN | apply below_drew1) | exact HB.out)⟩⟩
    case round =>
      clear H'
      try clear c1
      try clear c2
      try clear c2b0
      try clear c2b1
      try clear p2
      try clear c6
      obtain ⟨x4_1, x17_1, rfl, rfl, HA, HK1, HB⟩ := hrel
      cases gk with
      | zero => exact absurd HA.out (by simp [laws_FnMultiLine.l0])
      | succ k1 =>
        have H := HA.out
        clear HA
        simp only [laws_FnMultiLine.l0] at H
        by_cases c8 : x17_1 < (t172.size : Int)
        · rw [if_pos c8] at H
          have c8b0 : decide (x17_1 < (t172.size : Int)) = true := decide_eq_true c8
          clear c8
          by_cases c9 : x4_1 = true
          · subst c9
            have H1 : (if 0 ≤ x17_1 then (if x17_1 < (t172.size : Int) then (laws_FnMultiLine.l0 k1 t172 t173 ((bt t172 x17_1) != 10) (t172.size : Int) (wrap64 (x17_1 + 1))) else (none)) else (none)) = some r := by rw [if_pos rfl] at H; exact H
            clear H
            have H := H1
            clear H1
            by_cases c10 : 0 ≤ x17_1
            · rw [if_pos c10] at H
              have c10b0 : decide (0 ≤ x17_1) = true := decide_eq_true c10
              clear c10
              by_cases c11 : x17_1 < (t172.size : Int)
              · rw [if_pos c11] at H
                have c11b0 : decide (x17_1 < (t172.size : Int)) = true := decide_eq_true c11
                clear c11
                have H' := Aside0.mk H
                clear H
                have p12 : 0 ≤ (x17_1 : Int) := of_decide_eq_true (by first | (with_reducible assumption) | assumption)
                have q12 : x17_1 < (t172.size : Int) := of_decide_eq_true (by first | (with_reducible assumption) | assumption)
                have hx12 := bt_at t172 x17_1
                replace p12 := eq_true p12
                replace q12 := eq_true q12
                go_wp2
                go_roundg k1
                case measure => have := HK1.out; omega
                case rel => exact ⟨(((bt t172 x17_1) != 10)), (wrap64 (x17_1 + 1)), (by first | rfl | (simp; done) | (simp [*]; done)), (by first | rfl | (simp; done) | (simp [*]; done)), H', ⟨by have := HK1.out; omega⟩, ⟨by repeat (first | (with_reducible first | exact HB.out | apply below_alloc | apply pw_below_drewN | apply below_drew1) | exact HB.out)⟩⟩
              · rw [if_neg c11] at H
                exact absurd H (by simp)
            · rw [if_neg c10] at H
              exact absurd H (by simp)
          · replace c9 := Bool.eq_false_iff.mpr c9
            subst c9
            have H1 : (laws_FnMultiLine.l0 k1 t172 t173 false (t172.size : Int) (wrap64 (x17_1 + 1))) = some r := by rw [if_neg (show ¬ (false = true) by decide)] at H; exact H
            clear H
            have H := H1
            clear H1
            have H' := Aside0.mk H
            clear H
            go_wp2
            go_roundg k1
            case measure => have := HK1.out; omega
            case rel => exact ⟨(false), (wrap64 (x17_1 + 1)), (by first | rfl | (simp; done) | (simp [*]; done)), (by first | rfl | (simp; done) | (simp [*]; done)), H', ⟨by have := HK1.out; omega⟩, ⟨by repeat (first | (with_reducible first | exact HB.out | apply below_alloc | apply pw_below_drewN | apply below_drew1) | exact HB.out)⟩⟩
        · rw [if_neg c8] at H
          have c8b0 : decide (x17_1 < (t172.size : Int)) = false := decide_eq_false c8
          clear c8
          have H' := Aside0.mk H
          clear H
          go_wp2
          go_loopg [6] k1 (fun kq v6 w' => ∃ (x6_2 : Int), v6 = .int .i64 x6_2 ∧ Aside0 (laws_FnMultiLine.l1 kq t172 t173 x4_1 x6_2 = some r) ∧ Aside0 (kq ≤ k1) ∧ Aside0 (Below w.heap.size w w'))
          case atStart => exact ⟨(1), (by first | rfl | (simp; done) | (simp [*]; done)), H', ⟨Nat.le_refl _⟩, ⟨by repeat (first | (with_reducible first | exact HB.out | apply below_alloc | apply pw_below_drewN | apply below_drew1) | exact HB.out)⟩⟩
          case round =>
            clear H'
            try clear c1
            try clear p1
            try clear q1
            try clear hx1
            try clear c2
            try clear c2b0
            try clear c2b1
            try clear p2
            try clear c6
            try clear p6
            try clear c8
            try clear c8b0
            try clear c9
            try clear c10
            try clear c10b0
            try clear c11
            try clear c11b0
            try clear p12
            try clear q12
            try clear hx12
            try clear p12
            try clear p2
            try clear q12
            obtain ⟨x6_2, rfl, HA, HK2, HB⟩ := hrel
            cases gk with
            | zero => exact absurd HA.out (by simp [laws_FnMultiLine.l1])
            | succ k2 =>
              have H := HA.out
              clear HA
              simp only [laws_FnMultiLine.l1] at H
              by_cases c13 : x6_2 < (t173.size : Int)
              · rw [if_pos c13] at H
                have c13b0 : decide (x6_2 < (t173.size : Int)) = true := decide_eq_true c13
                clear c13
                by_cases c14 : 0 ≤ x6_2
                · rw [if_pos c14] at H
                  have c14b0 : decide (0 ≤ x6_2) = true := decide_eq_true c14
                  clear c14
                  by_cases c16 : (bt t173 x6_2) = 10
                  · rw [if_pos c16] at H
                    have c16b0 : ((bt t173 x6_2) == 10) = true := beq_iff_eq.mpr c16
                    have c16b1 : ((bt t173 x6_2) != 10) = false := bne_eq_false_iff_eq.mpr c16
                    clear c16
                    obtain ⟨ji17, hji17⟩ : ∃ j_ : Int, (wrap64 (x6_2 - 1)) = j_ := ⟨_, rfl⟩
                    replace H : (if 0 ≤ (ji17) then (if (ji17) < (t173.size : Int) then (if (bt t173 (ji17)) = 10 then (some false) else (laws_FnMultiLine.l1 k2 t172 t173 x4_1 (wrap64 (x6_2 + 1)))) else (none)) else (none)) = some r := by first | (rw [hji17] at H; exact H) | (simp only [hji17] at H ⊢; exact H)
                    have hji17w : (IntKind.i64.wrap (x6_2 - 1)) = ji17 := (i64_w _).trans hji17
                    by_cases c18 : 0 ≤ (ji17)
                    · rw [if_pos c18] at H
                      have c18b0 : decide (0 ≤ (ji17)) = true := decide_eq_true c18
                      clear c18
                      by_cases c19 : (ji17) < (t173.size : Int)
                      · rw [if_pos c19] at H
                        have c19b0 : decide ((ji17) < (t173.size : Int)) = true := decide_eq_true c19
                        clear c19
                        by_cases c21 : (bt t173 (ji17)) = 10
                        · rw [if_pos c21] at H
                          have c21b0 : ((bt t173 (ji17)) == 10) = true := beq_iff_eq.mpr c21
                          have c21b1 : ((bt t173 (ji17)) != 10) = false := bne_eq_false_iff_eq.mpr c21
                          clear c21
                          obtain rfl := Option.some.inj H
                          have p15 : 0 ≤ (x6_2 : Int) := of_decide_eq_true (by first | (with_reducible assumption) | assumption)
                          have q15 : x6_2 < (t173.size : Int) := of_decide_eq_true (by first | (with_reducible assumption) | assumption)
                          have hx15 := bt_at t173 x6_2
                          replace p15 := eq_true p15
                          replace q15 := eq_true q15
                          have p20 : 0 ≤ ((ji17) : Int) := of_decide_eq_true (by first | (with_reducible assumption) | assumption)
                          have q20 : (ji17) < (t173.size : Int) := of_decide_eq_true (by first | (with_reducible assumption) | assumption)
                          have hx20 := bt_at t173 (ji17)
                          replace p20 := eq_true p20
                          replace q20 := eq_true q20
                          go_wp2
                          go_ret
                          exact ⟨by first | rfl | (simp [errW_none, errW_some] <;> rfl) | (simp only [← hji17]; first | rfl | (simp [errW_none, errW_some] <;> rfl)) | (simp [*, errW_none, errW_some] <;> rfl), by repeat (first | (with_reducible first | exact HB.out | apply below_alloc | apply pw_below_drewN | apply below_drew1) | exact HB.out)⟩
                        · rw [if_neg c21] at H
                          have c21b0 : ((bt t173 (ji17)) == 10) = false := beq_eq_false_iff_ne.mpr c21
                          have c21b1 : ((bt t173 (ji17)) != 10) = true := bne_iff_ne.mpr c21
                          have H' := Aside0.mk H
                          clear H
                          have p15 : 0 ≤ (x6_2 : Int) := of_decide_eq_true (by first | (with_reducible assumption) | assumption)
                          have q15 : x6_2 < (t173.size : Int) := of_decide_eq_true (by first | (with_reducible assumption) | assumption)
                          have hx15 := bt_at t173 x6_2
                          replace p15 := eq_true p15
                          replace q15 := eq_true q15
                          have p20 : 0 ≤ ((ji17) : Int) := of_decide_eq_true (by first | (with_reducible assumption) | assumption)
                          have q20 : (ji17) < (t173.size : Int) := of_decide_eq_true (by first | (with_reducible assumption) | assumption)
                          have hx20 := bt_at t173 (ji17)
                          replace p20 := eq_true p20
                          replace q20 := eq_true q20
                          go_wp2
                          go_roundg k2
                          case measure => have := HK1.out; have := HK2.out; omega
                          case rel => exact ⟨(wrap64 (x6_2 + 1)), (by first | rfl | (simp; done) | (simp [*]; done)), H', ⟨by have := HK1.out; have := HK2.out; omega⟩, ⟨by repeat (first | (with_reducible first | exact HB.out | apply below_alloc | apply pw_below_drewN | apply below_drew1) | exact HB.out)⟩⟩
                      · rw [if_neg c19] at H
                        exact absurd H (by simp)
                    · rw [if_neg c18] at H
                      exact absurd H (by simp)
                  · rw [if_neg c16] at H
                    have c16b0 : ((bt t173 x6_2) == 10) = false := beq_eq_false_iff_ne.mpr c16
                    have c16b1 : ((bt t173 x6_2) != 10) = true := bne_iff_ne.mpr c16
                    have H' := Aside0.mk H
                    clear H
                    have p15 : 0 ≤ (x6_2 : Int) := of_decide_eq_true (by first | (with_reducible assumption) | assumption)
                    have q15 : x6_2 < (t173.size : Int) := of_decide_eq_true (by first | (with_reducible assumption) | assumption)
                    have hx15 := bt_at t173 x6_2
                    replace p15 := eq_true p15
                    replace q15 := eq_true q15
                    go_wp2
                    go_roundg k2
                    case measure => have := HK1.out; have := HK2.out; omega
                    case rel => exact ⟨(wrap64 (x6_2 + 1)), (by first | rfl | (simp; done) | (simp [*]; done)), H', ⟨by have := HK1.out; have := HK2.out; omega⟩, ⟨by repeat (first | (with_reducible first | exact HB.out | apply below_alloc | apply pw_below_drewN | apply below_drew1) | exact HB.out)⟩⟩
                · rw [if_neg c14] at H
                  exact absurd H (by simp)
              · rw [if_neg c13] at H
                have c13b0 : decide (x6_2 < (t173.size : Int)) = false := decide_eq_false c13
                clear c13
                by_cases c22 : x4_1 = true
                · subst c22
                  have H1 : (if t173.toList = t172.toList then ((laws_inlineLives.f k2).bind fun t174 => (some t174)) else (some false)) = some r := by rw [if_pos rfl] at H; exact H
                  clear H
                  have H := H1
                  clear H1
                  by_cases c23 : t173.toList = t172.toList
                  · rw [if_pos c23] at H
                    have c23b0 : (t173.toList == t172.toList) = true := beq_iff_eq.mpr c23
                    have c23b1 : (t173.toList != t172.toList) = false := bne_eq_false_iff_eq.mpr c23
                    clear c23
                    replace H := Option.bind_eq_some_iff.mp H
                    obtain ⟨t174, A240, H⟩ := H
                    replace H : (some t174) = some r := H
                    have A24 := Aside0.mk A240
                    clear A240
                    obtain rfl := Option.some.inj H
                    go_wp2_with (first | (go_at_call 14; (with_reducible refine (laws_inlineLives.calls k2  t174 _ A24.out).mono ?_); rintro e w25 ⟨rfl, hb⟩; have n0_ := Aside0.mk (below_step (by repeat (first | (with_reducible first | exact HB.out | apply below_alloc | apply pw_below_drewN | apply below_drew1) | exact HB.out)) hb); clear HB; have HB := n0_; clear n0_; (try clear hb); (try clear hb2); (try clear hk); (try clear hi)))
                    go_ret
                    exact ⟨by first | rfl | (simp [errW_none, errW_some] <;> rfl) | (simp [*, errW_none, errW_some] <;> rfl), by repeat (first | (with_reducible first | exact HB.out | apply below_alloc | apply pw_below_drewN | apply below_drew1) | exact HB.out)⟩
                  · rw [if_neg c23] at H
                    have c23b0 : (t173.toList == t172.toList) = false := beq_eq_false_iff_ne.mpr c23
                    have c23b1 : (t173.toList != t172.toList) = true := bne_iff_ne.mpr c23
                    obtain rfl := Option.some.inj H
                    go_wp2
                    go_ret
                    exact ⟨by first | rfl | (simp [errW_none, errW_some] <;> rfl) | (simp [*, errW_none, errW_some] <;> rfl), by repeat (first | (with_reducible first | exact HB.out | apply below_alloc | apply pw_below_drewN | apply below_drew1) | exact HB.out)⟩
                · replace c22 := Bool.eq_false_iff.mpr c22
                  subst c22
                  have H1 : ((laws_inlineLives.f k2).bind fun t175 => (some t175)) = some r := by rw [if_neg (show ¬ (false = true) by decide)] at H; exact H
                  clear H
                  have H := H1
                  clear H1
                  replace H := Option.bind_eq_some_iff.mp H
                  obtain ⟨t175, A260, H⟩ := H
                  replace H : (some t175) = some r := H
                  have A26 := Aside0.mk A260
                  clear A260
                  obtain rfl := Option.some.inj H
                  go_wp2_with (first | (go_at_call 14; (with_reducible refine (laws_inlineLives.calls k2  t175 _ A26.out).mono ?_); rintro e w27 ⟨rfl, hb⟩; have n0_ := Aside0.mk (below_step (by repeat (first | (with_reducible first | exact HB.out | apply below_alloc | apply pw_below_drewN | apply below_drew1) | exact HB.out)) hb); clear HB; have HB := n0_; clear n0_; (try clear hb); (try clear hb2); (try clear hk); (try clear hi)))
                  go_ret
                  exact ⟨by first | rfl | (simp [errW_none, errW_some] <;> rfl) | (simp [*, errW_none, errW_some] <;> rfl), by repeat (first | (with_reducible first | exact HB.out | apply below_alloc | apply pw_below_drewN | apply below_drew1) | exact HB.out)⟩

/-- THE ONE PURE STATEMENT of laws_FnMultiLine: yours. -/
def laws_FnMultiLine.Pure : Prop := ∀ (a0 : ByteArray), a0.size ≤ 140737488351232 → ∃ k, laws_FnMultiLine.f k a0 = some true
theorem laws_FnMultiLine.walk (P : laws_FnMultiLine.Pure) (a0 : ByteArray) (w : World) (w0 : a0.size ≤ 140737488351232) :
    Calls Tryd.prog 6 #[.string a0] w fun e w' => e = .returned (.bool true) ∧ Below w.heap.size w w' := by
  obtain ⟨k, h⟩ := P a0 w0
  refine (laws_FnMultiLine.calls k a0 true w h).mono ?_
  rintro e w' ⟨rfl, hd⟩
  exact ⟨rfl, hd⟩

end Go.Proofs.YtbhcoeabhdangaaDoor.PInl
