/- Printed by the program extprint.py of this session, out of the kit's print and contracts of this session's own; Lean checks it. -/
import Derived.Test.YtbhcoeabhdangaaPFnLanguagex0
import Derived.Test.YtbhcoeabhdangaaPFnLanguagex1
import Derived.Test.YtbhcoeabhdangaaPFnLanguagex2
import Derived.Test.YtbhcoeabhdangaaLangX
namespace Go.Proofs.Ytbhcoeabhdangaa.PFnLanguage
open Go.RowKit Go.Proofs.YtbhcoeabhdangaaW.PrintWords Go.Proofs.YtbhcoeabhdangaaW.PrintLast Go.Proofs.YtbhcoeabhdangaaW.PrintMore
attribute [local go_sem] max2_int min2_int max_two min_two max_three min_three max_four min_four   -- for this text's walks alone
set_option linter.unusedVariables false
set_option linter.unusedSimpArgs false


-- NOT PRINTED: function 54 (dom_GetAttributeOr)


-- NOT PRINTED: function 55 (commonmark_zzSplit)



-- NOT PRINTED: function 31 (commonmark_getCodeLanguage)

-- NOT PRINTED: function 22 (commonmark_ZzLanguage)


/-! ### laws_FnLanguage: function 5 -/
mutual
def laws_FnLanguage.j0 : Nat → ByteArray → ByteArray → ByteArray → Bool → Option (Bool)
  | 0, _, _, _, _ => none
  | k + 1, x0, x1, x2, x21 => if x21 = true then (some true) else ((laws_words29.f k x0).bind fun t103 => (if t103 = true then ((laws_words29.f k x1).bind fun t104 => (if t104 = true then ((laws_words29.f k x2).bind fun t105 => (if t105 = true then (laws_FnLanguage.j1 k x0 x1 x2 (x1.toList == ([] : List UInt8))) else (laws_FnLanguage.j1 k x0 x1 x2 true))) else (laws_FnLanguage.j1 k x0 x1 x2 true))) else (laws_FnLanguage.j1 k x0 x1 x2 true)))
def laws_FnLanguage.j1 : Nat → ByteArray → ByteArray → ByteArray → Bool → Option (Bool)
  | 0, _, _, _, _ => none
  | k + 1, x0, x1, x2, x38 => if x38 = true then (some true) else (laws_FnLanguage.l0 k x0 x1 x2 (x1.size : Int) 0)
def laws_FnLanguage.l0 : Nat → ByteArray → ByteArray → ByteArray → Int → Int → Option (Bool)
  | 0, _, _, _, _, _ => none
  | k + 1, x0, x1, x2, x40, x41 => if x41 < x40 then (if 0 ≤ x41 then (if x41 < (x1.size : Int) then (if (bt x1 x41) = 32 then (some true) else (laws_FnLanguage.l0 k x0 x1 x2 x40 (wrap64 (x41 + 1)))) else (none)) else (none)) else (if 9 + x1.size ≤ 9223372036854775807 then (if x0.toList = ([] : List UInt8) then (if x2.toList = ([] : List UInt8) then ((impl_Language.f k ((⟨#[108, 97, 110, 103, 117, 97, 103, 101, 45]⟩ : ByteArray) ++ x1)).bind fun t106 => (some (t106.toList == x1.toList))) else (if 1 + x2.size ≤ 9223372036854775807 then (if ((⟨#[108, 97, 110, 103, 117, 97, 103, 101, 45]⟩ : ByteArray) ++ x1).size + ((⟨#[32]⟩ : ByteArray) ++ x2).size ≤ 9223372036854775807 then ((impl_Language.f k (((⟨#[108, 97, 110, 103, 117, 97, 103, 101, 45]⟩ : ByteArray) ++ x1) ++ ((⟨#[32]⟩ : ByteArray) ++ x2))).bind fun t107 => (some (t107.toList == x1.toList))) else (none)) else (none))) else (if x0.size + 1 ≤ 9223372036854775807 then (if (x0 ++ (⟨#[32]⟩ : ByteArray)).size + ((⟨#[108, 97, 110, 103, 117, 97, 103, 101, 45]⟩ : ByteArray) ++ x1).size ≤ 9223372036854775807 then (if x2.toList = ([] : List UInt8) then ((impl_Language.f k ((x0 ++ (⟨#[32]⟩ : ByteArray)) ++ ((⟨#[108, 97, 110, 103, 117, 97, 103, 101, 45]⟩ : ByteArray) ++ x1))).bind fun t108 => (some (t108.toList == x1.toList))) else (if 1 + x2.size ≤ 9223372036854775807 then (if ((x0 ++ (⟨#[32]⟩ : ByteArray)) ++ ((⟨#[108, 97, 110, 103, 117, 97, 103, 101, 45]⟩ : ByteArray) ++ x1)).size + ((⟨#[32]⟩ : ByteArray) ++ x2).size ≤ 9223372036854775807 then ((impl_Language.f k (((x0 ++ (⟨#[32]⟩ : ByteArray)) ++ ((⟨#[108, 97, 110, 103, 117, 97, 103, 101, 45]⟩ : ByteArray) ++ x1)) ++ ((⟨#[32]⟩ : ByteArray) ++ x2))).bind fun t109 => (some (t109.toList == x1.toList))) else (none)) else (none))) else (none)) else (none))) else (none))
end
def laws_FnLanguage.f (k : Nat) (a0 : ByteArray) (a1 : ByteArray) (a2 : ByteArray) : Option (Bool) := if (a0.size : Int) > 2147483647 then (laws_FnLanguage.j0 k a0 a1 a2 true) else (if (a1.size : Int) > 2147483647 then (laws_FnLanguage.j0 k a0 a1 a2 true) else (laws_FnLanguage.j0 k a0 a1 a2 (decide ((a2.size : Int) > 2147483647))))
theorem laws_FnLanguage.mono_l : ∀ k, (∀ y0 y1 y2 y3, LeO (laws_FnLanguage.j0 k y0 y1 y2 y3) (laws_FnLanguage.j0 (k + 1) y0 y1 y2 y3)) ∧ (∀ y0 y1 y2 y3, LeO (laws_FnLanguage.j1 k y0 y1 y2 y3) (laws_FnLanguage.j1 (k + 1) y0 y1 y2 y3)) ∧ (∀ y0 y1 y2 y3 y4, LeO (laws_FnLanguage.l0 k y0 y1 y2 y3 y4) (laws_FnLanguage.l0 (k + 1) y0 y1 y2 y3 y4))
  | 0 => ⟨fun _ _ _ _ r h => by simp [laws_FnLanguage.j0] at h, fun _ _ _ _ r h => by simp [laws_FnLanguage.j1] at h, fun _ _ _ _ _ r h => by simp [laws_FnLanguage.l0] at h⟩
  | k + 1 => by
    obtain ⟨ih0, ih1, ih2⟩ := laws_FnLanguage.mono_l k
    refine ⟨?_, ?_, ?_⟩
    · intro y0 y1 y2 y3
      unfold laws_FnLanguage.j0
      repeat' first
      | (with_reducible exact ih0 _ _ _ _)
      | (with_reducible exact ih1 _ _ _ _)
      | (with_reducible exact ih2 _ _ _ _ _)
      | (with_reducible exact impl_Language.mono _ _)
      | (with_reducible exact laws_words29.mono _ _)
      | (with_reducible exact LeO.refl _)
      | (with_reducible exact LeO.none _)
      | (with_reducible refine LeO.ite ?_ ?_)
      | (with_reducible refine LeO.bind ?_ (fun _ => ?_))
      | exact ih0 _ _ _ _
      | exact ih1 _ _ _ _
      | exact ih2 _ _ _ _ _
      | exact impl_Language.mono _ _
      | exact laws_words29.mono _ _
      | exact LeO.none _
      | refine LeO.ite ?_ ?_
      | refine LeO.bind ?_ (fun _ => ?_)
    · intro y0 y1 y2 y3
      unfold laws_FnLanguage.j1
      repeat' first
      | (with_reducible exact ih0 _ _ _ _)
      | (with_reducible exact ih1 _ _ _ _)
      | (with_reducible exact ih2 _ _ _ _ _)
      | (with_reducible exact impl_Language.mono _ _)
      | (with_reducible exact laws_words29.mono _ _)
      | (with_reducible exact LeO.refl _)
      | (with_reducible exact LeO.none _)
      | (with_reducible refine LeO.ite ?_ ?_)
      | (with_reducible refine LeO.bind ?_ (fun _ => ?_))
      | exact ih0 _ _ _ _
      | exact ih1 _ _ _ _
      | exact ih2 _ _ _ _ _
      | exact impl_Language.mono _ _
      | exact laws_words29.mono _ _
      | exact LeO.none _
      | refine LeO.ite ?_ ?_
      | refine LeO.bind ?_ (fun _ => ?_)
    · intro y0 y1 y2 y3 y4
      unfold laws_FnLanguage.l0
      repeat' first
      | (with_reducible exact ih0 _ _ _ _)
      | (with_reducible exact ih1 _ _ _ _)
      | (with_reducible exact ih2 _ _ _ _ _)
      | (with_reducible exact impl_Language.mono _ _)
      | (with_reducible exact laws_words29.mono _ _)
      | (with_reducible exact LeO.refl _)
      | (with_reducible exact LeO.none _)
      | (with_reducible refine LeO.ite ?_ ?_)
      | (with_reducible refine LeO.bind ?_ (fun _ => ?_))
      | exact ih0 _ _ _ _
      | exact ih1 _ _ _ _
      | exact ih2 _ _ _ _ _
      | exact impl_Language.mono _ _
      | exact laws_words29.mono _ _
      | exact LeO.none _
      | refine LeO.ite ?_ ?_
      | refine LeO.bind ?_ (fun _ => ?_)
theorem laws_FnLanguage.mono : ∀ a0 a1 a2 k, LeO (laws_FnLanguage.f k a0 a1 a2) (laws_FnLanguage.f (k + 1) a0 a1 a2) := by
  intro a0 a1 a2 k
  obtain ⟨ih0, ih1, ih2⟩ := laws_FnLanguage.mono_l k
  unfold laws_FnLanguage.f
  repeat' first
      | (with_reducible exact ih0 _ _ _ _)
      | (with_reducible exact ih1 _ _ _ _)
      | (with_reducible exact ih2 _ _ _ _ _)
      | (with_reducible exact impl_Language.mono _ _)
      | (with_reducible exact laws_words29.mono _ _)
      | (with_reducible exact LeO.refl _)
      | (with_reducible exact LeO.none _)
      | (with_reducible refine LeO.ite ?_ ?_)
      | (with_reducible refine LeO.bind ?_ (fun _ => ?_))
      | exact ih0 _ _ _ _
      | exact ih1 _ _ _ _
      | exact ih2 _ _ _ _ _
      | exact impl_Language.mono _ _
      | exact laws_words29.mono _ _
      | exact LeO.none _
      | refine LeO.ite ?_ ?_
      | refine LeO.bind ?_ (fun _ => ?_)
set_option maxHeartbeats 8000000 in
set_option maxRecDepth 100000 in
theorem laws_FnLanguage.calls (k : Nat) (a0 : ByteArray) (a1 : ByteArray) (a2 : ByteArray) (r : Bool) (w : World) (h : laws_FnLanguage.f k a0 a1 a2 = some r) :
    Calls Try.prog 5 #[.string a0, .string a1, .string a2] w fun e w' => e = .returned (.bool r) ∧ Below w.heap.size w w' := by
  have HB := Aside0.mk (Below.refl w.heap.size w)
  have H : (if (a0.size : Int) > 2147483647 then (laws_FnLanguage.j0 k a0 a1 a2 true) else (if (a1.size : Int) > 2147483647 then (laws_FnLanguage.j0 k a0 a1 a2 true) else (laws_FnLanguage.j0 k a0 a1 a2 (decide ((a2.size : Int) > 2147483647))))) = some r := h
  clear h
  have HC4 := Aside0.mk H
  clear H
  go_enter Try.func5, Try.ntmps5
  go_upto_region 1 with (fail)
  go_cut [21] (fun v21 wc => ∃ (kq : Nat) (x21_3 : Bool), v21 = .bool x21_3 ∧ Aside0 (laws_FnLanguage.j0 kq a0 a1 a2 x21_3 = some r) ∧ Aside0 (kq ≤ k) ∧ Aside0 (Below w.heap.size w wc))
  case first =>
    have H := HC4.out
    clear HC4
    by_cases c5 : (a0.size : Int) > 2147483647
    · rw [if_pos c5] at H
      have c5b0 : decide (2147483647 < (a0.size : Int)) = true := decide_eq_true c5
      have c5b1 : decide (2147483647 < a0.size) = true := decide_eq_true (by omega)
      clear c5
      (first | rw [c5b0] | (simp only [i64_w, i32_w]; rw [c5b0]) | skip)
      have H' := Aside0.mk H
      clear H
      go_wp2
      go_meet
      case rel => exact ⟨_, (true), (by first | rfl | (simp; done) | (simp [*]; done)), H', ⟨by first | omega | exact Nat.le_refl _⟩, ⟨by repeat (first | (with_reducible first | exact HB.out | apply below_alloc | apply pw_below_drewN | apply below_drew1) | exact HB.out)⟩⟩
    · rw [if_neg c5] at H
      have c5b0 : decide (2147483647 < (a0.size : Int)) = false := decide_eq_false c5
      have c5b1 : decide (2147483647 < a0.size) = false := decide_eq_false (by omega)
      clear c5
      (first | rw [c5b0] | (simp only [i64_w, i32_w]; rw [c5b0]) | skip)
      by_cases c6 : (a1.size : Int) > 2147483647
      · rw [if_pos c6] at H
        have c6b0 : decide (2147483647 < (a1.size : Int)) = true := decide_eq_true c6
        have c6b1 : decide (2147483647 < a1.size) = true := decide_eq_true (by omega)
        clear c6
        have H' := Aside0.mk H
        clear H
        go_wp2
        go_meet
        case rel => exact ⟨_, (true), (by first | rfl | (simp; done) | (simp [*]; done)), H', ⟨by first | omega | exact Nat.le_refl _⟩, ⟨by repeat (first | (with_reducible first | exact HB.out | apply below_alloc | apply pw_below_drewN | apply below_drew1) | exact HB.out)⟩⟩
      · rw [if_neg c6] at H
        have c6b0 : decide (2147483647 < (a1.size : Int)) = false := decide_eq_false c6
        have c6b1 : decide (2147483647 < a1.size) = false := decide_eq_false (by omega)
        clear c6
        have H' := Aside0.mk H
        clear H
        go_wp2
        go_meet
        case rel => exact ⟨_, (decide ((a2.size : Int) > 2147483647)), (by first | rfl | (simp; done) | (simp [*]; done)), H', ⟨by first | omega | exact Nat.le_refl _⟩, ⟨by repeat (first | (with_reducible first | exact HB.out | apply below_alloc | apply pw_below_drewN | apply below_drew1) | exact HB.out)⟩⟩
  case rest =>
    clear HC4
    try clear p2
    try clear c5
    try clear c5b0
    try clear c5b1
    try clear c6
    try clear c6b0
    try clear c6b1
    obtain ⟨kq, x21_3, rfl, HA, HJ3, HB⟩ := hcut
    cases kq with
    | zero => exact absurd HA.out (by simp [laws_FnLanguage.j0])
    | succ kj3 =>
      have H := HA.out
      clear HA
      simp only [laws_FnLanguage.j0] at H
      by_cases c7 : x21_3 = true
      · subst c7
        have H1 : (some true) = some r := by rw [if_pos rfl] at H; exact H
        clear H
        have H := H1
        clear H1
        obtain rfl := Option.some.inj H
        go_wp2
        go_ret
        exact ⟨by first | rfl | (simp [errW_none, errW_some] <;> rfl) | (simp [*, errW_none, errW_some] <;> rfl), by repeat (first | (with_reducible first | exact HB.out | apply below_alloc | apply pw_below_drewN | apply below_drew1) | exact HB.out)⟩
      · replace c7 := Bool.eq_false_iff.mpr c7
        subst c7
        have H1 : ((laws_words29.f kj3 a0).bind fun t103 => (if t103 = true then ((laws_words29.f kj3 a1).bind fun t104 => (if t104 = true then ((laws_words29.f kj3 a2).bind fun t105 => (if t105 = true then (laws_FnLanguage.j1 kj3 a0 a1 a2 (a1.toList == ([] : List UInt8))) else (laws_FnLanguage.j1 kj3 a0 a1 a2 true))) else (laws_FnLanguage.j1 kj3 a0 a1 a2 true))) else (laws_FnLanguage.j1 kj3 a0 a1 a2 true))) = some r := by rw [if_neg (show ¬ (false = true) by decide)] at H; exact H
        clear H
        have H := H1
        clear H1
        have HC8 := Aside0.mk H
        clear H
        go_upto_region 3 with (fail)
        go_cut [38] (fun v38 wc => ∃ (kq : Nat) (x38_7 : Bool), v38 = .bool x38_7 ∧ Aside0 (laws_FnLanguage.j1 kq a0 a1 a2 x38_7 = some r) ∧ Aside0 (kq ≤ kj3) ∧ Aside0 (Below w.heap.size w wc))
        case first =>
          have H := HC8.out
          clear HC8
          replace H := Option.bind_eq_some_iff.mp H
          obtain ⟨t103, A90, H⟩ := H
          replace H : (if t103 = true then ((laws_words29.f kj3 a1).bind fun t104 => (if t104 = true then ((laws_words29.f kj3 a2).bind fun t105 => (if t105 = true then (laws_FnLanguage.j1 kj3 a0 a1 a2 (a1.toList == ([] : List UInt8))) else (laws_FnLanguage.j1 kj3 a0 a1 a2 true))) else (laws_FnLanguage.j1 kj3 a0 a1 a2 true))) else (laws_FnLanguage.j1 kj3 a0 a1 a2 true)) = some r := H
          have A9 := Aside0.mk A90
          clear A90
          by_cases c10 : t103 = true
          · subst c10
            have H1 : ((laws_words29.f kj3 a1).bind fun t104 => (if t104 = true then ((laws_words29.f kj3 a2).bind fun t105 => (if t105 = true then (laws_FnLanguage.j1 kj3 a0 a1 a2 (a1.toList == ([] : List UInt8))) else (laws_FnLanguage.j1 kj3 a0 a1 a2 true))) else (laws_FnLanguage.j1 kj3 a0 a1 a2 true))) = some r := by rw [if_pos rfl] at H; exact H
            clear H
            have H := H1
            clear H1
            replace H := Option.bind_eq_some_iff.mp H
            obtain ⟨t104, A110, H⟩ := H
            replace H : (if t104 = true then ((laws_words29.f kj3 a2).bind fun t105 => (if t105 = true then (laws_FnLanguage.j1 kj3 a0 a1 a2 (a1.toList == ([] : List UInt8))) else (laws_FnLanguage.j1 kj3 a0 a1 a2 true))) else (laws_FnLanguage.j1 kj3 a0 a1 a2 true)) = some r := H
            have A11 := Aside0.mk A110
            clear A110
            by_cases c12 : t104 = true
            · subst c12
              have H1 : ((laws_words29.f kj3 a2).bind fun t105 => (if t105 = true then (laws_FnLanguage.j1 kj3 a0 a1 a2 (a1.toList == ([] : List UInt8))) else (laws_FnLanguage.j1 kj3 a0 a1 a2 true))) = some r := by rw [if_pos rfl] at H; exact H
              clear H
              have H := H1
              clear H1
              replace H := Option.bind_eq_some_iff.mp H
              obtain ⟨t105, A130, H⟩ := H
              replace H : (if t105 = true then (laws_FnLanguage.j1 kj3 a0 a1 a2 (a1.toList == ([] : List UInt8))) else (laws_FnLanguage.j1 kj3 a0 a1 a2 true)) = some r := H
              have A13 := Aside0.mk A130
              clear A130
              by_cases c14 : t105 = true
              · subst c14
                have H1 : (laws_FnLanguage.j1 kj3 a0 a1 a2 (a1.toList == ([] : List UInt8))) = some r := by rw [if_pos rfl] at H; exact H
                clear H
                have H := H1
                clear H1
                have H' := Aside0.mk H
                clear H
                go_wp2_with (first | ((with_reducible refine gate_callee (f := 13) rfl ?_); refine goesL_ (some 23) rfl rfl Try.func13 (by kernel_rfl) rfl #[.string a0] rfl (by (try simp only [List.map_toArray, List.map_cons, List.map_nil]); first | done | rfl | (simp only [List.length_drop, List.length_take]; rfl)) ?_; (with_reducible refine (laws_words29.calls kj3 a0 true _ A9.out).mono ?_); rintro e w' ⟨rfl, ⟨nd, rfl⟩⟩; refine ⟨_, rfl, ?_⟩) | (go_at_call 13; (with_reducible refine (laws_words29.calls kj3 a1 true _ A11.out).mono ?_); rintro e w' ⟨rfl, ⟨nd, rfl⟩⟩) | (go_at_call 13; (with_reducible refine (laws_words29.calls kj3 a2 true _ A13.out).mono ?_); rintro e w' ⟨rfl, ⟨nd, rfl⟩⟩))
                go_meet
                case rel => exact ⟨_, ((a1.toList == ([] : List UInt8))), (by first | rfl | (simp; done) | (simp [*]; done)), H', ⟨by have := HJ3.out; first | omega | exact Nat.le_refl _⟩, ⟨by repeat (first | (with_reducible first | exact HB.out | apply below_alloc | apply pw_below_drewN | apply below_drew1) | exact HB.out)⟩⟩
              · replace c14 := Bool.eq_false_iff.mpr c14
                subst c14
                have H1 : (laws_FnLanguage.j1 kj3 a0 a1 a2 true) = some r := by rw [if_neg (show ¬ (false = true) by decide)] at H; exact H
                clear H
                have H := H1
                clear H1
                have H' := Aside0.mk H
                clear H
                go_wp2_with (first | ((with_reducible refine gate_callee (f := 13) rfl ?_); refine goesL_ (some 23) rfl rfl Try.func13 (by kernel_rfl) rfl #[.string a0] rfl (by (try simp only [List.map_toArray, List.map_cons, List.map_nil]); first | done | rfl | (simp only [List.length_drop, List.length_take]; rfl)) ?_; (with_reducible refine (laws_words29.calls kj3 a0 true _ A9.out).mono ?_); rintro e w' ⟨rfl, ⟨nd, rfl⟩⟩; refine ⟨_, rfl, ?_⟩) | (go_at_call 13; (with_reducible refine (laws_words29.calls kj3 a1 true _ A11.out).mono ?_); rintro e w' ⟨rfl, ⟨nd, rfl⟩⟩) | (go_at_call 13; (with_reducible refine (laws_words29.calls kj3 a2 false _ A13.out).mono ?_); rintro e w' ⟨rfl, ⟨nd, rfl⟩⟩))
                go_meet
                case rel => exact ⟨_, (true), (by first | rfl | (simp; done) | (simp [*]; done)), H', ⟨by have := HJ3.out; first | omega | exact Nat.le_refl _⟩, ⟨by repeat (first | (with_reducible first | exact HB.out | apply below_alloc | apply pw_below_drewN | apply below_drew1) | exact HB.out)⟩⟩
            · replace c12 := Bool.eq_false_iff.mpr c12
              subst c12
              have H1 : (laws_FnLanguage.j1 kj3 a0 a1 a2 true) = some r := by rw [if_neg (show ¬ (false = true) by decide)] at H; exact H
              clear H
              have H := H1
              clear H1
              have H' := Aside0.mk H
              clear H
              go_wp2_with (first | ((with_reducible refine gate_callee (f := 13) rfl ?_); refine goesL_ (some 23) rfl rfl Try.func13 (by kernel_rfl) rfl #[.string a0] rfl (by (try simp only [List.map_toArray, List.map_cons, List.map_nil]); first | done | rfl | (simp only [List.length_drop, List.length_take]; rfl)) ?_; (with_reducible refine (laws_words29.calls kj3 a0 true _ A9.out).mono ?_); rintro e w' ⟨rfl, ⟨nd, rfl⟩⟩; refine ⟨_, rfl, ?_⟩) | (go_at_call 13; (with_reducible refine (laws_words29.calls kj3 a1 false _ A11.out).mono ?_); rintro e w' ⟨rfl, ⟨nd, rfl⟩⟩))
              go_meet
              case rel => exact ⟨_, (true), (by first | rfl | (simp; done) | (simp [*]; done)), H', ⟨by have := HJ3.out; first | omega | exact Nat.le_refl _⟩, ⟨by repeat (first | (with_reducible first | exact HB.out | apply below_alloc | apply pw_below_drewN | apply below_drew1) | exact HB.out)⟩⟩
          · replace c10 := Bool.eq_false_iff.mpr c10
            subst c10
            have H1 : (laws_FnLanguage.j1 kj3 a0 a1 a2 true) = some r := by rw [if_neg (show ¬ (false = true) by decide)] at H; exact H
            clear H
            have H := H1
            clear H1
            have H' := Aside0.mk H
            clear H
            go_wp2_with (first | ((with_reducible refine gate_callee (f := 13) rfl ?_); refine goesL_ (some 23) rfl rfl Try.func13 (by kernel_rfl) rfl #[.string a0] rfl (by (try simp only [List.map_toArray, List.map_cons, List.map_nil]); first | done | rfl | (simp only [List.length_drop, List.length_take]; rfl)) ?_; (with_reducible refine (laws_words29.calls kj3 a0 false _ A9.out).mono ?_); rintro e w' ⟨rfl, ⟨nd, rfl⟩⟩; refine ⟨_, rfl, ?_⟩))
            go_meet
            case rel => exact ⟨_, (true), (by first | rfl | (simp; done) | (simp [*]; done)), H', ⟨by have := HJ3.out; first | omega | exact Nat.le_refl _⟩, ⟨by repeat (first | (with_reducible first | exact HB.out | apply below_alloc | apply pw_below_drewN | apply below_drew1) | exact HB.out)⟩⟩
        case rest =>
          clear HC8
          try clear c1
          try clear p2
          try clear c5
          try clear c5b0
          try clear c5b1
          try clear c6
          try clear c6b0
          try clear c6b1
          try clear c7
          try clear c10
          try clear c12
          try clear c13
          try clear c14
          try clear p2
          obtain ⟨kq, x38_7, rfl, HA, HJ7, HB⟩ := hcut
          cases kq with
          | zero => exact absurd HA.out (by simp [laws_FnLanguage.j1])
          | succ kj7 =>
            have H := HA.out
            clear HA
            simp only [laws_FnLanguage.j1] at H
            by_cases c15 : x38_7 = true
            · subst c15
              have H1 : (some true) = some r := by rw [if_pos rfl] at H; exact H
              clear H
              have H := H1
              clear H1
              obtain rfl := Option.some.inj H
              go_wp2
              go_ret
              exact ⟨by first | rfl | (simp [errW_none, errW_some] <;> rfl) | (simp [*, errW_none, errW_some] <;> rfl), by repeat (first | (with_reducible first | exact HB.out | apply below_alloc | apply pw_below_drewN | apply below_drew1) | exact HB.out)⟩
            · replace c15 := Bool.eq_false_iff.mpr c15
              subst c15
              have H1 : (laws_FnLanguage.l0 kj7 a0 a1 a2 (a1.size : Int) 0) = some r := by rw [if_neg (show ¬ (false = true) by decide)] at H; exact H
              clear H
              have H := H1
              clear H1
              have H' := Aside0.mk H
              clear H
              go_wp2
              go_loopg [41] kj7 (fun kq v41 w' => ∃ (x41_3 : Int), v41 = .int .i64 x41_3 ∧ Aside0 (laws_FnLanguage.l0 kq a0 a1 a2 (a1.size : Int) x41_3 = some r) ∧ Aside0 (kq ≤ kj7) ∧ Aside0 (Below w.heap.size w w'))
              case atStart => exact ⟨(0), (by first | rfl | (simp; done) | (simp [*]; done)), H', ⟨Nat.le_refl _⟩, ⟨by repeat (first | (with_reducible first | exact HB.out | apply below_alloc | apply pw_below_drewN | apply below_drew1) | exact HB.out)⟩⟩
              case round =>
                clear H'
                try clear c1
                try clear p2
                try clear c5
                try clear c5b0
                try clear c5b1
                try clear c6
                try clear c6b0
                try clear c6b1
                try clear c7
                try clear c10
                try clear c12
                try clear c13
                try clear c14
                try clear c15
                try clear p2
                obtain ⟨x41_3, rfl, HA, HK3, HB⟩ := hrel
                cases gk with
                | zero => exact absurd HA.out (by simp [laws_FnLanguage.l0])
                | succ k3 =>
                  have H := HA.out
                  clear HA
                  simp only [laws_FnLanguage.l0] at H
                  by_cases c16 : x41_3 < (a1.size : Int)
                  · rw [if_pos c16] at H
                    have c16b0 : decide (x41_3 < (a1.size : Int)) = true := decide_eq_true c16
                    clear c16
                    by_cases c17 : 0 ≤ x41_3
                    · rw [if_pos c17] at H
                      have c17b0 : decide (0 ≤ x41_3) = true := decide_eq_true c17
                      clear c17
                      by_cases c18 : x41_3 < (a1.size : Int)
                      · rw [if_pos c18] at H
                        have c18b0 : decide (x41_3 < (a1.size : Int)) = true := decide_eq_true c18
                        clear c18
                        by_cases c20 : (bt a1 x41_3) = 32
                        · rw [if_pos c20] at H
                          have c20b0 : ((bt a1 x41_3) == 32) = true := beq_iff_eq.mpr c20
                          have c20b1 : ((bt a1 x41_3) != 32) = false := bne_eq_false_iff_eq.mpr c20
                          clear c20
                          obtain rfl := Option.some.inj H
                          have p19 : 0 ≤ (x41_3 : Int) := of_decide_eq_true (by first | (with_reducible assumption) | assumption)
                          have q19 : x41_3 < (a1.size : Int) := of_decide_eq_true (by first | (with_reducible assumption) | assumption)
                          have hx19 := bt_at a1 x41_3
                          replace p19 := eq_true p19
                          replace q19 := eq_true q19
                          go_wp2
                          go_ret
                          exact ⟨by first | rfl | (simp [errW_none, errW_some] <;> rfl) | (simp [*, errW_none, errW_some] <;> rfl), by repeat (first | (with_reducible first | exact HB.out | apply below_alloc | apply pw_below_drewN | apply below_drew1) | exact HB.out)⟩
                        · rw [if_neg c20] at H
                          have c20b0 : ((bt a1 x41_3) == 32) = false := beq_eq_false_iff_ne.mpr c20
                          have c20b1 : ((bt a1 x41_3) != 32) = true := bne_iff_ne.mpr c20
                          have H' := Aside0.mk H
                          clear H
                          have p19 : 0 ≤ (x41_3 : Int) := of_decide_eq_true (by first | (with_reducible assumption) | assumption)
                          have q19 : x41_3 < (a1.size : Int) := of_decide_eq_true (by first | (with_reducible assumption) | assumption)
                          have hx19 := bt_at a1 x41_3
                          replace p19 := eq_true p19
                          replace q19 := eq_true q19
                          go_wp2
                          go_roundg k3
                          case measure => have := HJ3.out; have := HJ7.out; have := HK3.out; omega
                          case rel => exact ⟨(wrap64 (x41_3 + 1)), (by first | rfl | (simp; done) | (simp [*]; done)), H', ⟨by have := HJ3.out; have := HJ7.out; have := HK3.out; omega⟩, ⟨by repeat (first | (with_reducible first | exact HB.out | apply below_alloc | apply pw_below_drewN | apply below_drew1) | exact HB.out)⟩⟩
                      · rw [if_neg c18] at H
                        exact absurd H (by simp)
                    · rw [if_neg c17] at H
                      exact absurd H (by simp)
                  · rw [if_neg c16] at H
                    have c16b0 : decide (x41_3 < (a1.size : Int)) = false := decide_eq_false c16
                    clear c16
                    by_cases c21 : 9 + a1.size ≤ 9223372036854775807
                    · rw [if_pos c21] at H
                      have c21b0 := eq_true c21
                      have c21b1 : decide (9 + a1.size ≤ 9223372036854775807) = true := decide_eq_true c21
                      try have c21b2 : (9223372036854775807 < 9 + a1.size) = False := eq_false (Nat.not_lt.2 c21)
                      by_cases c22 : a0.toList = ([] : List UInt8)
                      · rw [if_pos c22] at H
                        have c22b0 : (a0.toList == ([] : List UInt8)) = true := beq_iff_eq.mpr c22
                        have c22b1 : (a0.toList != ([] : List UInt8)) = false := bne_eq_false_iff_eq.mpr c22
                        clear c22
                        by_cases c23 : a2.toList = ([] : List UInt8)
                        · rw [if_pos c23] at H
                          have c23b0 : (a2.toList == ([] : List UInt8)) = true := beq_iff_eq.mpr c23
                          have c23b1 : (a2.toList != ([] : List UInt8)) = false := bne_eq_false_iff_eq.mpr c23
                          clear c23
                          replace H := Option.bind_eq_some_iff.mp H
                          obtain ⟨t106, A240, H⟩ := H
                          replace H : (some (t106.toList == a1.toList)) = some r := H
                          have A24 := Aside0.mk A240
                          clear A240
                          obtain rfl := Option.some.inj H
                          go_wp2_with (first | ((with_reducible refine gate_callee (f := 14) rfl ?_); refine goesL_ (some 64) rfl rfl Try.func14 (by kernel_rfl) rfl #[.string ((⟨#[108, 97, 110, 103, 117, 97, 103, 101, 45]⟩ : ByteArray) ++ a1)] rfl (by (try simp only [List.map_toArray, List.map_cons, List.map_nil]); first | done | rfl | (simp only [List.length_drop, List.length_take]; rfl)) ?_; (with_reducible refine (impl_Language.calls k3 ((⟨#[108, 97, 110, 103, 117, 97, 103, 101, 45]⟩ : ByteArray) ++ a1) t106 _ A24.out).mono ?_); rintro e w25 ⟨rfl, hb⟩; refine ⟨_, rfl, ?_⟩; have n0_ := Aside0.mk (below_step (by repeat (first | (with_reducible first | exact HB.out | apply below_alloc | apply pw_below_drewN | apply below_drew1) | exact HB.out)) hb); clear HB; have HB := n0_; clear n0_; (try clear hb); (try clear hb2); (try clear hk); (try clear hi)))
                          go_ret
                          exact ⟨by first | rfl | (simp [errW_none, errW_some] <;> rfl) | (simp [*, errW_none, errW_some] <;> rfl), by repeat (first | (with_reducible first | exact HB.out | apply below_alloc | apply pw_below_drewN | apply below_drew1) | exact HB.out)⟩
                        · rw [if_neg c23] at H
                          have c23b0 : (a2.toList == ([] : List UInt8)) = false := beq_eq_false_iff_ne.mpr c23
                          have c23b1 : (a2.toList != ([] : List UInt8)) = true := bne_iff_ne.mpr c23
                          by_cases c26 : 1 + a2.size ≤ 9223372036854775807
                          · rw [if_pos c26] at H
                            have c26b0 := eq_true c26
                            have c26b1 : decide (1 + a2.size ≤ 9223372036854775807) = true := decide_eq_true c26
                            try have c26b2 : (9223372036854775807 < 1 + a2.size) = False := eq_false (Nat.not_lt.2 c26)
                            by_cases c27 : ((⟨#[108, 97, 110, 103, 117, 97, 103, 101, 45]⟩ : ByteArray) ++ a1).size + ((⟨#[32]⟩ : ByteArray) ++ a2).size ≤ 9223372036854775807
                            · rw [if_pos c27] at H
                              have c27b0 := eq_true c27
                              have c27b1 : decide (((⟨#[108, 97, 110, 103, 117, 97, 103, 101, 45]⟩ : ByteArray) ++ a1).size + ((⟨#[32]⟩ : ByteArray) ++ a2).size ≤ 9223372036854775807) = true := decide_eq_true c27
                              try have c27b2 : (9223372036854775807 < ((⟨#[108, 97, 110, 103, 117, 97, 103, 101, 45]⟩ : ByteArray) ++ a1).size + ((⟨#[32]⟩ : ByteArray) ++ a2).size) = False := eq_false (Nat.not_lt.2 c27)
                              replace H := Option.bind_eq_some_iff.mp H
                              obtain ⟨t107, A280, H⟩ := H
                              replace H : (some (t107.toList == a1.toList)) = some r := H
                              have A28 := Aside0.mk A280
                              clear A280
                              obtain rfl := Option.some.inj H
                              go_wp2_with (first | ((with_reducible refine gate_callee (f := 14) rfl ?_); refine goesL_ (some 64) rfl rfl Try.func14 (by kernel_rfl) rfl #[.string (((⟨#[108, 97, 110, 103, 117, 97, 103, 101, 45]⟩ : ByteArray) ++ a1) ++ ((⟨#[32]⟩ : ByteArray) ++ a2))] rfl (by (try simp only [List.map_toArray, List.map_cons, List.map_nil]); first | done | rfl | (simp only [List.length_drop, List.length_take]; rfl)) ?_; (with_reducible refine (impl_Language.calls k3 (((⟨#[108, 97, 110, 103, 117, 97, 103, 101, 45]⟩ : ByteArray) ++ a1) ++ ((⟨#[32]⟩ : ByteArray) ++ a2)) t107 _ A28.out).mono ?_); rintro e w29 ⟨rfl, hb⟩; refine ⟨_, rfl, ?_⟩; have n0_ := Aside0.mk (below_step (by repeat (first | (with_reducible first | exact HB.out | apply below_alloc | apply pw_below_drewN | apply below_drew1) | exact HB.out)) hb); clear HB; have HB := n0_; clear n0_; (try clear hb); (try clear hb2); (try clear hk); (try clear hi)))
                              go_ret
                              exact ⟨by first | rfl | (simp [errW_none, errW_some] <;> rfl) | (simp [*, errW_none, errW_some] <;> rfl), by repeat (first | (with_reducible first | exact HB.out | apply below_alloc | apply pw_below_drewN | apply below_drew1) | exact HB.out)⟩
                            · rw [if_neg c27] at H
                              exact absurd H (by simp)
                          · rw [if_neg c26] at H
                            exact absurd H (by simp)
                      · rw [if_neg c22] at H
                        have c22b0 : (a0.toList == ([] : List UInt8)) = false := beq_eq_false_iff_ne.mpr c22
                        have c22b1 : (a0.toList != ([] : List UInt8)) = true := bne_iff_ne.mpr c22
                        by_cases c30 : a0.size + 1 ≤ 9223372036854775807
                        · rw [if_pos c30] at H
                          have c30b0 := eq_true c30
                          have c30b1 : decide (a0.size + 1 ≤ 9223372036854775807) = true := decide_eq_true c30
                          try have c30b2 : (9223372036854775807 < a0.size + 1) = False := eq_false (Nat.not_lt.2 c30)
                          by_cases c31 : (a0 ++ (⟨#[32]⟩ : ByteArray)).size + ((⟨#[108, 97, 110, 103, 117, 97, 103, 101, 45]⟩ : ByteArray) ++ a1).size ≤ 9223372036854775807
                          · rw [if_pos c31] at H
                            have c31b0 := eq_true c31
                            have c31b1 : decide ((a0 ++ (⟨#[32]⟩ : ByteArray)).size + ((⟨#[108, 97, 110, 103, 117, 97, 103, 101, 45]⟩ : ByteArray) ++ a1).size ≤ 9223372036854775807) = true := decide_eq_true c31
                            try have c31b2 : (9223372036854775807 < (a0 ++ (⟨#[32]⟩ : ByteArray)).size + ((⟨#[108, 97, 110, 103, 117, 97, 103, 101, 45]⟩ : ByteArray) ++ a1).size) = False := eq_false (Nat.not_lt.2 c31)
                            by_cases c32 : a2.toList = ([] : List UInt8)
                            · rw [if_pos c32] at H
                              have c32b0 : (a2.toList == ([] : List UInt8)) = true := beq_iff_eq.mpr c32
                              have c32b1 : (a2.toList != ([] : List UInt8)) = false := bne_eq_false_iff_eq.mpr c32
                              clear c32
                              replace H := Option.bind_eq_some_iff.mp H
                              obtain ⟨t108, A330, H⟩ := H
                              replace H : (some (t108.toList == a1.toList)) = some r := H
                              have A33 := Aside0.mk A330
                              clear A330
                              obtain rfl := Option.some.inj H
                              go_wp2_with (first | ((with_reducible refine gate_callee (f := 14) rfl ?_); refine goesL_ (some 64) rfl rfl Try.func14 (by kernel_rfl) rfl #[.string ((a0 ++ (⟨#[32]⟩ : ByteArray)) ++ ((⟨#[108, 97, 110, 103, 117, 97, 103, 101, 45]⟩ : ByteArray) ++ a1))] rfl (by (try simp only [List.map_toArray, List.map_cons, List.map_nil]); first | done | rfl | (simp only [List.length_drop, List.length_take]; rfl)) ?_; (with_reducible refine (impl_Language.calls k3 ((a0 ++ (⟨#[32]⟩ : ByteArray)) ++ ((⟨#[108, 97, 110, 103, 117, 97, 103, 101, 45]⟩ : ByteArray) ++ a1)) t108 _ A33.out).mono ?_); rintro e w34 ⟨rfl, hb⟩; refine ⟨_, rfl, ?_⟩; have n0_ := Aside0.mk (below_step (by repeat (first | (with_reducible first | exact HB.out | apply below_alloc | apply pw_below_drewN | apply below_drew1) | exact HB.out)) hb); clear HB; have HB := n0_; clear n0_; (try clear hb); (try clear hb2); (try clear hk); (try clear hi)))
                              go_ret
                              exact ⟨by first | rfl | (simp [errW_none, errW_some] <;> rfl) | (simp [*, errW_none, errW_some] <;> rfl), by repeat (first | (with_reducible first | exact HB.out | apply below_alloc | apply pw_below_drewN | apply below_drew1) | exact HB.out)⟩
                            · rw [if_neg c32] at H
                              have c32b0 : (a2.toList == ([] : List UInt8)) = false := beq_eq_false_iff_ne.mpr c32
                              have c32b1 : (a2.toList != ([] : List UInt8)) = true := bne_iff_ne.mpr c32
                              by_cases c35 : 1 + a2.size ≤ 9223372036854775807
                              · rw [if_pos c35] at H
                                have c35b0 := eq_true c35
                                have c35b1 : decide (1 + a2.size ≤ 9223372036854775807) = true := decide_eq_true c35
                                try have c35b2 : (9223372036854775807 < 1 + a2.size) = False := eq_false (Nat.not_lt.2 c35)
                                by_cases c36 : ((a0 ++ (⟨#[32]⟩ : ByteArray)) ++ ((⟨#[108, 97, 110, 103, 117, 97, 103, 101, 45]⟩ : ByteArray) ++ a1)).size + ((⟨#[32]⟩ : ByteArray) ++ a2).size ≤ 9223372036854775807
                                · rw [if_pos c36] at H
                                  have c36b0 := eq_true c36
                                  have c36b1 : decide (((a0 ++ (⟨#[32]⟩ : ByteArray)) ++ ((⟨#[108, 97, 110, 103, 117, 97, 103, 101, 45]⟩ : ByteArray) ++ a1)).size + ((⟨#[32]⟩ : ByteArray) ++ a2).size ≤ 9223372036854775807) = true := decide_eq_true c36
                                  try have c36b2 : (9223372036854775807 < ((a0 ++ (⟨#[32]⟩ : ByteArray)) ++ ((⟨#[108, 97, 110, 103, 117, 97, 103, 101, 45]⟩ : ByteArray) ++ a1)).size + ((⟨#[32]⟩ : ByteArray) ++ a2).size) = False := eq_false (Nat.not_lt.2 c36)
                                  replace H := Option.bind_eq_some_iff.mp H
                                  obtain ⟨t109, A370, H⟩ := H
                                  replace H : (some (t109.toList == a1.toList)) = some r := H
                                  have A37 := Aside0.mk A370
                                  clear A370
                                  obtain rfl := Option.some.inj H
                                  go_wp2_with (first | ((with_reducible refine gate_callee (f := 14) rfl ?_); refine goesL_ (some 64) rfl rfl Try.func14 (by kernel_rfl) rfl #[.string (((a0 ++ (⟨#[32]⟩ : ByteArray)) ++ ((⟨#[108, 97, 110, 103, 117, 97, 103, 101, 45]⟩ : ByteArray) ++ a1)) ++ ((⟨#[32]⟩ : ByteArray) ++ a2))] rfl (by (try simp only [List.map_toArray, List.map_cons, List.map_nil]); first | done | rfl | (simp only [List.length_drop, List.length_take]; rfl)) ?_; (with_reducible refine (impl_Language.calls k3 (((a0 ++ (⟨#[32]⟩ : ByteArray)) ++ ((⟨#[108, 97, 110, 103, 117, 97, 103, 101, 45]⟩ : ByteArray) ++ a1)) ++ ((⟨#[32]⟩ : ByteArray) ++ a2)) t109 _ A37.out).mono ?_); rintro e w38 ⟨rfl, hb⟩; refine ⟨_, rfl, ?_⟩; have n0_ := Aside0.mk (below_step (by repeat (first | (with_reducible first | exact HB.out | apply below_alloc | apply pw_below_drewN | apply below_drew1) | exact HB.out)) hb); clear HB; have HB := n0_; clear n0_; (try clear hb); (try clear hb2); (try clear hk); (try clear hi)))
                                  go_ret
                                  exact ⟨by first | rfl | (simp [errW_none, errW_some] <;> rfl) | (simp [*, errW_none, errW_some] <;> rfl), by repeat (first | (with_reducible first | exact HB.out | apply below_alloc | apply pw_below_drewN | apply below_drew1) | exact HB.out)⟩
                                · rw [if_neg c36] at H
                                  exact absurd H (by simp)
                              · rw [if_neg c35] at H
                                exact absurd H (by simp)
                          · rw [if_neg c31] at H
                            exact absurd H (by simp)
                        · rw [if_neg c30] at H
                          exact absurd H (by simp)
                    · rw [if_neg c21] at H
                      exact absurd H (by simp)

/-- THE ONE PURE STATEMENT of laws_FnLanguage: yours. -/
def laws_FnLanguage.Pure : Prop := ∀ (a0 : ByteArray) (a1 : ByteArray) (a2 : ByteArray), a0.size ≤ 140737488351232 → a1.size ≤ 140737488351232 → a2.size ≤ 140737488351232 → ∃ k, laws_FnLanguage.f k a0 a1 a2 = some true
theorem laws_FnLanguage.walk (P : laws_FnLanguage.Pure) (a0 : ByteArray) (a1 : ByteArray) (a2 : ByteArray) (w : World) (w0 : a0.size ≤ 140737488351232) (w1 : a1.size ≤ 140737488351232) (w2 : a2.size ≤ 140737488351232) :
    Calls Try.prog 5 #[.string a0, .string a1, .string a2] w fun e w' => e = .returned (.bool true) ∧ Below w.heap.size w w' := by
  obtain ⟨k, h⟩ := P a0 a1 a2 w0 w1 w2
  refine (laws_FnLanguage.calls k a0 a1 a2 true w h).mono ?_
  rintro e w' ⟨rfl, hd⟩
  exact ⟨rfl, hd⟩

end Go.Proofs.Ytbhcoeabhdangaa.PFnLanguage
