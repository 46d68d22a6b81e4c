-- PRINTED BY print.sh 35421559b90ae4d0a3588c463048766b98c2df88dd9212a6774a882060cdf62d: not written by this session
import Derived.Test.YtbhcoeabhdangaaPFnLanguagex0
namespace Go.Proofs.Ytbhcoeabhdangaa.PFnLanguage
open Go.RowKit Go.Proofs.YtbhcoeabhdangaaW.PrintWords Go.Proofs.YtbhcoeabhdangaaW.PrintLast Go.Proofs.YtbhcoeabhdangaaW.PrintMore
attribute [local go_sem] max2_int min2_int max_two min_two max_three min_three max_four min_four   -- for this text's walks alone
set_option linter.unusedVariables false
set_option linter.unusedSimpArgs false

-- NOT PRINTED: function 54 (dom_GetAttributeOr)

/-! ### commonmark_zzIndex: function 75 -/
def commonmark_zzIndex.l0 : Nat → ByteArray → ByteArray → Int → Option (Int)
  | 0, _, _, _ => none
  | k + 1, x0, x1, x5 => if (wrap64 (x5 + (x1.size : Int))) ≤ (x0.size : Int) then (if 0 ≤ x5 then (if x5 ≤ (wrap64 (x5 + (x1.size : Int))) then (if (x0.extract (x5 : Int).toNat ((wrap64 (x5 + (x1.size : Int))) : Int).toNat).toList = x1.toList then (some x5) else (commonmark_zzIndex.l0 k x0 x1 (wrap64 (x5 + 1)))) else (none)) else (none)) else (some (-1))
def commonmark_zzIndex.f (k : Nat) (a0 : ByteArray) (a1 : ByteArray) : Option (Int) := commonmark_zzIndex.l0 k a0 a1 0
theorem commonmark_zzIndex.mono_l : ∀ k, (∀ y0 y1 y2, LeO (commonmark_zzIndex.l0 k y0 y1 y2) (commonmark_zzIndex.l0 (k + 1) y0 y1 y2))
  | 0 => fun _ _ _ r h => by simp [commonmark_zzIndex.l0] at h
  | k + 1 => by
    have ih0 := commonmark_zzIndex.mono_l k
    · intro y0 y1 y2
      unfold commonmark_zzIndex.l0
      repeat' first
      | (with_reducible exact ih0 _ _ _)
      | (with_reducible exact LeO.refl _)
      | (with_reducible exact LeO.none _)
      | (with_reducible refine LeO.ite ?_ ?_)
      | (with_reducible refine LeO.bind ?_ (fun _ => ?_))
      | exact ih0 _ _ _
      | exact LeO.none _
      | refine LeO.ite ?_ ?_
      | refine LeO.bind ?_ (fun _ => ?_)
theorem commonmark_zzIndex.mono : ∀ a0 a1 k, LeO (commonmark_zzIndex.f k a0 a1) (commonmark_zzIndex.f (k + 1) a0 a1) := by
  intro a0 a1 k
  have ih0 := commonmark_zzIndex.mono_l k
  unfold commonmark_zzIndex.f
  repeat' first
      | (with_reducible exact ih0 _ _ _)
      | (with_reducible exact LeO.refl _)
      | (with_reducible exact LeO.none _)
      | (with_reducible refine LeO.ite ?_ ?_)
      | (with_reducible refine LeO.bind ?_ (fun _ => ?_))
      | exact ih0 _ _ _
      | exact LeO.none _
      | refine LeO.ite ?_ ?_
      | refine LeO.bind ?_ (fun _ => ?_)
set_option maxHeartbeats 8000000 in
set_option maxRecDepth 100000 in
theorem commonmark_zzIndex.calls (k : Nat) (a0 : ByteArray) (a1 : ByteArray) (r : Int) (w : World) (h : commonmark_zzIndex.f k a0 a1 = some r) :
    Calls Try.prog 75 #[.string a0, .string a1] w fun e w' => e = .returned (.int .i64 r) ∧ Drawn0 w w' := by
  have H : (commonmark_zzIndex.l0 k a0 a1 0) = some r := h
  clear h
  have H' := Aside0.mk H
  clear H
  go_enter Try.func75, Try.ntmps75
  go_wp2
  go_loopg [5] k (fun kq v5 w' => ∃ (x5_1 : Int), v5 = .int .i64 x5_1 ∧ Aside0 (commonmark_zzIndex.l0 kq a0 a1 x5_1 = some r) ∧ Aside0 (kq ≤ k) ∧ Drawn0 w w')
  case atStart => exact ⟨(0), (by first | rfl | (simp; done) | (simp [*]; done)), H', ⟨Nat.le_refl _⟩, by repeat (first | exact Drawn0.refl _ | apply Drawn0.step)⟩
  case round =>
    clear H'
    try clear p2
    obtain ⟨x5_1, rfl, HA, HK1, ⟨m1, rfl⟩⟩ := hrel
    cases gk with
    | zero => exact absurd HA.out (by simp [commonmark_zzIndex.l0])
    | succ k1 =>
      have H := HA.out
      clear HA
      simp only [commonmark_zzIndex.l0] at H
      by_cases c3 : (wrap64 (x5_1 + (a1.size : Int))) ≤ (a0.size : Int)
      · rw [if_pos c3] at H
        have c3b0 : decide ((wrap64 (x5_1 + (a1.size : Int))) ≤ (a0.size : Int)) = true := decide_eq_true c3
        clear c3
        by_cases c4 : 0 ≤ x5_1
        · rw [if_pos c4] at H
          have c4b0 := eq_true c4
          have c4b1 : decide (0 ≤ x5_1) = true := decide_eq_true c4
          clear c4
          by_cases c5 : x5_1 ≤ (wrap64 (x5_1 + (a1.size : Int)))
          · rw [if_pos c5] at H
            have c5b0 := eq_true c5
            have c5b1 : decide (x5_1 ≤ (wrap64 (x5_1 + (a1.size : Int)))) = true := decide_eq_true c5
            have c6b0 := eq_true (of_decide_eq_true (by first | (with_reducible assumption) | assumption) : (wrap64 (x5_1 + (a1.size : Int))) ≤ (a0.size : Int))
            by_cases c7 : (a0.extract (x5_1 : Int).toNat ((wrap64 (x5_1 + (a1.size : Int))) : Int).toNat).toList = a1.toList
            · rw [if_pos c7] at H
              have c7b0 : ((a0.extract (x5_1 : Int).toNat ((wrap64 (x5_1 + (a1.size : Int))) : Int).toNat).toList == a1.toList) = true := beq_iff_eq.mpr c7
              have c7b1 : ((a0.extract (x5_1 : Int).toNat ((wrap64 (x5_1 + (a1.size : Int))) : Int).toNat).toList != a1.toList) = false := bne_eq_false_iff_eq.mpr c7
              clear c7
              obtain rfl := Option.some.inj H
              go_wp2
              go_ret
              exact ⟨by first | rfl | (simp; done) | (simp [*]; done), by repeat (first | exact Drawn0.refl _ | apply Drawn0.step)⟩
            · rw [if_neg c7] at H
              have c7b0 : ((a0.extract (x5_1 : Int).toNat ((wrap64 (x5_1 + (a1.size : Int))) : Int).toNat).toList == a1.toList) = false := beq_eq_false_iff_ne.mpr c7
              have c7b1 : ((a0.extract (x5_1 : Int).toNat ((wrap64 (x5_1 + (a1.size : Int))) : Int).toNat).toList != a1.toList) = true := bne_iff_ne.mpr c7
              have H' := Aside0.mk H
              clear H
              go_wp2
              go_roundg k1
              case measure => have := HK1.out; omega
              case rel => exact ⟨(wrap64 (x5_1 + 1)), (by first | rfl | (simp; done) | (simp [*]; done)), H', ⟨by have := HK1.out; omega⟩, by repeat (first | exact Drawn0.refl _ | apply Drawn0.step)⟩
          · rw [if_neg c5] at H
            exact absurd H (by simp)
        · rw [if_neg c4] at H
          exact absurd H (by simp)
      · rw [if_neg c3] at H
        have c3b0 : decide ((wrap64 (x5_1 + (a1.size : Int))) ≤ (a0.size : Int)) = false := decide_eq_false c3
        clear c3
        obtain rfl := Option.some.inj H
        go_wp2
        go_ret
        exact ⟨by first | rfl | (simp; done) | (simp [*]; done), by repeat (first | exact Drawn0.refl _ | apply Drawn0.step)⟩

-- NOT PRINTED: function 55 (commonmark_zzSplit)

/-! ### commonmark_zzContains: function 56 -/
def commonmark_zzContains.f (k : Nat) (a0 : ByteArray) (a1 : ByteArray) : Option (Bool) := (commonmark_zzIndex.f k a0 a1).bind fun t101 => (some (decide (t101 ≥ 0)))
theorem commonmark_zzContains.mono : ∀ a0 a1 k, LeO (commonmark_zzContains.f k a0 a1) (commonmark_zzContains.f (k + 1) a0 a1) := by
  intro a0 a1 k
  unfold commonmark_zzContains.f
  repeat' first
      | (with_reducible exact commonmark_zzIndex.mono _ _ _)
      | (with_reducible exact LeO.refl _)
      | (with_reducible exact LeO.none _)
      | (with_reducible refine LeO.ite ?_ ?_)
      | (with_reducible refine LeO.bind ?_ (fun _ => ?_))
      | exact commonmark_zzIndex.mono _ _ _
      | exact LeO.none _
      | refine LeO.ite ?_ ?_
      | refine LeO.bind ?_ (fun _ => ?_)
set_option maxHeartbeats 8000000 in
set_option maxRecDepth 100000 in
theorem commonmark_zzContains.calls (k : Nat) (a0 : ByteArray) (a1 : ByteArray) (r : Bool) (w : World) (h : commonmark_zzContains.f k a0 a1 = some r) :
    Calls Try.prog 56 #[.string a0, .string a1] w fun e w' => e = .returned (.bool r) ∧ Drawn0 w w' := by
  have H : ((commonmark_zzIndex.f k a0 a1).bind fun t101 => (some (decide (t101 ≥ 0)))) = some r := h
  clear h
  replace H := Option.bind_eq_some_iff.mp H
  obtain ⟨t101, A30, H⟩ := H
  replace H : (some (decide (t101 ≥ 0))) = some r := H
  have A3 := Aside0.mk A30
  clear A30
  obtain rfl := Option.some.inj H
  go_enter Try.func56, Try.ntmps56
  go_wp2_with (first | ((with_reducible refine gate_callee (f := 75) rfl ?_); refine goesL_ (some 7) rfl rfl Try.func75 (by kernel_rfl) rfl #[.string a0, .string a1] rfl (by (try simp only [List.map_toArray, List.map_cons, List.map_nil]); first | done | rfl | (simp only [List.length_drop, List.length_take]; rfl)) ?_; (with_reducible refine (commonmark_zzIndex.calls k a0 a1 t101 _ A3.out).mono ?_); rintro e w' ⟨rfl, ⟨nd, rfl⟩⟩; refine ⟨_, rfl, ?_⟩))
  go_ret
  exact ⟨by first | rfl | (simp; done) | (simp [*]; done), by repeat (first | exact Drawn0.refl _ | apply Drawn0.step)⟩

/-! ### commonmark_zzReplaceOne: function 57 -/
def commonmark_zzReplaceOne.f (k : Nat) (a0 : ByteArray) (a1 : ByteArray) (a2 : ByteArray) : Option (ByteArray) := (commonmark_zzIndex.f k a0 a1).bind fun t102 => (if t102 < 0 then (some a0) else (if 0 ≤ t102 then (if t102 ≤ (a0.size : Int) then (if (a0.extract 0 (t102 : Int).toNat).size + a2.size ≤ 9223372036854775807 then (if 0 ≤ (wrap64 (t102 + (a1.size : Int))) then (if (wrap64 (t102 + (a1.size : Int))) ≤ (a0.size : Int) then (if ((a0.extract 0 (t102 : Int).toNat) ++ a2).size + (a0.extract ((wrap64 (t102 + (a1.size : Int))) : Int).toNat a0.size).size ≤ 9223372036854775807 then (some (((a0.extract 0 (t102 : Int).toNat) ++ a2) ++ (a0.extract ((wrap64 (t102 + (a1.size : Int))) : Int).toNat a0.size))) else (none)) else (none)) else (none)) else (none)) else (none)) else (none)))
theorem commonmark_zzReplaceOne.mono : ∀ a0 a1 a2 k, LeO (commonmark_zzReplaceOne.f k a0 a1 a2) (commonmark_zzReplaceOne.f (k + 1) a0 a1 a2) := by
  intro a0 a1 a2 k
  unfold commonmark_zzReplaceOne.f
  repeat' first
      | (with_reducible exact commonmark_zzIndex.mono _ _ _)
      | (with_reducible exact LeO.refl _)
      | (with_reducible exact LeO.none _)
      | (with_reducible refine LeO.ite ?_ ?_)
      | (with_reducible refine LeO.bind ?_ (fun _ => ?_))
      | exact commonmark_zzIndex.mono _ _ _
      | exact LeO.none _
      | refine LeO.ite ?_ ?_
      | refine LeO.bind ?_ (fun _ => ?_)
set_option maxHeartbeats 8000000 in
set_option maxRecDepth 100000 in
theorem commonmark_zzReplaceOne.calls (k : Nat) (a0 : ByteArray) (a1 : ByteArray) (a2 : ByteArray) (r : ByteArray) (w : World) (h : commonmark_zzReplaceOne.f k a0 a1 a2 = some r) :
    Calls Try.prog 57 #[.string a0, .string a1, .string a2] w fun e w' => e = .returned (.string r) ∧ Drawn0 w w' := by
  have H : ((commonmark_zzIndex.f k a0 a1).bind fun t102 => (if t102 < 0 then (some a0) else (if 0 ≤ t102 then (if t102 ≤ (a0.size : Int) then (if (a0.extract 0 (t102 : Int).toNat).size + a2.size ≤ 9223372036854775807 then (if 0 ≤ (wrap64 (t102 + (a1.size : Int))) then (if (wrap64 (t102 + (a1.size : Int))) ≤ (a0.size : Int) then (if ((a0.extract 0 (t102 : Int).toNat) ++ a2).size + (a0.extract ((wrap64 (t102 + (a1.size : Int))) : Int).toNat a0.size).size ≤ 9223372036854775807 then (some (((a0.extract 0 (t102 : Int).toNat) ++ a2) ++ (a0.extract ((wrap64 (t102 + (a1.size : Int))) : Int).toNat a0.size))) else (none)) else (none)) else (none)) else (none)) else (none)) else (none)))) = some r := h
  clear h
  replace H := Option.bind_eq_some_iff.mp H
  obtain ⟨t102, A40, H⟩ := H
  replace H : (if t102 < 0 then (some a0) else (if 0 ≤ t102 then (if t102 ≤ (a0.size : Int) then (if (a0.extract 0 (t102 : Int).toNat).size + a2.size ≤ 9223372036854775807 then (if 0 ≤ (wrap64 (t102 + (a1.size : Int))) then (if (wrap64 (t102 + (a1.size : Int))) ≤ (a0.size : Int) then (if ((a0.extract 0 (t102 : Int).toNat) ++ a2).size + (a0.extract ((wrap64 (t102 + (a1.size : Int))) : Int).toNat a0.size).size ≤ 9223372036854775807 then (some (((a0.extract 0 (t102 : Int).toNat) ++ a2) ++ (a0.extract ((wrap64 (t102 + (a1.size : Int))) : Int).toNat a0.size))) else (none)) else (none)) else (none)) else (none)) else (none)) else (none))) = some r := H
  have A4 := Aside0.mk A40
  clear A40
  by_cases c5 : t102 < 0
  · rw [if_pos c5] at H
    have c5b0 : decide (t102 < 0) = true := decide_eq_true c5
    clear c5
    obtain rfl := Option.some.inj H
    go_enter Try.func57, Try.ntmps57
    go_wp2_with (first | (go_at_call 75; (with_reducible refine (commonmark_zzIndex.calls k a0 a1 t102 _ A4.out).mono ?_); rintro e w' ⟨rfl, ⟨nd, rfl⟩⟩; (try first | exact ⟨rfl, _, World.drewN_drewN _ _ _⟩ | exact ⟨rfl, _, Eq.trans (World.drewN_drewN _ _ _) (congrArg (World.drewN _) (Nat.add_assoc _ _ _))⟩)))
    repeat (go_quiet (first | (go_at_call 75; (with_reducible refine (commonmark_zzIndex.calls k a0 a1 t102 _ A4.out).mono ?_); rintro e w' ⟨rfl, ⟨nd, rfl⟩⟩; (try first | exact ⟨rfl, _, World.drewN_drewN _ _ _⟩ | exact ⟨rfl, _, Eq.trans (World.drewN_drewN _ _ _) (congrArg (World.drewN _) (Nat.add_assoc _ _ _))⟩))); try go_wp2_with (first | (go_at_call 75; (with_reducible refine (commonmark_zzIndex.calls k a0 a1 t102 _ A4.out).mono ?_); rintro e w' ⟨rfl, ⟨nd, rfl⟩⟩; (try first | exact ⟨rfl, _, World.drewN_drewN _ _ _⟩ | exact ⟨rfl, _, Eq.trans (World.drewN_drewN _ _ _) (congrArg (World.drewN _) (Nat.add_assoc _ _ _))⟩))))
    go_ret
    exact ⟨by first | rfl | (simp; done) | (simp [*]; done), by repeat (first | exact Drawn0.refl _ | apply Drawn0.step)⟩
  · rw [if_neg c5] at H
    have c5b0 : decide (t102 < 0) = false := decide_eq_false c5
    clear c5
    by_cases c6 : 0 ≤ t102
    · rw [if_pos c6] at H
      have c6b0 := eq_true c6
      have c6b1 : decide (0 ≤ t102) = true := decide_eq_true c6
      clear c6
      by_cases c7 : t102 ≤ (a0.size : Int)
      · rw [if_pos c7] at H
        have c7b0 := eq_true c7
        have c7b1 : decide (t102 ≤ (a0.size : Int)) = true := decide_eq_true c7
        clear c7
        by_cases c8 : (a0.extract 0 (t102 : Int).toNat).size + a2.size ≤ 9223372036854775807
        · rw [if_pos c8] at H
          have c8b0 := eq_true c8
          have c8b1 : decide ((a0.extract 0 (t102 : Int).toNat).size + a2.size ≤ 9223372036854775807) = true := decide_eq_true c8
          try have c8b2 : (9223372036854775807 < (a0.extract 0 (t102 : Int).toNat).size + a2.size) = False := eq_false (Nat.not_lt.2 c8)
          obtain ⟨ji9, hji9⟩ : ∃ j_ : Int, (wrap64 (t102 + (a1.size : Int))) = j_ := ⟨_, rfl⟩
          replace H : (if 0 ≤ (ji9) then (if (ji9) ≤ (a0.size : Int) then (if ((a0.extract 0 (t102 : Int).toNat) ++ a2).size + (a0.extract ((ji9) : Int).toNat a0.size).size ≤ 9223372036854775807 then (some (((a0.extract 0 (t102 : Int).toNat) ++ a2) ++ (a0.extract ((ji9) : Int).toNat a0.size))) else (none)) else (none)) else (none)) = some r := by first | (rw [hji9] at H; exact H) | (simp only [hji9] at H ⊢; exact H)
          (try rw [hji9] at A4)
          have hji9w : (IntKind.i64.wrap (t102 + (a1.size : Int))) = ji9 := (i64_w _).trans hji9
          by_cases c10 : 0 ≤ (ji9)
          · rw [if_pos c10] at H
            have c10b0 := eq_true c10
            have c10b1 : decide (0 ≤ (ji9)) = true := decide_eq_true c10
            clear c10
            by_cases c11 : (ji9) ≤ (a0.size : Int)
            · rw [if_pos c11] at H
              have c11b0 := eq_true c11
              have c11b1 : decide ((ji9) ≤ (a0.size : Int)) = true := decide_eq_true c11
              clear c11
              by_cases c12 : ((a0.extract 0 (t102 : Int).toNat) ++ a2).size + (a0.extract ((ji9) : Int).toNat a0.size).size ≤ 9223372036854775807
              · rw [if_pos c12] at H
                have c12b0 := eq_true c12
                have c12b1 : decide (((a0.extract 0 (t102 : Int).toNat) ++ a2).size + (a0.extract ((ji9) : Int).toNat a0.size).size ≤ 9223372036854775807) = true := decide_eq_true c12
                try have c12b2 : (9223372036854775807 < ((a0.extract 0 (t102 : Int).toNat) ++ a2).size + (a0.extract ((ji9) : Int).toNat a0.size).size) = False := eq_false (Nat.not_lt.2 c12)
                obtain rfl := Option.some.inj H
                go_enter Try.func57, Try.ntmps57
                go_wp2_with (first | (go_at_call 75; (with_reducible refine (commonmark_zzIndex.calls k a0 a1 t102 _ A4.out).mono ?_); rintro e w' ⟨rfl, ⟨nd, rfl⟩⟩; (try first | exact ⟨rfl, _, World.drewN_drewN _ _ _⟩ | exact ⟨rfl, _, Eq.trans (World.drewN_drewN _ _ _) (congrArg (World.drewN _) (Nat.add_assoc _ _ _))⟩)))
                repeat (go_quiet (first | (go_at_call 75; (with_reducible refine (commonmark_zzIndex.calls k a0 a1 t102 _ A4.out).mono ?_); rintro e w' ⟨rfl, ⟨nd, rfl⟩⟩; (try first | exact ⟨rfl, _, World.drewN_drewN _ _ _⟩ | exact ⟨rfl, _, Eq.trans (World.drewN_drewN _ _ _) (congrArg (World.drewN _) (Nat.add_assoc _ _ _))⟩))); try go_wp2_with (first | (go_at_call 75; (with_reducible refine (commonmark_zzIndex.calls k a0 a1 t102 _ A4.out).mono ?_); rintro e w' ⟨rfl, ⟨nd, rfl⟩⟩; (try first | exact ⟨rfl, _, World.drewN_drewN _ _ _⟩ | exact ⟨rfl, _, Eq.trans (World.drewN_drewN _ _ _) (congrArg (World.drewN _) (Nat.add_assoc _ _ _))⟩))))
                go_ret
                exact ⟨by first | rfl | (simp; done) | (simp only [← hji9] <;> (first | rfl | simp)) | (simp [*]; done), by repeat (first | exact Drawn0.refl _ | apply Drawn0.step)⟩
              · rw [if_neg c12] at H
                exact absurd H (by simp)
            · rw [if_neg c11] at H
              exact absurd H (by simp)
          · rw [if_neg c10] at H
            exact absurd H (by simp)
        · rw [if_neg c8] at H
          exact absurd H (by simp)
      · rw [if_neg c7] at H
        exact absurd H (by simp)
    · rw [if_neg c6] at H
      exact absurd H (by simp)

-- NOT PRINTED: function 31 (commonmark_getCodeLanguage)

-- NOT PRINTED: function 22 (commonmark_ZzLanguage)

-- NOT PRINTED: function 14 (impl_Language)

-- NOT PRINTED: function 5 (laws_FnLanguage)

end Go.Proofs.Ytbhcoeabhdangaa.PFnLanguage
