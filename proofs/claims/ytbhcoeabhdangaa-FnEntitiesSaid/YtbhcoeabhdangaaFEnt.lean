/- Printed by the program extprint.py of this session, out of the kit's print and contracts of this session's own; Lean checks it. -/
import Derived.Test.YtbhcoeabhdangaaEEntx0
import Derived.Test.YtbhcoeabhdangaaEEntx1
import Derived.Test.YtbhcoeabhdangaaEntX
import Derived.Test.YtbhcoeabhdangaaLives
namespace Go.Proofs.Ytbhcoeabhdangaa.PEnt
open Go.RowKit Go.Proofs.YtbhcoeabhdangaaW.PrintWords Go.Proofs.YtbhcoeabhdangaaW.PrintLast Go.Proofs.YtbhcoeabhdangaaW.PrintMore
attribute [local go_sem] max2_int min2_int max_two min_two max_three min_three max_four min_four   -- for this text's walks alone
set_option linter.unusedVariables false
set_option linter.unusedSimpArgs false

/-! ### laws_FnEntities: function 3 -/
mutual
def laws_FnEntities.l0 : Nat → ByteArray → ByteArray → ByteArray → Int → Option (Bool)
  | 0, _, _, _, _ => none
  | k + 1, x0, x3, x4, x5 => if x5 < (x3.size : Int) then (if 0 ≤ x5 then (if (bt x3 x5) = 60 then (laws_FnEntities.j1 k x0 x3 x4 x5 true) else (laws_FnEntities.j1 k x0 x3 x4 x5 ((bt x3 x5) == 62))) else (none)) else (laws_FnEntities.l1 k x0 x4 0)
def laws_FnEntities.j1 : Nat → ByteArray → ByteArray → ByteArray → Int → Bool → Option (Bool)
  | 0, _, _, _, _, _ => none
  | k + 1, x0, x3, x4, x5, x27 => if x27 = true then (some false) else (if (wrap64 (x5 + 3)) < (x3.size : Int) then (if 0 ≤ x5 then (if x5 ≤ (wrap64 (x5 + 4)) then (if (wrap64 (x5 + 4)) ≤ (x3.size : Int) then (laws_FnEntities.j2 k x0 x3 x4 x5 ((x3.extract (x5 : Int).toNat ((wrap64 (x5 + 4)) : Int).toNat).toList == ([38, 108, 116, 59] : List UInt8))) else (none)) else (none)) else (none)) else (laws_FnEntities.j2 k x0 x3 x4 x5 false))
def laws_FnEntities.j2 : Nat → ByteArray → ByteArray → ByteArray → Int → Bool → Option (Bool)
  | 0, _, _, _, _, _ => none
  | k + 1, x0, x3, x4, x5, x38 => if x38 = true then (if x4.size + 1 ≤ 9223372036854775807 then (laws_FnEntities.l0 k x0 x3 (x4 ++ (⟨#[60]⟩ : ByteArray)) (wrap64 ((wrap64 (x5 + 3)) + 1))) else (none)) else (if (wrap64 (x5 + 3)) < (x3.size : Int) then (if 0 ≤ x5 then (if x5 ≤ (wrap64 (x5 + 4)) then (if (wrap64 (x5 + 4)) ≤ (x3.size : Int) then (if (x3.extract (x5 : Int).toNat ((wrap64 (x5 + 4)) : Int).toNat).toList = ([38, 103, 116, 59] : List UInt8) then (if x4.size + 1 ≤ 9223372036854775807 then (laws_FnEntities.l0 k x0 x3 (x4 ++ (⟨#[62]⟩ : ByteArray)) (wrap64 ((wrap64 (x5 + 3)) + 1))) else (none)) else (if x5 ≤ (wrap64 (x5 + 1)) then (if (wrap64 (x5 + 1)) ≤ (x3.size : Int) then (if x4.size + (x3.extract (x5 : Int).toNat ((wrap64 (x5 + 1)) : Int).toNat).size ≤ 9223372036854775807 then (laws_FnEntities.l0 k x0 x3 (x4 ++ (x3.extract (x5 : Int).toNat ((wrap64 (x5 + 1)) : Int).toNat)) (wrap64 (x5 + 1))) else (none)) else (none)) else (none))) else (none)) else (none)) else (none)) else (if 0 ≤ x5 then (if x5 ≤ (wrap64 (x5 + 1)) then (if (wrap64 (x5 + 1)) ≤ (x3.size : Int) then (if x4.size + (x3.extract (x5 : Int).toNat ((wrap64 (x5 + 1)) : Int).toNat).size ≤ 9223372036854775807 then (laws_FnEntities.l0 k x0 x3 (x4 ++ (x3.extract (x5 : Int).toNat ((wrap64 (x5 + 1)) : Int).toNat)) (wrap64 (x5 + 1))) else (none)) else (none)) else (none)) else (none)))
def laws_FnEntities.l1 : Nat → ByteArray → ByteArray → Int → Option (Bool)
  | 0, _, _, _ => none
  | k + 1, x0, x4, x6 => if (wrap64 (x6 + 3)) < (x0.size : Int) then (if 0 ≤ x6 then (if x6 ≤ (wrap64 (x6 + 4)) then (if (wrap64 (x6 + 4)) ≤ (x0.size : Int) then (if (x0.extract (x6 : Int).toNat ((wrap64 (x6 + 4)) : Int).toNat).toList = ([38, 108, 116, 59] : List UInt8) then (some true) else (if (x0.extract (x6 : Int).toNat ((wrap64 (x6 + 4)) : Int).toNat).toList = ([38, 103, 116, 59] : List UInt8) then (some true) else (laws_FnEntities.l1 k x0 x4 (wrap64 (x6 + 1))))) else (none)) else (none)) else (none)) else (if x4.toList = x0.toList then ((laws_inlineLives.f k).bind fun t163 => (some t163)) else (some false))
end
def laws_FnEntities.f (k : Nat) (a0 : ByteArray) : Option (Bool) := if (a0.size : Int) > 2147483647 then (some true) else ((laws_inlineASCII.f k a0).bind fun t161 => ((impl_Entities.f k t161).bind fun t162 => (laws_FnEntities.l0 k t161 t162 (⟨#[]⟩ : ByteArray) 0)))
theorem laws_FnEntities.mono_l : ∀ k, (∀ y0 y1 y2 y3, LeO (laws_FnEntities.l0 k y0 y1 y2 y3) (laws_FnEntities.l0 (k + 1) y0 y1 y2 y3)) ∧ (∀ y0 y1 y2 y3 y4, LeO (laws_FnEntities.j1 k y0 y1 y2 y3 y4) (laws_FnEntities.j1 (k + 1) y0 y1 y2 y3 y4)) ∧ (∀ y0 y1 y2 y3 y4, LeO (laws_FnEntities.j2 k y0 y1 y2 y3 y4) (laws_FnEntities.j2 (k + 1) y0 y1 y2 y3 y4)) ∧ (∀ y0 y1 y2, LeO (laws_FnEntities.l1 k y0 y1 y2) (laws_FnEntities.l1 (k + 1) y0 y1 y2))
  | 0 => ⟨fun _ _ _ _ r h => by simp [laws_FnEntities.l0] at h, fun _ _ _ _ _ r h => by simp [laws_FnEntities.j1] at h, fun _ _ _ _ _ r h => by simp [laws_FnEntities.j2] at h, fun _ _ _ r h => by simp [laws_FnEntities.l1] at h⟩
  | k + 1 => by
    obtain ⟨ih0, ih1, ih2, ih3⟩ := laws_FnEntities.mono_l k
    refine ⟨?_, ?_, ?_, ?_⟩
    · intro y0 y1 y2 y3
      unfold laws_FnEntities.l0
      repeat' first
      | (with_reducible exact ih0 _ _ _ _)
      | (with_reducible exact ih1 _ _ _ _ _)
      | (with_reducible exact ih2 _ _ _ _ _)
      | (with_reducible exact ih3 _ _ _)
      | (with_reducible exact impl_Entities.mono _ _)
      | (with_reducible exact laws_inlineASCII.mono _ _)
      | (with_reducible exact laws_inlineLives.mono _)
      | (with_reducible exact LeO.refl _)
      | (with_reducible exact LeO.none _)
      | (with_reducible refine LeO.ite ?_ ?_)
      | (with_reducible refine LeO.bind ?_ (fun _ => ?_))
      | exact ih0 _ _ _ _
      | exact ih1 _ _ _ _ _
      | exact ih2 _ _ _ _ _
      | exact ih3 _ _ _
      | exact impl_Entities.mono _ _
      | exact laws_inlineASCII.mono _ _
      | exact laws_inlineLives.mono _
      | exact LeO.none _
      | refine LeO.ite ?_ ?_
      | refine LeO.bind ?_ (fun _ => ?_)
    · intro y0 y1 y2 y3 y4
      unfold laws_FnEntities.j1
      repeat' first
      | (with_reducible exact ih0 _ _ _ _)
      | (with_reducible exact ih1 _ _ _ _ _)
      | (with_reducible exact ih2 _ _ _ _ _)
      | (with_reducible exact ih3 _ _ _)
      | (with_reducible exact impl_Entities.mono _ _)
      | (with_reducible exact laws_inlineASCII.mono _ _)
      | (with_reducible exact laws_inlineLives.mono _)
      | (with_reducible exact LeO.refl _)
      | (with_reducible exact LeO.none _)
      | (with_reducible refine LeO.ite ?_ ?_)
      | (with_reducible refine LeO.bind ?_ (fun _ => ?_))
      | exact ih0 _ _ _ _
      | exact ih1 _ _ _ _ _
      | exact ih2 _ _ _ _ _
      | exact ih3 _ _ _
      | exact impl_Entities.mono _ _
      | exact laws_inlineASCII.mono _ _
      | exact laws_inlineLives.mono _
      | exact LeO.none _
      | refine LeO.ite ?_ ?_
      | refine LeO.bind ?_ (fun _ => ?_)
    · intro y0 y1 y2 y3 y4
      unfold laws_FnEntities.j2
      repeat' first
      | (with_reducible exact ih0 _ _ _ _)
      | (with_reducible exact ih1 _ _ _ _ _)
      | (with_reducible exact ih2 _ _ _ _ _)
      | (with_reducible exact ih3 _ _ _)
      | (with_reducible exact impl_Entities.mono _ _)
      | (with_reducible exact laws_inlineASCII.mono _ _)
      | (with_reducible exact laws_inlineLives.mono _)
      | (with_reducible exact LeO.refl _)
      | (with_reducible exact LeO.none _)
      | (with_reducible refine LeO.ite ?_ ?_)
      | (with_reducible refine LeO.bind ?_ (fun _ => ?_))
      | exact ih0 _ _ _ _
      | exact ih1 _ _ _ _ _
      | exact ih2 _ _ _ _ _
      | exact ih3 _ _ _
      | exact impl_Entities.mono _ _
      | exact laws_inlineASCII.mono _ _
      | exact laws_inlineLives.mono _
      | exact LeO.none _
      | refine LeO.ite ?_ ?_
      | refine LeO.bind ?_ (fun _ => ?_)
    · intro y0 y1 y2
      unfold laws_FnEntities.l1
      repeat' first
      | (with_reducible exact ih0 _ _ _ _)
      | (with_reducible exact ih1 _ _ _ _ _)
      | (with_reducible exact ih2 _ _ _ _ _)
      | (with_reducible exact ih3 _ _ _)
      | (with_reducible exact impl_Entities.mono _ _)
      | (with_reducible exact laws_inlineASCII.mono _ _)
      | (with_reducible exact laws_inlineLives.mono _)
      | (with_reducible exact LeO.refl _)
      | (with_reducible exact LeO.none _)
      | (with_reducible refine LeO.ite ?_ ?_)
      | (with_reducible refine LeO.bind ?_ (fun _ => ?_))
      | exact ih0 _ _ _ _
      | exact ih1 _ _ _ _ _
      | exact ih2 _ _ _ _ _
      | exact ih3 _ _ _
      | exact impl_Entities.mono _ _
      | exact laws_inlineASCII.mono _ _
      | exact laws_inlineLives.mono _
      | exact LeO.none _
      | refine LeO.ite ?_ ?_
      | refine LeO.bind ?_ (fun _ => ?_)
theorem laws_FnEntities.mono : ∀ a0 k, LeO (laws_FnEntities.f k a0) (laws_FnEntities.f (k + 1) a0) := by
  intro a0 k
  obtain ⟨ih0, ih1, ih2, ih3⟩ := laws_FnEntities.mono_l k
  unfold laws_FnEntities.f
  repeat' first
      | (with_reducible exact ih0 _ _ _ _)
      | (with_reducible exact ih1 _ _ _ _ _)
      | (with_reducible exact ih2 _ _ _ _ _)
      | (with_reducible exact ih3 _ _ _)
      | (with_reducible exact impl_Entities.mono _ _)
      | (with_reducible exact laws_inlineASCII.mono _ _)
      | (with_reducible exact laws_inlineLives.mono _)
      | (with_reducible exact LeO.refl _)
      | (with_reducible exact LeO.none _)
      | (with_reducible refine LeO.ite ?_ ?_)
      | (with_reducible refine LeO.bind ?_ (fun _ => ?_))
      | exact ih0 _ _ _ _
      | exact ih1 _ _ _ _ _
      | exact ih2 _ _ _ _ _
      | exact ih3 _ _ _
      | exact impl_Entities.mono _ _
      | exact laws_inlineASCII.mono _ _
      | exact laws_inlineLives.mono _
      | exact LeO.none _
      | refine LeO.ite ?_ ?_
      | refine LeO.bind ?_ (fun _ => ?_)
set_option maxHeartbeats 8000000 in
set_option maxRecDepth 100000 in
theorem laws_FnEntities.calls (k : Nat) (a0 : ByteArray) (r : Bool) (w : World) (h : laws_FnEntities.f k a0 = some r) :
    Calls Try.prog 3 #[.string a0] w fun e w' => e = .returned (.bool r) ∧ Below w.heap.size w w' := by
  have HB := Aside0.mk (Below.refl w.heap.size w)
  have H : (if (a0.size : Int) > 2147483647 then (some true) else ((laws_inlineASCII.f k a0).bind fun t161 => ((impl_Entities.f k t161).bind fun t162 => (laws_FnEntities.l0 k t161 t162 (⟨#[]⟩ : ByteArray) 0)))) = some r := h
  clear h
  by_cases c2 : (a0.size : Int) > 2147483647
  · rw [if_pos c2] at H
    have c2b0 : decide (2147483647 < (a0.size : Int)) = true := decide_eq_true c2
    have c2b1 : decide (2147483647 < a0.size) = true := decide_eq_true (by omega)
    clear c2
    obtain rfl := Option.some.inj H
    go_enter Try.func3, Try.ntmps3
    go_wp2
    go_ret
    exact ⟨by first | rfl | (simp [errW_none, errW_some] <;> rfl) | (simp [*, errW_none, errW_some] <;> rfl), by repeat (first | (with_reducible first | exact HB.out | apply below_alloc | apply pw_below_drewN | apply below_drew1) | exact HB.out)⟩
  · rw [if_neg c2] at H
    have c2b0 : decide (2147483647 < (a0.size : Int)) = false := decide_eq_false c2
    have c2b1 : decide (2147483647 < a0.size) = false := decide_eq_false (by omega)
    clear c2
    replace H := Option.bind_eq_some_iff.mp H
    obtain ⟨t161, A30, H⟩ := H
    replace H : ((impl_Entities.f k t161).bind fun t162 => (laws_FnEntities.l0 k t161 t162 (⟨#[]⟩ : ByteArray) 0)) = some r := H
    have A3 := Aside0.mk A30
    clear A30
    replace H := Option.bind_eq_some_iff.mp H
    obtain ⟨t162, A40, H⟩ := H
    replace H : (laws_FnEntities.l0 k t161 t162 (⟨#[]⟩ : ByteArray) 0) = some r := H
    have A4 := Aside0.mk A40
    clear A40
    have H' := Aside0.mk H
    clear H
    go_enter Try.func3, Try.ntmps3
    go_wp2_with (first | ((with_reducible refine gate_callee (f := 7) rfl ?_); refine goesL_ (some 11) rfl rfl Try.func7 (by kernel_rfl) rfl #[.string a0] rfl (by (try simp only [List.map_toArray, List.map_cons, List.map_nil]); first | done | rfl | (simp only [List.length_drop, List.length_take]; rfl)) ?_; (with_reducible refine (laws_inlineASCII.calls k a0 t161 _ A3.out).mono ?_); rintro e w5 ⟨rfl, hb⟩; refine ⟨_, rfl, ?_⟩; have n0_ := Aside0.mk (below_step (by repeat (first | (with_reducible first | exact HB.out | apply below_alloc | apply pw_below_drewN | apply below_drew1) | exact HB.out)) hb); clear HB; have HB := n0_; clear n0_; (try clear hb); (try clear hb2); (try clear hk); (try clear hi)) | ((with_reducible refine gate_callee (f := 8) rfl ?_); refine goesL_ (some 13) rfl rfl Try.func8 (by kernel_rfl) rfl #[.string t161] rfl (by (try simp only [List.map_toArray, List.map_cons, List.map_nil]); first | done | rfl | (simp only [List.length_drop, List.length_take]; rfl)) ?_; (with_reducible refine (impl_Entities.calls k t161 t162 _ A4.out).mono ?_); rintro e w6 ⟨rfl, hb⟩; refine ⟨_, rfl, ?_⟩; have n0_ := Aside0.mk (below_step (by repeat (first | (with_reducible first | exact HB.out | apply below_alloc | apply pw_below_drewN | apply below_drew1) | exact HB.out)) hb); clear HB; have HB := n0_; clear n0_; (try clear hb); (try clear hb2); (try clear hk); (try clear hi)))
    go_loopg [4, 5] k (fun kq v4 v5 w' => ∃ (x4_1 : ByteArray) (x5_1 : Int), v4 = .string x4_1 ∧ v5 = .int .i64 x5_1 ∧ Aside0 (laws_FnEntities.l0 kq t161 t162 x4_1 x5_1 = some r) ∧ Aside0 (kq ≤ k) ∧ Aside0 (Below w.heap.size w w'))
    case atStart => exact ⟨((⟨#[]⟩ : ByteArray)), (0), (by first | rfl | (simp; done) | (simp [*]; done)), (by first | rfl | (simp; done) | (simp [*]; done)), H', ⟨Nat.le_refl _⟩, ⟨by repeat (first | (with_reducible first | exact HB.out | apply below_alloc | apply pw_below_drewN | apply below_drew1) | exact HB.out)⟩⟩
    case round =>
      clear H'
      try clear c2
      try clear c2b0
      try clear c2b1
      try clear p2
      try clear c3
      obtain ⟨x4_1, x5_1, rfl, rfl, HA, HK1, HB⟩ := hrel
      cases gk with
      | zero => exact absurd HA.out (by simp [laws_FnEntities.l0])
      | succ k1 =>
        have H := HA.out
        clear HA
        simp only [laws_FnEntities.l0] at H
        by_cases c7 : x5_1 < (t162.size : Int)
        · rw [if_pos c7] at H
          have c7b0 : decide (x5_1 < (t162.size : Int)) = true := decide_eq_true c7
          clear c7
          have HC8 := Aside0.mk H
          clear H
          go_upto_region 10 with (fail)
          go_cut [27] (fun v27 wc => ∃ (kq : Nat) (x27_7 : Bool), v27 = .bool x27_7 ∧ Aside0 (laws_FnEntities.j1 kq t161 t162 x4_1 x5_1 x27_7 = some r) ∧ Aside0 (kq ≤ k1) ∧ Aside0 (Below w.heap.size w wc))
          case first =>
            have H := HC8.out
            clear HC8
            by_cases c9 : 0 ≤ x5_1
            · rw [if_pos c9] at H
              have c9b0 : decide (0 ≤ x5_1) = true := decide_eq_true c9
              clear c9
              (first | rw [c9b0] | (simp only [i64_w, i32_w]; rw [c9b0]) | skip)
              by_cases c11 : (bt t162 x5_1) = 60
              · rw [if_pos c11] at H
                have c11b0 : ((bt t162 x5_1) == 60) = true := beq_iff_eq.mpr c11
                have c11b1 : ((bt t162 x5_1) != 60) = false := bne_eq_false_iff_eq.mpr c11
                clear c11
                have H' := Aside0.mk H
                clear H
                have p10 : 0 ≤ (x5_1 : Int) := of_decide_eq_true (by first | (with_reducible assumption) | assumption)
                have q10 : x5_1 < (t162.size : Int) := of_decide_eq_true (by first | (with_reducible assumption) | assumption)
                have hx10 := bt_at t162 x5_1
                replace p10 := eq_true p10
                replace q10 := eq_true q10
                go_wp2
                go_meet
                case rel => exact ⟨_, (true), (by first | rfl | (simp; done) | (simp [*]; done)), H', ⟨by have := HK1.out; first | omega | exact Nat.le_refl _⟩, ⟨by repeat (first | (with_reducible first | exact HB.out | apply below_alloc | apply pw_below_drewN | apply below_drew1) | exact HB.out)⟩⟩
              · rw [if_neg c11] at H
                have c11b0 : ((bt t162 x5_1) == 60) = false := beq_eq_false_iff_ne.mpr c11
                have c11b1 : ((bt t162 x5_1) != 60) = true := bne_iff_ne.mpr c11
                have H' := Aside0.mk H
                clear H
                have p10 : 0 ≤ (x5_1 : Int) := of_decide_eq_true (by first | (with_reducible assumption) | assumption)
                have q10 : x5_1 < (t162.size : Int) := of_decide_eq_true (by first | (with_reducible assumption) | assumption)
                have hx10 := bt_at t162 x5_1
                replace p10 := eq_true p10
                replace q10 := eq_true q10
                have p12 : 0 ≤ (x5_1 : Int) := of_decide_eq_true (by first | (with_reducible assumption) | assumption)
                have q12 : x5_1 < (t162.size : Int) := of_decide_eq_true (by first | (with_reducible assumption) | assumption)
                have hx12 := bt_at t162 x5_1
                replace p12 := eq_true p12
                replace q12 := eq_true q12
                go_wp2
                go_meet
                case rel => exact ⟨_, (((bt t162 x5_1) == 62)), (by first | rfl | (simp; done) | (simp [*]; done)), H', ⟨by have := HK1.out; first | omega | exact Nat.le_refl _⟩, ⟨by repeat (first | (with_reducible first | exact HB.out | apply below_alloc | apply pw_below_drewN | apply below_drew1) | exact HB.out)⟩⟩
            · rw [if_neg c9] at H
              exact absurd H (by simp)
          case rest =>
            clear HC8
            try clear c1
            try clear p1
            try clear q1
            try clear hx1
            try clear c2
            try clear c2b0
            try clear c2b1
            try clear p2
            try clear c3
            try clear c7
            try clear c7b0
            try clear c8
            try clear c9
            try clear c9b0
            try clear p10
            try clear q10
            try clear hx10
            try clear c11
            try clear c11b0
            try clear c11b1
            try clear p12
            try clear q12
            try clear hx12
            try clear p10
            try clear p12
            try clear p2
            try clear q10
            try clear q12
            obtain ⟨kq, x27_7, rfl, HA, HJ7, HB⟩ := hcut
            cases kq with
            | zero => exact absurd HA.out (by simp [laws_FnEntities.j1])
            | succ kj7 =>
              have H := HA.out
              clear HA
              simp only [laws_FnEntities.j1] at H
              by_cases c13 : x27_7 = true
              · subst c13
                have H1 : (some false) = some r := by rw [if_pos rfl] at H; exact H
                clear H
                have H := H1
                clear H1
                obtain rfl := Option.some.inj H
                go_wp2
                go_ret
                exact ⟨by first | rfl | (simp [errW_none, errW_some] <;> rfl) | (simp [*, errW_none, errW_some] <;> rfl), by repeat (first | (with_reducible first | exact HB.out | apply below_alloc | apply pw_below_drewN | apply below_drew1) | exact HB.out)⟩
              · replace c13 := Bool.eq_false_iff.mpr c13
                subst c13
                have H1 : (if (wrap64 (x5_1 + 3)) < (t162.size : Int) then (if 0 ≤ x5_1 then (if x5_1 ≤ (wrap64 (x5_1 + 4)) then (if (wrap64 (x5_1 + 4)) ≤ (t162.size : Int) then (laws_FnEntities.j2 kj7 t161 t162 x4_1 x5_1 ((t162.extract (x5_1 : Int).toNat ((wrap64 (x5_1 + 4)) : Int).toNat).toList == ([38, 108, 116, 59] : List UInt8))) else (none)) else (none)) else (none)) else (laws_FnEntities.j2 kj7 t161 t162 x4_1 x5_1 false)) = some r := by rw [if_neg (show ¬ (false = true) by decide)] at H; exact H
                clear H
                have H := H1
                clear H1
                have HC14 := Aside0.mk H
                clear H
                go_upto_region 12 with (fail)
                go_cut [38] (fun v38 wc => ∃ (kq : Nat) (x38_13 : Bool), v38 = .bool x38_13 ∧ Aside0 (laws_FnEntities.j2 kq t161 t162 x4_1 x5_1 x38_13 = some r) ∧ Aside0 (kq ≤ kj7) ∧ Aside0 (Below w.heap.size w wc))
                case first =>
                  have H := HC14.out
                  clear HC14
                  by_cases c15 : (wrap64 (x5_1 + 3)) < (t162.size : Int)
                  · rw [if_pos c15] at H
                    have c15b0 : decide ((wrap64 (x5_1 + 3)) < (t162.size : Int)) = true := decide_eq_true c15
                    clear c15
                    (first | rw [c15b0] | (simp only [i64_w, i32_w]; rw [c15b0]) | skip)
                    by_cases c16 : 0 ≤ x5_1
                    · rw [if_pos c16] at H
                      have c16b0 := eq_true c16
                      have c16b1 : decide (0 ≤ x5_1) = true := decide_eq_true c16
                      clear c16
                      by_cases c17 : x5_1 ≤ (wrap64 (x5_1 + 4))
                      · rw [if_pos c17] at H
                        have c17b0 := eq_true c17
                        have c17b1 : decide (x5_1 ≤ (wrap64 (x5_1 + 4))) = true := decide_eq_true c17
                        by_cases c18 : (wrap64 (x5_1 + 4)) ≤ (t162.size : Int)
                        · rw [if_pos c18] at H
                          have c18b0 := eq_true c18
                          have c18b1 : decide ((wrap64 (x5_1 + 4)) ≤ (t162.size : Int)) = true := decide_eq_true c18
                          have H' := Aside0.mk H
                          clear H
                          go_wp2
                          go_meet
                          case rel => exact ⟨_, (((t162.extract (x5_1 : Int).toNat ((wrap64 (x5_1 + 4)) : Int).toNat).toList == ([38, 108, 116, 59] : List UInt8))), (by first | rfl | (simp; done) | (simp [*]; done)), H', ⟨by have := HK1.out; have := HJ7.out; first | omega | exact Nat.le_refl _⟩, ⟨by repeat (first | (with_reducible first | exact HB.out | apply below_alloc | apply pw_below_drewN | apply below_drew1) | exact HB.out)⟩⟩
                        · rw [if_neg c18] at H
                          exact absurd H (by simp)
                      · rw [if_neg c17] at H
                        exact absurd H (by simp)
                    · rw [if_neg c16] at H
                      exact absurd H (by simp)
                  · rw [if_neg c15] at H
                    have c15b0 : decide ((wrap64 (x5_1 + 3)) < (t162.size : Int)) = false := decide_eq_false c15
                    clear c15
                    (first | rw [c15b0] | (simp only [i64_w, i32_w]; rw [c15b0]) | skip)
                    have H' := Aside0.mk H
                    clear H
                    go_wp2
                    go_meet
                    case rel => exact ⟨_, (false), (by first | rfl | (simp; done) | (simp [*]; done)), H', ⟨by have := HK1.out; have := HJ7.out; first | omega | exact Nat.le_refl _⟩, ⟨by repeat (first | (with_reducible first | exact HB.out | apply below_alloc | apply pw_below_drewN | apply below_drew1) | exact HB.out)⟩⟩
                case rest =>
                  clear HC14
                  try clear c1
                  try clear p1
                  try clear q1
                  try clear hx1
                  try clear c2
                  try clear c2b0
                  try clear c2b1
                  try clear p2
                  try clear c3
                  try clear p6
                  try clear c7
                  try clear c7b0
                  try clear c8
                  try clear c9
                  try clear c9b0
                  try clear p10
                  try clear q10
                  try clear hx10
                  try clear c11
                  try clear c11b0
                  try clear c11b1
                  try clear p12
                  try clear q12
                  try clear hx12
                  try clear c13
                  try clear c15
                  try clear c15b0
                  try clear c16
                  try clear c16b0
                  try clear c16b1
                  try clear c17
                  try clear c17b0
                  try clear c17b1
                  try clear c18
                  try clear c18b0
                  try clear c18b1
                  try clear p1
                  try clear p10
                  try clear p12
                  try clear p2
                  try clear q1
                  try clear q10
                  try clear q12
                  obtain ⟨kq, x38_13, rfl, HA, HJ13, HB⟩ := hcut
                  cases kq with
                  | zero => exact absurd HA.out (by simp [laws_FnEntities.j2])
                  | succ kj13 =>
                    have H := HA.out
                    clear HA
                    simp only [laws_FnEntities.j2] at H
                    by_cases c19 : x38_13 = true
                    · subst c19
                      have H1 : (if x4_1.size + 1 ≤ 9223372036854775807 then (laws_FnEntities.l0 kj13 t161 t162 (x4_1 ++ (⟨#[60]⟩ : ByteArray)) (wrap64 ((wrap64 (x5_1 + 3)) + 1))) else (none)) = some r := by rw [if_pos rfl] at H; exact H
                      clear H
                      have H := H1
                      clear H1
                      by_cases c20 : x4_1.size + 1 ≤ 9223372036854775807
                      · rw [if_pos c20] at H
                        have c20b0 := eq_true c20
                        have c20b1 : decide (x4_1.size + 1 ≤ 9223372036854775807) = true := decide_eq_true c20
                        try have c20b2 : (9223372036854775807 < x4_1.size + 1) = False := eq_false (Nat.not_lt.2 c20)
                        have H' := Aside0.mk H
                        clear H
                        go_wp2
                        go_roundg kj13
                        case measure => have := HK1.out; have := HJ7.out; have := HJ13.out; omega
                        case rel => exact ⟨(x4_1 ++ (⟨#[60]⟩ : ByteArray)), (wrap64 ((wrap64 (x5_1 + 3)) + 1)), (by first | rfl | (simp; done) | (simp [*]; done)), (by first | rfl | (simp; done) | (simp [*]; done)), H', ⟨by have := HK1.out; have := HJ7.out; have := HJ13.out; omega⟩, ⟨by repeat (first | (with_reducible first | exact HB.out | apply below_alloc | apply pw_below_drewN | apply below_drew1) | exact HB.out)⟩⟩
                      · rw [if_neg c20] at H
                        exact absurd H (by simp)
                    · replace c19 := Bool.eq_false_iff.mpr c19
                      subst c19
                      have H1 : (if (wrap64 (x5_1 + 3)) < (t162.size : Int) then (if 0 ≤ x5_1 then (if x5_1 ≤ (wrap64 (x5_1 + 4)) then (if (wrap64 (x5_1 + 4)) ≤ (t162.size : Int) then (if (t162.extract (x5_1 : Int).toNat ((wrap64 (x5_1 + 4)) : Int).toNat).toList = ([38, 103, 116, 59] : List UInt8) then (if x4_1.size + 1 ≤ 9223372036854775807 then (laws_FnEntities.l0 kj13 t161 t162 (x4_1 ++ (⟨#[62]⟩ : ByteArray)) (wrap64 ((wrap64 (x5_1 + 3)) + 1))) else (none)) else (if x5_1 ≤ (wrap64 (x5_1 + 1)) then (if (wrap64 (x5_1 + 1)) ≤ (t162.size : Int) then (if x4_1.size + (t162.extract (x5_1 : Int).toNat ((wrap64 (x5_1 + 1)) : Int).toNat).size ≤ 9223372036854775807 then (laws_FnEntities.l0 kj13 t161 t162 (x4_1 ++ (t162.extract (x5_1 : Int).toNat ((wrap64 (x5_1 + 1)) : Int).toNat)) (wrap64 (x5_1 + 1))) else (none)) else (none)) else (none))) else (none)) else (none)) else (none)) else (if 0 ≤ x5_1 then (if x5_1 ≤ (wrap64 (x5_1 + 1)) then (if (wrap64 (x5_1 + 1)) ≤ (t162.size : Int) then (if x4_1.size + (t162.extract (x5_1 : Int).toNat ((wrap64 (x5_1 + 1)) : Int).toNat).size ≤ 9223372036854775807 then (laws_FnEntities.l0 kj13 t161 t162 (x4_1 ++ (t162.extract (x5_1 : Int).toNat ((wrap64 (x5_1 + 1)) : Int).toNat)) (wrap64 (x5_1 + 1))) else (none)) else (none)) else (none)) else (none))) = some r := by rw [if_neg (show ¬ (false = true) by decide)] at H; exact H
                      clear H
                      have H := H1
                      clear H1
                      by_cases c21 : (wrap64 (x5_1 + 3)) < (t162.size : Int)
                      · rw [if_pos c21] at H
                        have c21b0 : decide ((wrap64 (x5_1 + 3)) < (t162.size : Int)) = true := decide_eq_true c21
                        clear c21
                        by_cases c22 : 0 ≤ x5_1
                        · rw [if_pos c22] at H
                          have c22b0 := eq_true c22
                          have c22b1 : decide (0 ≤ x5_1) = true := decide_eq_true c22
                          clear c22
                          by_cases c23 : x5_1 ≤ (wrap64 (x5_1 + 4))
                          · rw [if_pos c23] at H
                            have c23b0 := eq_true c23
                            have c23b1 : decide (x5_1 ≤ (wrap64 (x5_1 + 4))) = true := decide_eq_true c23
                            by_cases c24 : (wrap64 (x5_1 + 4)) ≤ (t162.size : Int)
                            · rw [if_pos c24] at H
                              have c24b0 := eq_true c24
                              have c24b1 : decide ((wrap64 (x5_1 + 4)) ≤ (t162.size : Int)) = true := decide_eq_true c24
                              by_cases c25 : (t162.extract (x5_1 : Int).toNat ((wrap64 (x5_1 + 4)) : Int).toNat).toList = ([38, 103, 116, 59] : List UInt8)
                              · rw [if_pos c25] at H
                                have c25b0 : ((t162.extract (x5_1 : Int).toNat ((wrap64 (x5_1 + 4)) : Int).toNat).toList == ([38, 103, 116, 59] : List UInt8)) = true := beq_iff_eq.mpr c25
                                have c25b1 : ((t162.extract (x5_1 : Int).toNat ((wrap64 (x5_1 + 4)) : Int).toNat).toList != ([38, 103, 116, 59] : List UInt8)) = false := bne_eq_false_iff_eq.mpr c25
                                clear c25
                                by_cases c26 : x4_1.size + 1 ≤ 9223372036854775807
                                · rw [if_pos c26] at H
                                  have c26b0 := eq_true c26
                                  have c26b1 : decide (x4_1.size + 1 ≤ 9223372036854775807) = true := decide_eq_true c26
                                  try have c26b2 : (9223372036854775807 < x4_1.size + 1) = False := eq_false (Nat.not_lt.2 c26)
                                  have H' := Aside0.mk H
                                  clear H
                                  go_wp2
                                  go_roundg kj13
                                  case measure => have := HK1.out; have := HJ7.out; have := HJ13.out; omega
                                  case rel => exact ⟨(x4_1 ++ (⟨#[62]⟩ : ByteArray)), (wrap64 ((wrap64 (x5_1 + 3)) + 1)), (by first | rfl | (simp; done) | (simp [*]; done)), (by first | rfl | (simp; done) | (simp [*]; done)), H', ⟨by have := HK1.out; have := HJ7.out; have := HJ13.out; omega⟩, ⟨by repeat (first | (with_reducible first | exact HB.out | apply below_alloc | apply pw_below_drewN | apply below_drew1) | exact HB.out)⟩⟩
                                · rw [if_neg c26] at H
                                  exact absurd H (by simp)
                              · rw [if_neg c25] at H
                                have c25b0 : ((t162.extract (x5_1 : Int).toNat ((wrap64 (x5_1 + 4)) : Int).toNat).toList == ([38, 103, 116, 59] : List UInt8)) = false := beq_eq_false_iff_ne.mpr c25
                                have c25b1 : ((t162.extract (x5_1 : Int).toNat ((wrap64 (x5_1 + 4)) : Int).toNat).toList != ([38, 103, 116, 59] : List UInt8)) = true := bne_iff_ne.mpr c25
                                have c27b0 := eq_true (of_decide_eq_true (by first | (with_reducible assumption) | assumption) : 0 ≤ x5_1)
                                by_cases c28 : x5_1 ≤ (wrap64 (x5_1 + 1))
                                · rw [if_pos c28] at H
                                  have c28b0 := eq_true c28
                                  have c28b1 : decide (x5_1 ≤ (wrap64 (x5_1 + 1))) = true := decide_eq_true c28
                                  by_cases c29 : (wrap64 (x5_1 + 1)) ≤ (t162.size : Int)
                                  · rw [if_pos c29] at H
                                    have c29b0 := eq_true c29
                                    have c29b1 : decide ((wrap64 (x5_1 + 1)) ≤ (t162.size : Int)) = true := decide_eq_true c29
                                    by_cases c30 : x4_1.size + (t162.extract (x5_1 : Int).toNat ((wrap64 (x5_1 + 1)) : Int).toNat).size ≤ 9223372036854775807
                                    · rw [if_pos c30] at H
                                      have c30b0 := eq_true c30
                                      have c30b1 : decide (x4_1.size + (t162.extract (x5_1 : Int).toNat ((wrap64 (x5_1 + 1)) : Int).toNat).size ≤ 9223372036854775807) = true := decide_eq_true c30
                                      try have c30b2 : (9223372036854775807 < x4_1.size + (t162.extract (x5_1 : Int).toNat ((wrap64 (x5_1 + 1)) : Int).toNat).size) = False := eq_false (Nat.not_lt.2 c30)
                                      have H' := Aside0.mk H
                                      clear H
                                      go_wp2
                                      go_roundg kj13
                                      case measure => have := HK1.out; have := HJ7.out; have := HJ13.out; omega
                                      case rel => exact ⟨(x4_1 ++ (t162.extract (x5_1 : Int).toNat ((wrap64 (x5_1 + 1)) : Int).toNat)), (wrap64 (x5_1 + 1)), (by first | rfl | (simp; done) | (simp [*]; done)), (by first | rfl | (simp; done) | (simp [*]; done)), H', ⟨by have := HK1.out; have := HJ7.out; have := HJ13.out; omega⟩, ⟨by repeat (first | (with_reducible first | exact HB.out | apply below_alloc | apply pw_below_drewN | apply below_drew1) | exact HB.out)⟩⟩
                                    · rw [if_neg c30] at H
                                      exact absurd H (by simp)
                                  · rw [if_neg c29] at H
                                    exact absurd H (by simp)
                                · rw [if_neg c28] at H
                                  exact absurd H (by simp)
                            · rw [if_neg c24] at H
                              exact absurd H (by simp)
                          · rw [if_neg c23] at H
                            exact absurd H (by simp)
                        · rw [if_neg c22] at H
                          exact absurd H (by simp)
                      · rw [if_neg c21] at H
                        have c21b0 : decide ((wrap64 (x5_1 + 3)) < (t162.size : Int)) = false := decide_eq_false c21
                        clear c21
                        by_cases c31 : 0 ≤ x5_1
                        · rw [if_pos c31] at H
                          have c31b0 := eq_true c31
                          have c31b1 : decide (0 ≤ x5_1) = true := decide_eq_true c31
                          clear c31
                          by_cases c32 : x5_1 ≤ (wrap64 (x5_1 + 1))
                          · rw [if_pos c32] at H
                            have c32b0 := eq_true c32
                            have c32b1 : decide (x5_1 ≤ (wrap64 (x5_1 + 1))) = true := decide_eq_true c32
                            by_cases c33 : (wrap64 (x5_1 + 1)) ≤ (t162.size : Int)
                            · rw [if_pos c33] at H
                              have c33b0 := eq_true c33
                              have c33b1 : decide ((wrap64 (x5_1 + 1)) ≤ (t162.size : Int)) = true := decide_eq_true c33
                              by_cases c34 : x4_1.size + (t162.extract (x5_1 : Int).toNat ((wrap64 (x5_1 + 1)) : Int).toNat).size ≤ 9223372036854775807
                              · rw [if_pos c34] at H
                                have c34b0 := eq_true c34
                                have c34b1 : decide (x4_1.size + (t162.extract (x5_1 : Int).toNat ((wrap64 (x5_1 + 1)) : Int).toNat).size ≤ 9223372036854775807) = true := decide_eq_true c34
                                try have c34b2 : (9223372036854775807 < x4_1.size + (t162.extract (x5_1 : Int).toNat ((wrap64 (x5_1 + 1)) : Int).toNat).size) = False := eq_false (Nat.not_lt.2 c34)
                                have H' := Aside0.mk H
                                clear H
                                go_wp2
                                go_roundg kj13
                                case measure => have := HK1.out; have := HJ7.out; have := HJ13.out; omega
                                case rel => exact ⟨(x4_1 ++ (t162.extract (x5_1 : Int).toNat ((wrap64 (x5_1 + 1)) : Int).toNat)), (wrap64 (x5_1 + 1)), (by first | rfl | (simp; done) | (simp [*]; done)), (by first | rfl | (simp; done) | (simp [*]; done)), H', ⟨by have := HK1.out; have := HJ7.out; have := HJ13.out; omega⟩, ⟨by repeat (first | (with_reducible first | exact HB.out | apply below_alloc | apply pw_below_drewN | apply below_drew1) | exact HB.out)⟩⟩
                              · rw [if_neg c34] at H
                                exact absurd H (by simp)
                            · rw [if_neg c33] at H
                              exact absurd H (by simp)
                          · rw [if_neg c32] at H
                            exact absurd H (by simp)
                        · rw [if_neg c31] at H
                          exact absurd H (by simp)
        · rw [if_neg c7] at H
          have c7b0 : decide (x5_1 < (t162.size : Int)) = false := decide_eq_false c7
          clear c7
          have H' := Aside0.mk H
          clear H
          go_wp2
          go_loopg [6] k1 (fun kq v6 w' => ∃ (x6_2 : Int), v6 = .int .i64 x6_2 ∧ Aside0 (laws_FnEntities.l1 kq t161 x4_1 x6_2 = some r) ∧ Aside0 (kq ≤ k1) ∧ Aside0 (Below w.heap.size w w'))
          case atStart => exact ⟨(0), (by first | rfl | (simp; done) | (simp [*]; done)), H', ⟨Nat.le_refl _⟩, ⟨by repeat (first | (with_reducible first | exact HB.out | apply below_alloc | apply pw_below_drewN | apply below_drew1) | exact HB.out)⟩⟩
          case round =>
            clear H'
            try clear c1
            try clear p1
            try clear q1
            try clear hx1
            try clear c2
            try clear c2b0
            try clear c2b1
            try clear p2
            try clear c3
            try clear p6
            try clear c7
            try clear c7b0
            try clear c8
            try clear c9
            try clear c9b0
            try clear p10
            try clear q10
            try clear hx10
            try clear c11
            try clear c11b0
            try clear c11b1
            try clear p12
            try clear q12
            try clear hx12
            try clear c13
            try clear c15
            try clear c15b0
            try clear c16
            try clear c16b0
            try clear c16b1
            try clear c17
            try clear c17b0
            try clear c17b1
            try clear c18
            try clear c18b0
            try clear c18b1
            try clear c19
            try clear c20
            try clear c20b0
            try clear c20b1
            try clear c20b2
            try clear c21
            try clear c21b0
            try clear c22
            try clear c22b0
            try clear c22b1
            try clear c23
            try clear c23b0
            try clear c23b1
            try clear c24
            try clear c24b0
            try clear c24b1
            try clear c25
            try clear c25b0
            try clear c25b1
            try clear c26
            try clear c26b0
            try clear c26b1
            try clear c26b2
            try clear c27
            try clear c27b0
            try clear c28
            try clear c28b0
            try clear c28b1
            try clear c29
            try clear c29b0
            try clear c29b1
            try clear c30
            try clear c30b0
            try clear c30b1
            try clear c30b2
            try clear c31
            try clear c31b0
            try clear c31b1
            try clear c32
            try clear c32b0
            try clear c32b1
            try clear c33
            try clear c33b0
            try clear c33b1
            try clear c34
            try clear c34b0
            try clear c34b1
            try clear c34b2
            try clear p1
            try clear p10
            try clear p12
            try clear p2
            try clear p6
            try clear q1
            try clear q10
            try clear q12
            obtain ⟨x6_2, rfl, HA, HK2, HB⟩ := hrel
            cases gk with
            | zero => exact absurd HA.out (by simp [laws_FnEntities.l1])
            | succ k2 =>
              have H := HA.out
              clear HA
              simp only [laws_FnEntities.l1] at H
              by_cases c35 : (wrap64 (x6_2 + 3)) < (t161.size : Int)
              · rw [if_pos c35] at H
                have c35b0 : decide ((wrap64 (x6_2 + 3)) < (t161.size : Int)) = true := decide_eq_true c35
                clear c35
                by_cases c36 : 0 ≤ x6_2
                · rw [if_pos c36] at H
                  have c36b0 := eq_true c36
                  have c36b1 : decide (0 ≤ x6_2) = true := decide_eq_true c36
                  clear c36
                  by_cases c37 : x6_2 ≤ (wrap64 (x6_2 + 4))
                  · rw [if_pos c37] at H
                    have c37b0 := eq_true c37
                    have c37b1 : decide (x6_2 ≤ (wrap64 (x6_2 + 4))) = true := decide_eq_true c37
                    by_cases c38 : (wrap64 (x6_2 + 4)) ≤ (t161.size : Int)
                    · rw [if_pos c38] at H
                      have c38b0 := eq_true c38
                      have c38b1 : decide ((wrap64 (x6_2 + 4)) ≤ (t161.size : Int)) = true := decide_eq_true c38
                      by_cases c39 : (t161.extract (x6_2 : Int).toNat ((wrap64 (x6_2 + 4)) : Int).toNat).toList = ([38, 108, 116, 59] : List UInt8)
                      · rw [if_pos c39] at H
                        have c39b0 : ((t161.extract (x6_2 : Int).toNat ((wrap64 (x6_2 + 4)) : Int).toNat).toList == ([38, 108, 116, 59] : List UInt8)) = true := beq_iff_eq.mpr c39
                        have c39b1 : ((t161.extract (x6_2 : Int).toNat ((wrap64 (x6_2 + 4)) : Int).toNat).toList != ([38, 108, 116, 59] : List UInt8)) = false := bne_eq_false_iff_eq.mpr c39
                        clear c39
                        obtain rfl := Option.some.inj H
                        go_wp2
                        go_ret
                        exact ⟨by first | rfl | (simp [errW_none, errW_some] <;> rfl) | (simp [*, errW_none, errW_some] <;> rfl), by repeat (first | (with_reducible first | exact HB.out | apply below_alloc | apply pw_below_drewN | apply below_drew1) | exact HB.out)⟩
                      · rw [if_neg c39] at H
                        have c39b0 : ((t161.extract (x6_2 : Int).toNat ((wrap64 (x6_2 + 4)) : Int).toNat).toList == ([38, 108, 116, 59] : List UInt8)) = false := beq_eq_false_iff_ne.mpr c39
                        have c39b1 : ((t161.extract (x6_2 : Int).toNat ((wrap64 (x6_2 + 4)) : Int).toNat).toList != ([38, 108, 116, 59] : List UInt8)) = true := bne_iff_ne.mpr c39
                        have c40b0 := eq_true (of_decide_eq_true (by first | (with_reducible assumption) | assumption) : 0 ≤ x6_2)
                        have c41b0 := eq_true (of_decide_eq_true (by first | (with_reducible assumption) | assumption) : x6_2 ≤ (wrap64 (x6_2 + 4)))
                        have c42b0 := eq_true (of_decide_eq_true (by first | (with_reducible assumption) | assumption) : (wrap64 (x6_2 + 4)) ≤ (t161.size : Int))
                        by_cases c43 : (t161.extract (x6_2 : Int).toNat ((wrap64 (x6_2 + 4)) : Int).toNat).toList = ([38, 103, 116, 59] : List UInt8)
                        · rw [if_pos c43] at H
                          have c43b0 : ((t161.extract (x6_2 : Int).toNat ((wrap64 (x6_2 + 4)) : Int).toNat).toList == ([38, 103, 116, 59] : List UInt8)) = true := beq_iff_eq.mpr c43
                          have c43b1 : ((t161.extract (x6_2 : Int).toNat ((wrap64 (x6_2 + 4)) : Int).toNat).toList != ([38, 103, 116, 59] : List UInt8)) = false := bne_eq_false_iff_eq.mpr c43
                          clear c43
                          obtain rfl := Option.some.inj H
                          go_wp2
                          go_ret
                          exact ⟨by first | rfl | (simp [errW_none, errW_some] <;> rfl) | (simp [*, errW_none, errW_some] <;> rfl), by repeat (first | (with_reducible first | exact HB.out | apply below_alloc | apply pw_below_drewN | apply below_drew1) | exact HB.out)⟩
                        · rw [if_neg c43] at H
                          have c43b0 : ((t161.extract (x6_2 : Int).toNat ((wrap64 (x6_2 + 4)) : Int).toNat).toList == ([38, 103, 116, 59] : List UInt8)) = false := beq_eq_false_iff_ne.mpr c43
                          have c43b1 : ((t161.extract (x6_2 : Int).toNat ((wrap64 (x6_2 + 4)) : Int).toNat).toList != ([38, 103, 116, 59] : List UInt8)) = true := bne_iff_ne.mpr c43
                          have H' := Aside0.mk H
                          clear H
                          go_wp2
                          go_roundg k2
                          case measure => have := HK1.out; have := HK2.out; omega
                          case rel => exact ⟨(wrap64 (x6_2 + 1)), (by first | rfl | (simp; done) | (simp [*]; done)), H', ⟨by have := HK1.out; have := HK2.out; omega⟩, ⟨by repeat (first | (with_reducible first | exact HB.out | apply below_alloc | apply pw_below_drewN | apply below_drew1) | exact HB.out)⟩⟩
                    · rw [if_neg c38] at H
                      exact absurd H (by simp)
                  · rw [if_neg c37] at H
                    exact absurd H (by simp)
                · rw [if_neg c36] at H
                  exact absurd H (by simp)
              · rw [if_neg c35] at H
                have c35b0 : decide ((wrap64 (x6_2 + 3)) < (t161.size : Int)) = false := decide_eq_false c35
                clear c35
                by_cases c44 : x4_1.toList = t161.toList
                · rw [if_pos c44] at H
                  have c44b0 : (x4_1.toList == t161.toList) = true := beq_iff_eq.mpr c44
                  have c44b1 : (x4_1.toList != t161.toList) = false := bne_eq_false_iff_eq.mpr c44
                  clear c44
                  replace H := Option.bind_eq_some_iff.mp H
                  obtain ⟨t163, A450, H⟩ := H
                  replace H : (some t163) = some r := H
                  have A45 := Aside0.mk A450
                  clear A450
                  obtain rfl := Option.some.inj H
                  go_wp2_with (first | (go_at_call 9; (with_reducible refine (laws_inlineLives.calls k2  t163 _ A45.out).mono ?_); rintro e w46 ⟨rfl, hb⟩; have n0_ := Aside0.mk (below_step (by repeat (first | (with_reducible first | exact HB.out | apply below_alloc | apply pw_below_drewN | apply below_drew1) | exact HB.out)) hb); clear HB; have HB := n0_; clear n0_; (try clear hb); (try clear hb2); (try clear hk); (try clear hi)))
                  go_ret
                  exact ⟨by first | rfl | (simp [errW_none, errW_some] <;> rfl) | (simp [*, errW_none, errW_some] <;> rfl), by repeat (first | (with_reducible first | exact HB.out | apply below_alloc | apply pw_below_drewN | apply below_drew1) | exact HB.out)⟩
                · rw [if_neg c44] at H
                  have c44b0 : (x4_1.toList == t161.toList) = false := beq_eq_false_iff_ne.mpr c44
                  have c44b1 : (x4_1.toList != t161.toList) = true := bne_iff_ne.mpr c44
                  obtain rfl := Option.some.inj H
                  go_wp2
                  go_ret
                  exact ⟨by first | rfl | (simp [errW_none, errW_some] <;> rfl) | (simp [*, errW_none, errW_some] <;> rfl), by repeat (first | (with_reducible first | exact HB.out | apply below_alloc | apply pw_below_drewN | apply below_drew1) | exact HB.out)⟩

/-- THE ONE PURE STATEMENT of laws_FnEntities: yours. -/
def laws_FnEntities.Pure : Prop := ∀ (a0 : ByteArray), a0.size ≤ 140737488351232 → ∃ k, laws_FnEntities.f k a0 = some true
theorem laws_FnEntities.walk (P : laws_FnEntities.Pure) (a0 : ByteArray) (w : World) (w0 : a0.size ≤ 140737488351232) :
    Calls Try.prog 3 #[.string a0] w fun e w' => e = .returned (.bool true) ∧ Below w.heap.size w w' := by
  obtain ⟨k, h⟩ := P a0 w0
  refine (laws_FnEntities.calls k a0 true w h).mono ?_
  rintro e w' ⟨rfl, hd⟩
  exact ⟨rfl, hd⟩

end Go.Proofs.Ytbhcoeabhdangaa.PEnt
