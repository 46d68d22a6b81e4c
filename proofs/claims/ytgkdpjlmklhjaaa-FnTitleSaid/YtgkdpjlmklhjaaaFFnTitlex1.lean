/- Printed by the program extprint.py of this session, out of the kit's print and contracts of this session's own; Lean checks it. -/
import Derived.Test.YtgkdpjlmklhjaaaEFnTitlex0
import Derived.Test.YtgkdpjlmklhjaaaEFnTitlex1
import Derived.Test.YtgkdpjlmklhjaaaTitleX
namespace Go.Proofs.Ytgkdpjlmklhjaaa.PFnTitle
open Go.RowKit Go.Proofs.YtgkdpjlmklhjaaaW.PrintWords Go.Proofs.YtgkdpjlmklhjaaaW.PrintLast Go.Proofs.YtgkdpjlmklhjaaaW.PrintMore
attribute [local go_sem] max2_int min2_int max_two min_two max_three min_three max_four min_four   -- for this text's walks alone
set_option linter.unusedVariables false
set_option linter.unusedSimpArgs false







/-! ### laws_FnTitle: function 7 -/
mutual
def laws_FnTitle.l0 : Nat → ByteArray → Bool → Bool → Int → Int → Option (Bool)
  | 0, _, _, _, _, _ => none
  | k + 1, x0, x3, x4, x14, x15 => if x15 < x14 then (if x3 = true then (if x4 = true then (laws_FnTitle.l0 k x0 true true x14 (wrap64 (x15 + 1))) else (if 0 ≤ x15 then (if x15 < (x0.size : Int) then (laws_FnTitle.l0 k x0 true ((bt x0 x15) == 39) x14 (wrap64 (x15 + 1))) else (none)) else (none))) else (if 0 ≤ x15 then (if x15 < (x0.size : Int) then (if x4 = true then (laws_FnTitle.l0 k x0 ((bt x0 x15) == 34) true x14 (wrap64 (x15 + 1))) else (laws_FnTitle.l0 k x0 ((bt x0 x15) == 34) ((bt x0 x15) == 39) x14 (wrap64 (x15 + 1)))) else (none)) else (none))) else (if 1 + x0.size ≤ 9223372036854775807 then (if ((⟨#[34]⟩ : ByteArray) ++ x0).size + 1 ≤ 9223372036854775807 then (if x0.toList = ([] : List UInt8) then ((impl_Quoted.f k x0).bind fun t162 => (some (t162.toList == ([] : List UInt8)))) else (if x3 = true then (laws_FnTitle.j1 k x0 x3 (((⟨#[34]⟩ : ByteArray) ++ x0) ++ (⟨#[34]⟩ : ByteArray)) x4) else (laws_FnTitle.j1 k x0 x3 (((⟨#[34]⟩ : ByteArray) ++ x0) ++ (⟨#[34]⟩ : ByteArray)) false))) else (none)) else (none))
def laws_FnTitle.j1 : Nat → ByteArray → Bool → ByteArray → Bool → Option (Bool)
  | 0, _, _, _, _ => none
  | k + 1, x0, x3, x6, x39 => if x39 = true then (laws_FnTitle.l1 k x0 (⟨#[34]⟩ : ByteArray) (x0.size : Int) 0) else (if x3 = true then (if 1 + x0.size ≤ 9223372036854775807 then (if ((⟨#[39]⟩ : ByteArray) ++ x0).size + 1 ≤ 9223372036854775807 then ((impl_Quoted.f k x0).bind fun t164 => (some (t164.toList == (((⟨#[39]⟩ : ByteArray) ++ x0) ++ (⟨#[39]⟩ : ByteArray)).toList))) else (none)) else (none)) else ((impl_Quoted.f k x0).bind fun t165 => (some (t165.toList == x6.toList))))
def laws_FnTitle.l1 : Nat → ByteArray → ByteArray → Int → Int → Option (Bool)
  | 0, _, _, _, _ => none
  | k + 1, x0, x6, x45, x46 => if x46 < x45 then (if 0 ≤ x46 then (if x46 < (x0.size : Int) then (if (bt x0 x46) = 34 then (if x6.size + 1 ≤ 9223372036854775807 then (if x46 ≤ (wrap64 (x46 + 1)) then (if (wrap64 (x46 + 1)) ≤ (x0.size : Int) then (if (x6 ++ (⟨#[92]⟩ : ByteArray)).size + (x0.extract (x46 : Int).toNat ((wrap64 (x46 + 1)) : Int).toNat).size ≤ 9223372036854775807 then (laws_FnTitle.l1 k x0 ((x6 ++ (⟨#[92]⟩ : ByteArray)) ++ (x0.extract (x46 : Int).toNat ((wrap64 (x46 + 1)) : Int).toNat)) x45 (wrap64 (x46 + 1))) else (none)) else (none)) else (none)) else (none)) else (if x46 ≤ (wrap64 (x46 + 1)) then (if (wrap64 (x46 + 1)) ≤ (x0.size : Int) then (if x6.size + (x0.extract (x46 : Int).toNat ((wrap64 (x46 + 1)) : Int).toNat).size ≤ 9223372036854775807 then (laws_FnTitle.l1 k x0 (x6 ++ (x0.extract (x46 : Int).toNat ((wrap64 (x46 + 1)) : Int).toNat)) x45 (wrap64 (x46 + 1))) else (none)) else (none)) else (none))) else (none)) else (none)) else (if x6.size + 1 ≤ 9223372036854775807 then ((impl_Quoted.f k x0).bind fun t163 => (some (t163.toList == (x6 ++ (⟨#[34]⟩ : ByteArray)).toList))) else (none))
end
def laws_FnTitle.f (k : Nat) (a0 : ByteArray) : Option (Bool) := if (a0.size : Int) > 2147483647 then (some true) else ((laws_inlineASCII.f k a0).bind fun t161 => (laws_FnTitle.l0 k t161 false false (t161.size : Int) 0))
theorem laws_FnTitle.mono_l : ∀ k, (∀ y0 y1 y2 y3 y4, LeO (laws_FnTitle.l0 k y0 y1 y2 y3 y4) (laws_FnTitle.l0 (k + 1) y0 y1 y2 y3 y4)) ∧ (∀ y0 y1 y2 y3, LeO (laws_FnTitle.j1 k y0 y1 y2 y3) (laws_FnTitle.j1 (k + 1) y0 y1 y2 y3)) ∧ (∀ y0 y1 y2 y3, LeO (laws_FnTitle.l1 k y0 y1 y2 y3) (laws_FnTitle.l1 (k + 1) y0 y1 y2 y3))
  | 0 => ⟨fun _ _ _ _ _ r h => by simp [laws_FnTitle.l0] at h, fun _ _ _ _ r h => by simp [laws_FnTitle.j1] at h, fun _ _ _ _ r h => by simp [laws_FnTitle.l1] at h⟩
  | k + 1 => by
    obtain ⟨ih0, ih1, ih2⟩ := laws_FnTitle.mono_l k
    refine ⟨?_, ?_, ?_⟩
    · intro y0 y1 y2 y3 y4
      unfold laws_FnTitle.l0
      repeat' first
      | (with_reducible exact ih0 _ _ _ _ _)
      | (with_reducible exact ih1 _ _ _ _)
      | (with_reducible exact ih2 _ _ _ _)
      | (with_reducible exact impl_Quoted.mono _ _)
      | (with_reducible exact laws_inlineASCII.mono _ _)
      | (with_reducible exact LeO.refl _)
      | (with_reducible exact LeO.none _)
      | (with_reducible refine LeO.ite ?_ ?_)
      | (with_reducible refine LeO.bind ?_ (fun _ => ?_))
      | exact ih0 _ _ _ _ _
      | exact ih1 _ _ _ _
      | exact ih2 _ _ _ _
      | exact impl_Quoted.mono _ _
      | exact laws_inlineASCII.mono _ _
      | exact LeO.none _
      | refine LeO.ite ?_ ?_
      | refine LeO.bind ?_ (fun _ => ?_)
    · intro y0 y1 y2 y3
      unfold laws_FnTitle.j1
      repeat' first
      | (with_reducible exact ih0 _ _ _ _ _)
      | (with_reducible exact ih1 _ _ _ _)
      | (with_reducible exact ih2 _ _ _ _)
      | (with_reducible exact impl_Quoted.mono _ _)
      | (with_reducible exact laws_inlineASCII.mono _ _)
      | (with_reducible exact LeO.refl _)
      | (with_reducible exact LeO.none _)
      | (with_reducible refine LeO.ite ?_ ?_)
      | (with_reducible refine LeO.bind ?_ (fun _ => ?_))
      | exact ih0 _ _ _ _ _
      | exact ih1 _ _ _ _
      | exact ih2 _ _ _ _
      | exact impl_Quoted.mono _ _
      | exact laws_inlineASCII.mono _ _
      | exact LeO.none _
      | refine LeO.ite ?_ ?_
      | refine LeO.bind ?_ (fun _ => ?_)
    · intro y0 y1 y2 y3
      unfold laws_FnTitle.l1
      repeat' first
      | (with_reducible exact ih0 _ _ _ _ _)
      | (with_reducible exact ih1 _ _ _ _)
      | (with_reducible exact ih2 _ _ _ _)
      | (with_reducible exact impl_Quoted.mono _ _)
      | (with_reducible exact laws_inlineASCII.mono _ _)
      | (with_reducible exact LeO.refl _)
      | (with_reducible exact LeO.none _)
      | (with_reducible refine LeO.ite ?_ ?_)
      | (with_reducible refine LeO.bind ?_ (fun _ => ?_))
      | exact ih0 _ _ _ _ _
      | exact ih1 _ _ _ _
      | exact ih2 _ _ _ _
      | exact impl_Quoted.mono _ _
      | exact laws_inlineASCII.mono _ _
      | exact LeO.none _
      | refine LeO.ite ?_ ?_
      | refine LeO.bind ?_ (fun _ => ?_)
theorem laws_FnTitle.mono : ∀ a0 k, LeO (laws_FnTitle.f k a0) (laws_FnTitle.f (k + 1) a0) := by
  intro a0 k
  obtain ⟨ih0, ih1, ih2⟩ := laws_FnTitle.mono_l k
  unfold laws_FnTitle.f
  repeat' first
      | (with_reducible exact ih0 _ _ _ _ _)
      | (with_reducible exact ih1 _ _ _ _)
      | (with_reducible exact ih2 _ _ _ _)
      | (with_reducible exact impl_Quoted.mono _ _)
      | (with_reducible exact laws_inlineASCII.mono _ _)
      | (with_reducible exact LeO.refl _)
      | (with_reducible exact LeO.none _)
      | (with_reducible refine LeO.ite ?_ ?_)
      | (with_reducible refine LeO.bind ?_ (fun _ => ?_))
      | exact ih0 _ _ _ _ _
      | exact ih1 _ _ _ _
      | exact ih2 _ _ _ _
      | exact impl_Quoted.mono _ _
      | exact laws_inlineASCII.mono _ _
      | exact LeO.none _
      | refine LeO.ite ?_ ?_
      | refine LeO.bind ?_ (fun _ => ?_)
set_option maxHeartbeats 8000000 in
set_option maxRecDepth 100000 in
theorem laws_FnTitle.calls (k : Nat) (a0 : ByteArray) (r : Bool) (w : World) (h : laws_FnTitle.f k a0 = some r) :
    Calls Try.prog 7 #[.string a0] w fun e w' => e = .returned (.bool r) ∧ Below w.heap.size w w' := by
  have HB := Aside0.mk (Below.refl w.heap.size w)
  have H : (if (a0.size : Int) > 2147483647 then (some true) else ((laws_inlineASCII.f k a0).bind fun t161 => (laws_FnTitle.l0 k t161 false false (t161.size : Int) 0))) = some r := h
  clear h
  by_cases c2 : (a0.size : Int) > 2147483647
  · rw [if_pos c2] at H
    have c2b0 : decide (2147483647 < (a0.size : Int)) = true := decide_eq_true c2
    have c2b1 : decide (2147483647 < a0.size) = true := decide_eq_true (by omega)
    clear c2
    obtain rfl := Option.some.inj H
    go_enter Try.func7, Try.ntmps7
    go_wp2
    repeat (go_quiet (fail); try go_wp2)
    go_ret
    exact ⟨by first | rfl | (simp [errW_none, errW_some] <;> rfl) | (simp [*, errW_none, errW_some] <;> rfl), by repeat (first | (with_reducible first | exact HB.out | apply below_alloc | apply pw_below_drewN | apply below_drew1) | exact HB.out)⟩
  · rw [if_neg c2] at H
    have c2b0 : decide (2147483647 < (a0.size : Int)) = false := decide_eq_false c2
    have c2b1 : decide (2147483647 < a0.size) = false := decide_eq_false (by omega)
    clear c2
    replace H := Option.bind_eq_some_iff.mp H
    obtain ⟨t161, A30, H⟩ := H
    replace H : (laws_FnTitle.l0 k t161 false false (t161.size : Int) 0) = some r := H
    have A3 := Aside0.mk A30
    clear A30
    have H' := Aside0.mk H
    clear H
    go_enter Try.func7, Try.ntmps7
    go_wp2_with (first | (go_at_call 16; (with_reducible refine (laws_inlineASCII.calls k a0 t161 _ A3.out).mono ?_); rintro e w4 ⟨rfl, hb⟩; have n0_ := Aside0.mk (below_step (by repeat (first | (with_reducible first | exact HB.out | apply below_alloc | apply pw_below_drewN | apply below_drew1) | exact HB.out)) hb); clear HB; have HB := n0_; clear n0_; (try clear hb); (try clear hb2); (try clear hk); (try clear hi)))
    repeat (go_quiet (first | (go_at_call 16; (with_reducible refine (laws_inlineASCII.calls k a0 t161 _ A3.out).mono ?_); rintro e w4 ⟨rfl, hb⟩; have n0_ := Aside0.mk (below_step (by repeat (first | (with_reducible first | exact HB.out | apply below_alloc | apply pw_below_drewN | apply below_drew1) | exact HB.out)) hb); clear HB; have HB := n0_; clear n0_; (try clear hb); (try clear hb2); (try clear hk); (try clear hi))); try go_wp2_with (first | (go_at_call 16; (with_reducible refine (laws_inlineASCII.calls k a0 t161 _ A3.out).mono ?_); rintro e w4 ⟨rfl, hb⟩; have n0_ := Aside0.mk (below_step (by repeat (first | (with_reducible first | exact HB.out | apply below_alloc | apply pw_below_drewN | apply below_drew1) | exact HB.out)) hb); clear HB; have HB := n0_; clear n0_; (try clear hb); (try clear hb2); (try clear hk); (try clear hi))))
    go_loopg [3, 4, 15] k (fun kq v3 v4 v15 w' => ∃ (x3_1 : Bool) (x4_1 : Bool) (x15_1 : Int), v3 = .bool x3_1 ∧ v4 = .bool x4_1 ∧ v15 = .int .i64 x15_1 ∧ Aside0 (laws_FnTitle.l0 kq t161 x3_1 x4_1 (t161.size : Int) x15_1 = some r) ∧ Aside0 (kq ≤ k) ∧ Aside0 (Below w.heap.size w w'))
    case atStart => exact ⟨(false), (false), (0), (by first | rfl | (simp; done) | (simp [*]; done)), (by first | rfl | (simp; done) | (simp [*]; done)), (by first | rfl | (simp; done) | (simp [*]; done)), H', ⟨Nat.le_refl _⟩, ⟨by repeat (first | (with_reducible first | exact HB.out | apply below_alloc | apply pw_below_drewN | apply below_drew1) | exact HB.out)⟩⟩
    case round =>
      clear H'
      try clear c2
      try clear c2b0
      try clear c2b1
      try clear p2
      obtain ⟨x3_1, x4_1, x15_1, rfl, rfl, rfl, HA, HK1, HB⟩ := hrel
      cases gk with
      | zero => exact absurd HA.out (by simp [laws_FnTitle.l0])
      | succ k1 =>
        have H := HA.out
        clear HA
        simp only [laws_FnTitle.l0] at H
        by_cases c5 : x15_1 < (t161.size : Int)
        · rw [if_pos c5] at H
          have c5b0 : decide (x15_1 < (t161.size : Int)) = true := decide_eq_true c5
          clear c5
          by_cases c6 : x3_1 = true
          · subst c6
            have H1 : (if x4_1 = true then (laws_FnTitle.l0 k1 t161 true true (t161.size : Int) (wrap64 (x15_1 + 1))) else (if 0 ≤ x15_1 then (if x15_1 < (t161.size : Int) then (laws_FnTitle.l0 k1 t161 true ((bt t161 x15_1) == 39) (t161.size : Int) (wrap64 (x15_1 + 1))) else (none)) else (none))) = some r := by rw [if_pos rfl] at H; exact H
            clear H
            have H := H1
            clear H1
            by_cases c7 : x4_1 = true
            · subst c7
              have H1 : (laws_FnTitle.l0 k1 t161 true true (t161.size : Int) (wrap64 (x15_1 + 1))) = some r := by rw [if_pos rfl] at H; exact H
              clear H
              have H := H1
              clear H1
              have H' := Aside0.mk H
              clear H
              go_wp2
              repeat (go_quiet (fail); try go_wp2)
              go_roundg k1
              case measure => have := HK1.out; omega
              case rel => exact ⟨(true), (true), (wrap64 (x15_1 + 1)), (by first | rfl | (simp; done) | (simp [*]; done)), (by first | rfl | (simp; done) | (simp [*]; done)), (by first | rfl | (simp; done) | (simp [*]; done)), H', ⟨by have := HK1.out; omega⟩, ⟨by repeat (first | (with_reducible first | exact HB.out | apply below_alloc | apply pw_below_drewN | apply below_drew1) | exact HB.out)⟩⟩
            · replace c7 := Bool.eq_false_iff.mpr c7
              subst c7
              have H1 : (if 0 ≤ x15_1 then (if x15_1 < (t161.size : Int) then (laws_FnTitle.l0 k1 t161 true ((bt t161 x15_1) == 39) (t161.size : Int) (wrap64 (x15_1 + 1))) else (none)) else (none)) = some r := by rw [if_neg (show ¬ (false = true) by decide)] at H; exact H
              clear H
              have H := H1
              clear H1
              by_cases c8 : 0 ≤ x15_1
              · rw [if_pos c8] at H
                have c8b0 : decide (0 ≤ x15_1) = true := decide_eq_true c8
                clear c8
                by_cases c9 : x15_1 < (t161.size : Int)
                · rw [if_pos c9] at H
                  have c9b0 : decide (x15_1 < (t161.size : Int)) = true := decide_eq_true c9
                  clear c9
                  have H' := Aside0.mk H
                  clear H
                  have p10 : 0 ≤ (x15_1 : Int) := of_decide_eq_true (by first | (with_reducible assumption) | assumption)
                  have q10 : x15_1 < (t161.size : Int) := of_decide_eq_true (by first | (with_reducible assumption) | assumption)
                  have hx10 := bt_at t161 x15_1
                  replace p10 := eq_true p10
                  replace q10 := eq_true q10
                  go_wp2
                  repeat (go_quiet (fail); try go_wp2)
                  go_roundg k1
                  case measure => have := HK1.out; omega
                  case rel => exact ⟨(true), (((bt t161 x15_1) == 39)), (wrap64 (x15_1 + 1)), (by first | rfl | (simp; done) | (simp [*]; done)), (by first | rfl | (simp; done) | (simp [*]; done)), (by first | rfl | (simp; done) | (simp [*]; done)), H', ⟨by have := HK1.out; omega⟩, ⟨by repeat (first | (with_reducible first | exact HB.out | apply below_alloc | apply pw_below_drewN | apply below_drew1) | exact HB.out)⟩⟩
                · rw [if_neg c9] at H
                  exact absurd H (by simp)
              · rw [if_neg c8] at H
                exact absurd H (by simp)
          · replace c6 := Bool.eq_false_iff.mpr c6
            subst c6
            have H1 : (if 0 ≤ x15_1 then (if x15_1 < (t161.size : Int) then (if x4_1 = true then (laws_FnTitle.l0 k1 t161 ((bt t161 x15_1) == 34) true (t161.size : Int) (wrap64 (x15_1 + 1))) else (laws_FnTitle.l0 k1 t161 ((bt t161 x15_1) == 34) ((bt t161 x15_1) == 39) (t161.size : Int) (wrap64 (x15_1 + 1)))) else (none)) else (none)) = some r := by rw [if_neg (show ¬ (false = true) by decide)] at H; exact H
            clear H
            have H := H1
            clear H1
            by_cases c11 : 0 ≤ x15_1
            · rw [if_pos c11] at H
              have c11b0 : decide (0 ≤ x15_1) = true := decide_eq_true c11
              clear c11
              by_cases c12 : x15_1 < (t161.size : Int)
              · rw [if_pos c12] at H
                have c12b0 : decide (x15_1 < (t161.size : Int)) = true := decide_eq_true c12
                clear c12
                by_cases c14 : x4_1 = true
                · subst c14
                  have H1 : (laws_FnTitle.l0 k1 t161 ((bt t161 x15_1) == 34) true (t161.size : Int) (wrap64 (x15_1 + 1))) = some r := by rw [if_pos rfl] at H; exact H
                  clear H
                  have H := H1
                  clear H1
                  have H' := Aside0.mk H
                  clear H
                  have p13 : 0 ≤ (x15_1 : Int) := of_decide_eq_true (by first | (with_reducible assumption) | assumption)
                  have q13 : x15_1 < (t161.size : Int) := of_decide_eq_true (by first | (with_reducible assumption) | assumption)
                  have hx13 := bt_at t161 x15_1
                  replace p13 := eq_true p13
                  replace q13 := eq_true q13
                  go_wp2
                  repeat (go_quiet (fail); try go_wp2)
                  go_roundg k1
                  case measure => have := HK1.out; omega
                  case rel => exact ⟨(((bt t161 x15_1) == 34)), (true), (wrap64 (x15_1 + 1)), (by first | rfl | (simp; done) | (simp [*]; done)), (by first | rfl | (simp; done) | (simp [*]; done)), (by first | rfl | (simp; done) | (simp [*]; done)), H', ⟨by have := HK1.out; omega⟩, ⟨by repeat (first | (with_reducible first | exact HB.out | apply below_alloc | apply pw_below_drewN | apply below_drew1) | exact HB.out)⟩⟩
                · replace c14 := Bool.eq_false_iff.mpr c14
                  subst c14
                  have H1 : (laws_FnTitle.l0 k1 t161 ((bt t161 x15_1) == 34) ((bt t161 x15_1) == 39) (t161.size : Int) (wrap64 (x15_1 + 1))) = some r := by rw [if_neg (show ¬ (false = true) by decide)] at H; exact H
                  clear H
                  have H := H1
                  clear H1
                  have H' := Aside0.mk H
                  clear H
                  have p13 : 0 ≤ (x15_1 : Int) := of_decide_eq_true (by first | (with_reducible assumption) | assumption)
                  have q13 : x15_1 < (t161.size : Int) := of_decide_eq_true (by first | (with_reducible assumption) | assumption)
                  have hx13 := bt_at t161 x15_1
                  replace p13 := eq_true p13
                  replace q13 := eq_true q13
                  have p15 : 0 ≤ (x15_1 : Int) := of_decide_eq_true (by first | (with_reducible assumption) | assumption)
                  have q15 : x15_1 < (t161.size : Int) := of_decide_eq_true (by first | (with_reducible assumption) | assumption)
                  have hx15 := bt_at t161 x15_1
                  replace p15 := eq_true p15
                  replace q15 := eq_true q15
                  go_wp2
                  repeat (go_quiet (fail); try go_wp2)
                  go_roundg k1
                  case measure => have := HK1.out; omega
                  case rel => exact ⟨(((bt t161 x15_1) == 34)), (((bt t161 x15_1) == 39)), (wrap64 (x15_1 + 1)), (by first | rfl | (simp; done) | (simp [*]; done)), (by first | rfl | (simp; done) | (simp [*]; done)), (by first | rfl | (simp; done) | (simp [*]; done)), H', ⟨by have := HK1.out; omega⟩, ⟨by repeat (first | (with_reducible first | exact HB.out | apply below_alloc | apply pw_below_drewN | apply below_drew1) | exact HB.out)⟩⟩
              · rw [if_neg c12] at H
                exact absurd H (by simp)
            · rw [if_neg c11] at H
              exact absurd H (by simp)
        · rw [if_neg c5] at H
          have c5b0 : decide (x15_1 < (t161.size : Int)) = false := decide_eq_false c5
          clear c5
          by_cases c16 : 1 + t161.size ≤ 9223372036854775807
          · rw [if_pos c16] at H
            have c16b0 := eq_true c16
            have c16b1 : decide (1 + t161.size ≤ 9223372036854775807) = true := decide_eq_true c16
            try have c16b2 : (9223372036854775807 < 1 + t161.size) = False := eq_false (Nat.not_lt.2 c16)
            by_cases c17 : ((⟨#[34]⟩ : ByteArray) ++ t161).size + 1 ≤ 9223372036854775807
            · rw [if_pos c17] at H
              have c17b0 := eq_true c17
              have c17b1 : decide (((⟨#[34]⟩ : ByteArray) ++ t161).size + 1 ≤ 9223372036854775807) = true := decide_eq_true c17
              try have c17b2 : (9223372036854775807 < ((⟨#[34]⟩ : ByteArray) ++ t161).size + 1) = False := eq_false (Nat.not_lt.2 c17)
              try have c17b3 : (9223372036854775807 < 1 + t161.size + 1) = False := eq_false (Nat.not_lt.2 (by have z_ := c17; simp only [ByteArray.size_append] at z_; exact z_))
              by_cases c18 : t161.toList = ([] : List UInt8)
              · rw [if_pos c18] at H
                have c18b0 : (t161.toList == ([] : List UInt8)) = true := beq_iff_eq.mpr c18
                have c18b1 : (t161.toList != ([] : List UInt8)) = false := bne_eq_false_iff_eq.mpr c18
                clear c18
                replace H := Option.bind_eq_some_iff.mp H
                obtain ⟨t162, A190, H⟩ := H
                replace H : (some (t162.toList == ([] : List UInt8))) = some r := H
                have A19 := Aside0.mk A190
                clear A190
                obtain rfl := Option.some.inj H
                go_wp2_with (first | (go_at_call 17; (with_reducible refine (impl_Quoted.calls k1 t161 t162 _ A19.out).mono ?_); rintro e w20 ⟨rfl, hb⟩; have n0_ := Aside0.mk (below_step (by repeat (first | (with_reducible first | exact HB.out | apply below_alloc | apply pw_below_drewN | apply below_drew1) | exact HB.out)) hb); clear HB; have HB := n0_; clear n0_; (try clear hb); (try clear hb2); (try clear hk); (try clear hi)))
                repeat (go_quiet (first | (go_at_call 17; (with_reducible refine (impl_Quoted.calls k1 t161 t162 _ A19.out).mono ?_); rintro e w20 ⟨rfl, hb⟩; have n0_ := Aside0.mk (below_step (by repeat (first | (with_reducible first | exact HB.out | apply below_alloc | apply pw_below_drewN | apply below_drew1) | exact HB.out)) hb); clear HB; have HB := n0_; clear n0_; (try clear hb); (try clear hb2); (try clear hk); (try clear hi))); try go_wp2_with (first | (go_at_call 17; (with_reducible refine (impl_Quoted.calls k1 t161 t162 _ A19.out).mono ?_); rintro e w20 ⟨rfl, hb⟩; have n0_ := Aside0.mk (below_step (by repeat (first | (with_reducible first | exact HB.out | apply below_alloc | apply pw_below_drewN | apply below_drew1) | exact HB.out)) hb); clear HB; have HB := n0_; clear n0_; (try clear hb); (try clear hb2); (try clear hk); (try clear hi))))
                go_ret
                exact ⟨by first | rfl | (simp [errW_none, errW_some] <;> rfl) | (simp [*, errW_none, errW_some] <;> rfl), by repeat (first | (with_reducible first | exact HB.out | apply below_alloc | apply pw_below_drewN | apply below_drew1) | exact HB.out)⟩
              · rw [if_neg c18] at H
                have c18b0 : (t161.toList == ([] : List UInt8)) = false := beq_eq_false_iff_ne.mpr c18
                have c18b1 : (t161.toList != ([] : List UInt8)) = true := bne_iff_ne.mpr c18
                have HC21 := Aside0.mk H
                clear H
                go_upto_region 13 with (fail)
                repeat (go_quiet (fail); go_upto_region 13 with (fail))
                go_cut [39] (fun v39 wc => ∃ (kq : Nat) (x39_20 : Bool), v39 = .bool x39_20 ∧ Aside0 (laws_FnTitle.j1 kq t161 x3_1 (((⟨#[34]⟩ : ByteArray) ++ t161) ++ (⟨#[34]⟩ : ByteArray)) x39_20 = some r) ∧ Aside0 (kq ≤ k1) ∧ Aside0 (Below w.heap.size w wc))
                case first =>
                  have H := HC21.out
                  clear HC21
                  by_cases c22 : x3_1 = true
                  · subst c22
                    have H1 : (laws_FnTitle.j1 k1 t161 true (((⟨#[34]⟩ : ByteArray) ++ t161) ++ (⟨#[34]⟩ : ByteArray)) x4_1) = some r := by rw [if_pos rfl] at H; exact H
                    clear H
                    have H := H1
                    clear H1
                    have H' := Aside0.mk H
                    clear H
                    go_wp2
                    repeat (go_quiet (fail); try go_wp2)
                    go_meet
                    case rel => exact ⟨_, (x4_1), (by first | rfl | (simp; done) | (simp [*]; done)), H', ⟨by have := HK1.out; first | omega | exact Nat.le_refl _⟩, ⟨by repeat (first | (with_reducible first | exact HB.out | apply below_alloc | apply pw_below_drewN | apply below_drew1) | exact HB.out)⟩⟩
                  · replace c22 := Bool.eq_false_iff.mpr c22
                    subst c22
                    have H1 : (laws_FnTitle.j1 k1 t161 false (((⟨#[34]⟩ : ByteArray) ++ t161) ++ (⟨#[34]⟩ : ByteArray)) false) = some r := by rw [if_neg (show ¬ (false = true) by decide)] at H; exact H
                    clear H
                    have H := H1
                    clear H1
                    have H' := Aside0.mk H
                    clear H
                    go_wp2
                    repeat (go_quiet (fail); try go_wp2)
                    go_meet
                    case rel => exact ⟨_, (false), (by first | rfl | (simp; done) | (simp [*]; done)), H', ⟨by have := HK1.out; first | omega | exact Nat.le_refl _⟩, ⟨by repeat (first | (with_reducible first | exact HB.out | apply below_alloc | apply pw_below_drewN | apply below_drew1) | exact HB.out)⟩⟩
                case rest =>
                  clear HC21
                  try clear c1
                  try clear p1
                  try clear q1
                  try clear hx1
                  try clear c2
                  try clear c2b0
                  try clear c2b1
                  try clear p2
                  try clear c5
                  try clear c5b0
                  try clear c6
                  try clear p6
                  try clear c7
                  try clear c8
                  try clear c8b0
                  try clear c9
                  try clear c9b0
                  try clear p10
                  try clear q10
                  try clear hx10
                  try clear c11
                  try clear c11b0
                  try clear c12
                  try clear c12b0
                  try clear p13
                  try clear q13
                  try clear hx13
                  try clear c14
                  try clear p15
                  try clear q15
                  try clear hx15
                  try clear c16
                  try clear c16b0
                  try clear c16b1
                  try clear c16b2
                  try clear c17
                  try clear c17b0
                  try clear c17b1
                  try clear c17b2
                  try clear c18
                  try clear c18b0
                  try clear c18b1
                  try clear c22
                  try clear p10
                  try clear p13
                  try clear p15
                  try clear p2
                  try clear q10
                  try clear q13
                  try clear q15
                  obtain ⟨kq, x39_20, rfl, HA, HJ20, HB⟩ := hcut
                  cases kq with
                  | zero => exact absurd HA.out (by simp [laws_FnTitle.j1])
                  | succ kj20 =>
                    have H := HA.out
                    clear HA
                    simp only [laws_FnTitle.j1] at H
                    by_cases c23 : x39_20 = true
                    · subst c23
                      have H1 : (laws_FnTitle.l1 kj20 t161 (⟨#[34]⟩ : ByteArray) (t161.size : Int) 0) = some r := by rw [if_pos rfl] at H; exact H
                      clear H
                      have H := H1
                      clear H1
                      have H' := Aside0.mk H
                      clear H
                      go_wp2
                      repeat (go_quiet (fail); try go_wp2)
                      go_loopg [6, 46] kj20 (fun kq v6 v46 w' => ∃ (x6_3 : ByteArray) (x46_3 : Int), v6 = .string x6_3 ∧ v46 = .int .i64 x46_3 ∧ Aside0 (laws_FnTitle.l1 kq t161 x6_3 (t161.size : Int) x46_3 = some r) ∧ Aside0 (kq ≤ kj20) ∧ Aside0 (Below w.heap.size w w'))
                      case atStart => exact ⟨((⟨#[34]⟩ : ByteArray)), (0), (by first | rfl | (simp; done) | (simp [*]; done)), (by first | rfl | (simp; done) | (simp [*]; done)), H', ⟨Nat.le_refl _⟩, ⟨by repeat (first | (with_reducible first | exact HB.out | apply below_alloc | apply pw_below_drewN | apply below_drew1) | exact HB.out)⟩⟩
                      case round =>
                        clear H'
                        try clear c1
                        try clear p1
                        try clear q1
                        try clear hx1
                        try clear c2
                        try clear c2b0
                        try clear c2b1
                        try clear p2
                        try clear c5
                        try clear c5b0
                        try clear c6
                        try clear p6
                        try clear c7
                        try clear c8
                        try clear c8b0
                        try clear c9
                        try clear c9b0
                        try clear p10
                        try clear q10
                        try clear hx10
                        try clear c11
                        try clear c11b0
                        try clear c12
                        try clear c12b0
                        try clear p13
                        try clear q13
                        try clear hx13
                        try clear c14
                        try clear p15
                        try clear q15
                        try clear hx15
                        try clear c16
                        try clear c16b0
                        try clear c16b1
                        try clear c16b2
                        try clear c17
                        try clear c17b0
                        try clear c17b1
                        try clear c17b2
                        try clear c18
                        try clear c18b0
                        try clear c18b1
                        try clear c22
                        try clear c23
                        try clear p1
                        try clear p10
                        try clear p13
                        try clear p15
                        try clear p2
                        try clear p6
                        try clear q1
                        try clear q10
                        try clear q13
                        try clear q15
                        obtain ⟨x6_3, x46_3, rfl, rfl, HA, HK3, HB⟩ := hrel
                        cases gk with
                        | zero => exact absurd HA.out (by simp [laws_FnTitle.l1])
                        | succ k3 =>
                          have H := HA.out
                          clear HA
                          simp only [laws_FnTitle.l1] at H
                          by_cases c24 : x46_3 < (t161.size : Int)
                          · rw [if_pos c24] at H
                            have c24b0 : decide (x46_3 < (t161.size : Int)) = true := decide_eq_true c24
                            clear c24
                            by_cases c25 : 0 ≤ x46_3
                            · rw [if_pos c25] at H
                              have c25b0 : decide (0 ≤ x46_3) = true := decide_eq_true c25
                              clear c25
                              by_cases c26 : x46_3 < (t161.size : Int)
                              · rw [if_pos c26] at H
                                have c26b0 : decide (x46_3 < (t161.size : Int)) = true := decide_eq_true c26
                                clear c26
                                by_cases c28 : (bt t161 x46_3) = 34
                                · rw [if_pos c28] at H
                                  have c28b0 : ((bt t161 x46_3) == 34) = true := beq_iff_eq.mpr c28
                                  have c28b1 : ((bt t161 x46_3) != 34) = false := bne_eq_false_iff_eq.mpr c28
                                  clear c28
                                  by_cases c29 : x6_3.size + 1 ≤ 9223372036854775807
                                  · rw [if_pos c29] at H
                                    have c29b0 := eq_true c29
                                    have c29b1 : decide (x6_3.size + 1 ≤ 9223372036854775807) = true := decide_eq_true c29
                                    try have c29b2 : (9223372036854775807 < x6_3.size + 1) = False := eq_false (Nat.not_lt.2 c29)
                                    have c30b0 := eq_true (of_decide_eq_true (by first | (with_reducible assumption) | assumption) : 0 ≤ x46_3)
                                    by_cases c31 : x46_3 ≤ (wrap64 (x46_3 + 1))
                                    · rw [if_pos c31] at H
                                      have c31b0 := eq_true c31
                                      have c31b1 : decide (x46_3 ≤ (wrap64 (x46_3 + 1))) = true := decide_eq_true c31
                                      by_cases c32 : (wrap64 (x46_3 + 1)) ≤ (t161.size : Int)
                                      · rw [if_pos c32] at H
                                        have c32b0 := eq_true c32
                                        have c32b1 : decide ((wrap64 (x46_3 + 1)) ≤ (t161.size : Int)) = true := decide_eq_true c32
                                        by_cases c33 : (x6_3 ++ (⟨#[92]⟩ : ByteArray)).size + (t161.extract (x46_3 : Int).toNat ((wrap64 (x46_3 + 1)) : Int).toNat).size ≤ 9223372036854775807
                                        · rw [if_pos c33] at H
                                          have c33b0 := eq_true c33
                                          have c33b1 : decide ((x6_3 ++ (⟨#[92]⟩ : ByteArray)).size + (t161.extract (x46_3 : Int).toNat ((wrap64 (x46_3 + 1)) : Int).toNat).size ≤ 9223372036854775807) = true := decide_eq_true c33
                                          try have c33b2 : (9223372036854775807 < (x6_3 ++ (⟨#[92]⟩ : ByteArray)).size + (t161.extract (x46_3 : Int).toNat ((wrap64 (x46_3 + 1)) : Int).toNat).size) = False := eq_false (Nat.not_lt.2 c33)
                                          try have c33b3 : (9223372036854775807 < x6_3.size + 1 + (t161.extract (x46_3 : Int).toNat ((wrap64 (x46_3 + 1)) : Int).toNat).size) = False := eq_false (Nat.not_lt.2 (by have z_ := c33; simp only [ByteArray.size_append] at z_; exact z_))
                                          have H' := Aside0.mk H
                                          clear H
                                          have p27 : 0 ≤ (x46_3 : Int) := of_decide_eq_true (by first | (with_reducible assumption) | assumption)
                                          have q27 : x46_3 < (t161.size : Int) := of_decide_eq_true (by first | (with_reducible assumption) | assumption)
                                          have hx27 := bt_at t161 x46_3
                                          replace p27 := eq_true p27
                                          replace q27 := eq_true q27
                                          go_wp2
                                          repeat (go_quiet (fail); try go_wp2)
                                          go_roundg k3
                                          case measure => have := HK1.out; have := HJ20.out; have := HK3.out; omega
                                          case rel => exact ⟨((x6_3 ++ (⟨#[92]⟩ : ByteArray)) ++ (t161.extract (x46_3 : Int).toNat ((wrap64 (x46_3 + 1)) : Int).toNat)), (wrap64 (x46_3 + 1)), (by first | rfl | (simp; done) | (simp [*]; done)), (by first | rfl | (simp; done) | (simp [*]; done)), H', ⟨by have := HK1.out; have := HJ20.out; have := HK3.out; omega⟩, ⟨by repeat (first | (with_reducible first | exact HB.out | apply below_alloc | apply pw_below_drewN | apply below_drew1) | exact HB.out)⟩⟩
                                        · rw [if_neg c33] at H
                                          exact absurd H (by simp)
                                      · rw [if_neg c32] at H
                                        exact absurd H (by simp)
                                    · rw [if_neg c31] at H
                                      exact absurd H (by simp)
                                  · rw [if_neg c29] at H
                                    exact absurd H (by simp)
                                · rw [if_neg c28] at H
                                  have c28b0 : ((bt t161 x46_3) == 34) = false := beq_eq_false_iff_ne.mpr c28
                                  have c28b1 : ((bt t161 x46_3) != 34) = true := bne_iff_ne.mpr c28
                                  have c34b0 := eq_true (of_decide_eq_true (by first | (with_reducible assumption) | assumption) : 0 ≤ x46_3)
                                  by_cases c35 : x46_3 ≤ (wrap64 (x46_3 + 1))
                                  · rw [if_pos c35] at H
                                    have c35b0 := eq_true c35
                                    have c35b1 : decide (x46_3 ≤ (wrap64 (x46_3 + 1))) = true := decide_eq_true c35
                                    by_cases c36 : (wrap64 (x46_3 + 1)) ≤ (t161.size : Int)
                                    · rw [if_pos c36] at H
                                      have c36b0 := eq_true c36
                                      have c36b1 : decide ((wrap64 (x46_3 + 1)) ≤ (t161.size : Int)) = true := decide_eq_true c36
                                      by_cases c37 : x6_3.size + (t161.extract (x46_3 : Int).toNat ((wrap64 (x46_3 + 1)) : Int).toNat).size ≤ 9223372036854775807
                                      · rw [if_pos c37] at H
                                        have c37b0 := eq_true c37
                                        have c37b1 : decide (x6_3.size + (t161.extract (x46_3 : Int).toNat ((wrap64 (x46_3 + 1)) : Int).toNat).size ≤ 9223372036854775807) = true := decide_eq_true c37
                                        try have c37b2 : (9223372036854775807 < x6_3.size + (t161.extract (x46_3 : Int).toNat ((wrap64 (x46_3 + 1)) : Int).toNat).size) = False := eq_false (Nat.not_lt.2 c37)
                                        have H' := Aside0.mk H
                                        clear H
                                        have p27 : 0 ≤ (x46_3 : Int) := of_decide_eq_true (by first | (with_reducible assumption) | assumption)
                                        have q27 : x46_3 < (t161.size : Int) := of_decide_eq_true (by first | (with_reducible assumption) | assumption)
                                        have hx27 := bt_at t161 x46_3
                                        replace p27 := eq_true p27
                                        replace q27 := eq_true q27
                                        go_wp2
                                        repeat (go_quiet (fail); try go_wp2)
                                        go_roundg k3
                                        case measure => have := HK1.out; have := HJ20.out; have := HK3.out; omega
                                        case rel => exact ⟨(x6_3 ++ (t161.extract (x46_3 : Int).toNat ((wrap64 (x46_3 + 1)) : Int).toNat)), (wrap64 (x46_3 + 1)), (by first | rfl | (simp; done) | (simp [*]; done)), (by first | rfl | (simp; done) | (simp [*]; done)), H', ⟨by have := HK1.out; have := HJ20.out; have := HK3.out; omega⟩, ⟨by repeat (first | (with_reducible first | exact HB.out | apply below_alloc | apply pw_below_drewN | apply below_drew1) | exact HB.out)⟩⟩
                                      · rw [if_neg c37] at H
                                        exact absurd H (by simp)
                                    · rw [if_neg c36] at H
                                      exact absurd H (by simp)
                                  · rw [if_neg c35] at H
                                    exact absurd H (by simp)
                              · rw [if_neg c26] at H
                                exact absurd H (by simp)
                            · rw [if_neg c25] at H
                              exact absurd H (by simp)
                          · rw [if_neg c24] at H
                            have c24b0 : decide (x46_3 < (t161.size : Int)) = false := decide_eq_false c24
                            clear c24
                            by_cases c38 : x6_3.size + 1 ≤ 9223372036854775807
                            · rw [if_pos c38] at H
                              have c38b0 := eq_true c38
                              have c38b1 : decide (x6_3.size + 1 ≤ 9223372036854775807) = true := decide_eq_true c38
                              try have c38b2 : (9223372036854775807 < x6_3.size + 1) = False := eq_false (Nat.not_lt.2 c38)
                              replace H := Option.bind_eq_some_iff.mp H
                              obtain ⟨t163, A390, H⟩ := H
                              replace H : (some (t163.toList == (x6_3 ++ (⟨#[34]⟩ : ByteArray)).toList)) = some r := H
                              have A39 := Aside0.mk A390
                              clear A390
                              obtain rfl := Option.some.inj H
                              go_wp2_with (first | (go_at_call 17; (with_reducible refine (impl_Quoted.calls k3 t161 t163 _ A39.out).mono ?_); rintro e w40 ⟨rfl, hb⟩; have n0_ := Aside0.mk (below_step (by repeat (first | (with_reducible first | exact HB.out | apply below_alloc | apply pw_below_drewN | apply below_drew1) | exact HB.out)) hb); clear HB; have HB := n0_; clear n0_; (try clear hb); (try clear hb2); (try clear hk); (try clear hi)))
                              repeat (go_quiet (first | (go_at_call 17; (with_reducible refine (impl_Quoted.calls k3 t161 t163 _ A39.out).mono ?_); rintro e w40 ⟨rfl, hb⟩; have n0_ := Aside0.mk (below_step (by repeat (first | (with_reducible first | exact HB.out | apply below_alloc | apply pw_below_drewN | apply below_drew1) | exact HB.out)) hb); clear HB; have HB := n0_; clear n0_; (try clear hb); (try clear hb2); (try clear hk); (try clear hi))); try go_wp2_with (first | (go_at_call 17; (with_reducible refine (impl_Quoted.calls k3 t161 t163 _ A39.out).mono ?_); rintro e w40 ⟨rfl, hb⟩; have n0_ := Aside0.mk (below_step (by repeat (first | (with_reducible first | exact HB.out | apply below_alloc | apply pw_below_drewN | apply below_drew1) | exact HB.out)) hb); clear HB; have HB := n0_; clear n0_; (try clear hb); (try clear hb2); (try clear hk); (try clear hi))))
                              go_ret
                              exact ⟨by first | rfl | (simp [errW_none, errW_some] <;> rfl) | (simp [*, errW_none, errW_some] <;> rfl), by repeat (first | (with_reducible first | exact HB.out | apply below_alloc | apply pw_below_drewN | apply below_drew1) | exact HB.out)⟩
                            · rw [if_neg c38] at H
                              exact absurd H (by simp)
                    · replace c23 := Bool.eq_false_iff.mpr c23
                      subst c23
                      have H1 : (if x3_1 = true then (if 1 + t161.size ≤ 9223372036854775807 then (if ((⟨#[39]⟩ : ByteArray) ++ t161).size + 1 ≤ 9223372036854775807 then ((impl_Quoted.f kj20 t161).bind fun t164 => (some (t164.toList == (((⟨#[39]⟩ : ByteArray) ++ t161) ++ (⟨#[39]⟩ : ByteArray)).toList))) else (none)) else (none)) else ((impl_Quoted.f kj20 t161).bind fun t165 => (some (t165.toList == (((⟨#[34]⟩ : ByteArray) ++ t161) ++ (⟨#[34]⟩ : ByteArray)).toList)))) = some r := by rw [if_neg (show ¬ (false = true) by decide)] at H; exact H
                      clear H
                      have H := H1
                      clear H1
                      by_cases c41 : x3_1 = true
                      · subst c41
                        have H1 : (if 1 + t161.size ≤ 9223372036854775807 then (if ((⟨#[39]⟩ : ByteArray) ++ t161).size + 1 ≤ 9223372036854775807 then ((impl_Quoted.f kj20 t161).bind fun t164 => (some (t164.toList == (((⟨#[39]⟩ : ByteArray) ++ t161) ++ (⟨#[39]⟩ : ByteArray)).toList))) else (none)) else (none)) = some r := by rw [if_pos rfl] at H; exact H
                        clear H
                        have H := H1
                        clear H1
                        by_cases c42 : 1 + t161.size ≤ 9223372036854775807
                        · rw [if_pos c42] at H
                          have c42b0 := eq_true c42
                          have c42b1 : decide (1 + t161.size ≤ 9223372036854775807) = true := decide_eq_true c42
                          try have c42b2 : (9223372036854775807 < 1 + t161.size) = False := eq_false (Nat.not_lt.2 c42)
                          by_cases c43 : ((⟨#[39]⟩ : ByteArray) ++ t161).size + 1 ≤ 9223372036854775807
                          · rw [if_pos c43] at H
                            have c43b0 := eq_true c43
                            have c43b1 : decide (((⟨#[39]⟩ : ByteArray) ++ t161).size + 1 ≤ 9223372036854775807) = true := decide_eq_true c43
                            try have c43b2 : (9223372036854775807 < ((⟨#[39]⟩ : ByteArray) ++ t161).size + 1) = False := eq_false (Nat.not_lt.2 c43)
                            try have c43b3 : (9223372036854775807 < 1 + t161.size + 1) = False := eq_false (Nat.not_lt.2 (by have z_ := c43; simp only [ByteArray.size_append] at z_; exact z_))
                            replace H := Option.bind_eq_some_iff.mp H
                            obtain ⟨t164, A440, H⟩ := H
                            replace H : (some (t164.toList == (((⟨#[39]⟩ : ByteArray) ++ t161) ++ (⟨#[39]⟩ : ByteArray)).toList)) = some r := H
                            have A44 := Aside0.mk A440
                            clear A440
                            obtain rfl := Option.some.inj H
                            go_wp2_with (first | (go_at_call 17; (with_reducible refine (impl_Quoted.calls kj20 t161 t164 _ A44.out).mono ?_); rintro e w45 ⟨rfl, hb⟩; have n0_ := Aside0.mk (below_step (by repeat (first | (with_reducible first | exact HB.out | apply below_alloc | apply pw_below_drewN | apply below_drew1) | exact HB.out)) hb); clear HB; have HB := n0_; clear n0_; (try clear hb); (try clear hb2); (try clear hk); (try clear hi)))
                            repeat (go_quiet (first | (go_at_call 17; (with_reducible refine (impl_Quoted.calls kj20 t161 t164 _ A44.out).mono ?_); rintro e w45 ⟨rfl, hb⟩; have n0_ := Aside0.mk (below_step (by repeat (first | (with_reducible first | exact HB.out | apply below_alloc | apply pw_below_drewN | apply below_drew1) | exact HB.out)) hb); clear HB; have HB := n0_; clear n0_; (try clear hb); (try clear hb2); (try clear hk); (try clear hi))); try go_wp2_with (first | (go_at_call 17; (with_reducible refine (impl_Quoted.calls kj20 t161 t164 _ A44.out).mono ?_); rintro e w45 ⟨rfl, hb⟩; have n0_ := Aside0.mk (below_step (by repeat (first | (with_reducible first | exact HB.out | apply below_alloc | apply pw_below_drewN | apply below_drew1) | exact HB.out)) hb); clear HB; have HB := n0_; clear n0_; (try clear hb); (try clear hb2); (try clear hk); (try clear hi))))
                            go_ret
                            exact ⟨by first | rfl | (simp [errW_none, errW_some] <;> rfl) | (simp [*, errW_none, errW_some] <;> rfl), by repeat (first | (with_reducible first | exact HB.out | apply below_alloc | apply pw_below_drewN | apply below_drew1) | exact HB.out)⟩
                          · rw [if_neg c43] at H
                            exact absurd H (by simp)
                        · rw [if_neg c42] at H
                          exact absurd H (by simp)
                      · replace c41 := Bool.eq_false_iff.mpr c41
                        subst c41
                        have H1 : ((impl_Quoted.f kj20 t161).bind fun t165 => (some (t165.toList == (((⟨#[34]⟩ : ByteArray) ++ t161) ++ (⟨#[34]⟩ : ByteArray)).toList))) = some r := by rw [if_neg (show ¬ (false = true) by decide)] at H; exact H
                        clear H
                        have H := H1
                        clear H1
                        replace H := Option.bind_eq_some_iff.mp H
                        obtain ⟨t165, A460, H⟩ := H
                        replace H : (some (t165.toList == (((⟨#[34]⟩ : ByteArray) ++ t161) ++ (⟨#[34]⟩ : ByteArray)).toList)) = some r := H
                        have A46 := Aside0.mk A460
                        clear A460
                        obtain rfl := Option.some.inj H
                        go_wp2_with (first | (go_at_call 17; (with_reducible refine (impl_Quoted.calls kj20 t161 t165 _ A46.out).mono ?_); rintro e w47 ⟨rfl, hb⟩; have n0_ := Aside0.mk (below_step (by repeat (first | (with_reducible first | exact HB.out | apply below_alloc | apply pw_below_drewN | apply below_drew1) | exact HB.out)) hb); clear HB; have HB := n0_; clear n0_; (try clear hb); (try clear hb2); (try clear hk); (try clear hi)))
                        repeat (go_quiet (first | (go_at_call 17; (with_reducible refine (impl_Quoted.calls kj20 t161 t165 _ A46.out).mono ?_); rintro e w47 ⟨rfl, hb⟩; have n0_ := Aside0.mk (below_step (by repeat (first | (with_reducible first | exact HB.out | apply below_alloc | apply pw_below_drewN | apply below_drew1) | exact HB.out)) hb); clear HB; have HB := n0_; clear n0_; (try clear hb); (try clear hb2); (try clear hk); (try clear hi))); try go_wp2_with (first | (go_at_call 17; (with_reducible refine (impl_Quoted.calls kj20 t161 t165 _ A46.out).mono ?_); rintro e w47 ⟨rfl, hb⟩; have n0_ := Aside0.mk (below_step (by repeat (first | (with_reducible first | exact HB.out | apply below_alloc | apply pw_below_drewN | apply below_drew1) | exact HB.out)) hb); clear HB; have HB := n0_; clear n0_; (try clear hb); (try clear hb2); (try clear hk); (try clear hi))))
                        go_ret
                        exact ⟨by first | rfl | (simp [errW_none, errW_some] <;> rfl) | (simp [*, errW_none, errW_some] <;> rfl), by repeat (first | (with_reducible first | exact HB.out | apply below_alloc | apply pw_below_drewN | apply below_drew1) | exact HB.out)⟩
            · rw [if_neg c17] at H
              exact absurd H (by simp)
          · rw [if_neg c16] at H
            exact absurd H (by simp)

/-- THE ONE PURE STATEMENT of laws_FnTitle: yours. -/
def laws_FnTitle.Pure : Prop := ∀ (a0 : ByteArray), a0.size ≤ 140737488351232 → ∃ k, laws_FnTitle.f k a0 = some true
theorem laws_FnTitle.walk (P : laws_FnTitle.Pure) (a0 : ByteArray) (w : World) (w0 : a0.size ≤ 140737488351232) :
    Calls Try.prog 7 #[.string a0] w fun e w' => e = .returned (.bool true) ∧ Below w.heap.size w w' := by
  obtain ⟨k, h⟩ := P a0 w0
  refine (laws_FnTitle.calls k a0 true w h).mono ?_
  rintro e w' ⟨rfl, hd⟩
  exact ⟨rfl, hd⟩

end Go.Proofs.Ytgkdpjlmklhjaaa.PFnTitle
