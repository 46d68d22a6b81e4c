/- Printed by the program extprint.py of this session, out of the kit's print and contracts of this session's own; Lean checks it. -/
import Derived.Test.YtgkdpjlmklhjaaaEFnWidthsx0
import Derived.Test.YtgkdpjlmklhjaaaRunesXFnWidths
namespace Go.Proofs.Ytgkdpjlmklhjaaa.PFnWidths
open Go.RowKit Go.Proofs.YtgkdpjlmklhjaaaW.PrintWords Go.Proofs.YtgkdpjlmklhjaaaW.PrintLast Go.Proofs.YtgkdpjlmklhjaaaW.PrintMore
attribute [local go_sem] max2_int min2_int max_two min_two max_three min_three max_four min_four   -- for this text's walks alone
set_option linter.unusedVariables false
set_option linter.unusedSimpArgs false

/-! ### laws_zzFits5: function 21 -/
def laws_zzFits5.l0 : Nat → List ByteArray → Int → Int → Option (Bool)
  | 0, _, _, _ => none
  | k + 1, x8, x9, x10 => if x10 < x9 then (if 0 ≤ x10 then (if x10 < (x8.length : Int) then (if ((rdOf ByteArray.empty x8 x10).size : Int) > 2147483647 then (some false) else (laws_zzFits5.l0 k x8 x9 (wrap64 (x10 + 1)))) else (none)) else (none)) else (some true)
def laws_zzFits5.f (k : Nat) (l0 : List ByteArray) : Option (Bool) := if (l0.length : Int) > 2147483647 then (some false) else (laws_zzFits5.l0 k l0 (l0.length : Int) 0)
theorem laws_zzFits5.mono_l : ∀ k, (∀ y0 y1 y2, LeO (laws_zzFits5.l0 k y0 y1 y2) (laws_zzFits5.l0 (k + 1) y0 y1 y2))
  | 0 => fun _ _ _ r h => by simp [laws_zzFits5.l0] at h
  | k + 1 => by
    have ih0 := laws_zzFits5.mono_l k
    · intro y0 y1 y2
      unfold laws_zzFits5.l0
      repeat' first
      | (with_reducible exact ih0 _ _ _)
      | (with_reducible exact LeO.refl _)
      | (with_reducible exact LeO.none _)
      | (with_reducible refine LeO.ite ?_ ?_)
      | (with_reducible refine LeO.bind ?_ (fun _ => ?_))
      | exact ih0 _ _ _
      | exact LeO.none _
      | refine LeO.ite ?_ ?_
      | refine LeO.bind ?_ (fun _ => ?_)
theorem laws_zzFits5.mono : ∀ a0 k, LeO (laws_zzFits5.f k a0) (laws_zzFits5.f (k + 1) a0) := by
  intro a0 k
  have ih0 := laws_zzFits5.mono_l k
  unfold laws_zzFits5.f
  repeat' first
      | (with_reducible exact ih0 _ _ _)
      | (with_reducible exact LeO.refl _)
      | (with_reducible exact LeO.none _)
      | (with_reducible refine LeO.ite ?_ ?_)
      | (with_reducible refine LeO.bind ?_ (fun _ => ?_))
      | exact ih0 _ _ _
      | exact LeO.none _
      | refine LeO.ite ?_ ?_
      | refine LeO.bind ?_ (fun _ => ?_)
set_option maxHeartbeats 8000000 in
set_option maxRecDepth 100000 in
theorem laws_zzFits5.calls (k : Nat) (A0 : Option Addr) (c0 : Nat) (l0 : List ByteArray) (r : Bool) (w : World) (hr0 : Kd.C Kd.string w A0 l0.length l0) (hc0 : l0.length ≤ c0) (h : laws_zzFits5.f k l0 = some r) :
    Calls Try.prog 21 #[.slice A0 l0.length c0] w fun e w' => e = .returned (.bool r) ∧ Drawn0 w w' := by
  have HR0 := Aside0.mk hr0
  have HC0 := Aside0.mk hc0
  clear hr0 hc0
  have H : (if (l0.length : Int) > 2147483647 then (some false) else (laws_zzFits5.l0 k l0 (l0.length : Int) 0)) = some r := h
  clear h
  by_cases c2 : (l0.length : Int) > 2147483647
  · rw [if_pos c2] at H
    have c2b0 : decide (2147483647 < (l0.length : Int)) = true := decide_eq_true c2
    have c2b1 : decide (2147483647 < l0.length) = true := decide_eq_true (by omega)
    clear c2
    obtain rfl := Option.some.inj H
    go_enter Try.func21, Try.ntmps21
    go_wp2
    go_ret
    exact ⟨by first | rfl | (simp; done) | (simp [*]; done), by repeat (first | exact Drawn0.refl _ | apply Drawn0.step)⟩
  · rw [if_neg c2] at H
    have c2b0 : decide (2147483647 < (l0.length : Int)) = false := decide_eq_false c2
    have c2b1 : decide (2147483647 < l0.length) = false := decide_eq_false (by omega)
    clear c2
    have H' := Aside0.mk H
    clear H
    go_enter Try.func21, Try.ntmps21
    go_wp2
    go_loopg [10] k (fun kq v10 w' => ∃ (x10_1 : Int), v10 = .int .i64 x10_1 ∧ Aside0 (laws_zzFits5.l0 kq l0 (l0.length : Int) x10_1 = some r) ∧ Aside0 (kq ≤ k) ∧ Drawn0 w w')
    case atStart => exact ⟨(0), (by first | rfl | (simp; done) | (simp [*]; done)), H', ⟨Nat.le_refl _⟩, by repeat (first | exact Drawn0.refl _ | apply Drawn0.step)⟩
    case round =>
      clear H'
      try clear c2
      try clear c2b0
      try clear c2b1
      try clear p2
      obtain ⟨x10_1, rfl, HA, HK1, ⟨m1, rfl⟩⟩ := hrel
      cases gk with
      | zero => exact absurd HA.out (by simp [laws_zzFits5.l0])
      | succ k1 =>
        have H := HA.out
        clear HA
        simp only [laws_zzFits5.l0] at H
        by_cases c3 : x10_1 < (l0.length : Int)
        · rw [if_pos c3] at H
          have c3b0 : decide (x10_1 < (l0.length : Int)) = true := decide_eq_true c3
          clear c3
          by_cases c4 : 0 ≤ x10_1
          · rw [if_pos c4] at H
            have c4b0 : decide (0 ≤ x10_1) = true := decide_eq_true c4
            clear c4
            by_cases c5 : x10_1 < (l0.length : Int)
            · rw [if_pos c5] at H
              have c5b0 : decide (x10_1 < (l0.length : Int)) = true := decide_eq_true c5
              clear c5
              by_cases c6 : ((rdOf ByteArray.empty l0 x10_1).size : Int) > 2147483647
              · rw [if_pos c6] at H
                have c6b0 : decide (2147483647 < ((rdOf ByteArray.empty l0 x10_1).size : Int)) = true := decide_eq_true c6
                have c6b1 : decide (2147483647 < (rdOf ByteArray.empty l0 x10_1).size) = true := decide_eq_true (by omega)
                clear c6
                obtain rfl := Option.some.inj H
                have p101 : 0 ≤ (x10_1 : Int) := of_decide_eq_true (by first | (with_reducible assumption) | assumption)
                have q101 : x10_1 < (l0.length : Int) := of_decide_eq_true (by first | (with_reducible assumption) | assumption)
                obtain ⟨ad101, e101, hx101_0⟩ := Kd.at_string HR0.out x10_1 p101 q101
                cases e101
                replace p101 := eq_true p101
                replace q101 := eq_true q101
                go_wp2
                go_ret
                exact ⟨by first | rfl | (simp; done) | (simp [*]; done), by repeat (first | exact Drawn0.refl _ | apply Drawn0.step)⟩
              · rw [if_neg c6] at H
                have c6b0 : decide (2147483647 < ((rdOf ByteArray.empty l0 x10_1).size : Int)) = false := decide_eq_false c6
                have c6b1 : decide (2147483647 < (rdOf ByteArray.empty l0 x10_1).size) = false := decide_eq_false (by omega)
                clear c6
                have H' := Aside0.mk H
                clear H
                have p101 : 0 ≤ (x10_1 : Int) := of_decide_eq_true (by first | (with_reducible assumption) | assumption)
                have q101 : x10_1 < (l0.length : Int) := of_decide_eq_true (by first | (with_reducible assumption) | assumption)
                obtain ⟨ad101, e101, hx101_0⟩ := Kd.at_string HR0.out x10_1 p101 q101
                cases e101
                replace p101 := eq_true p101
                replace q101 := eq_true q101
                go_wp2
                go_roundg k1
                case measure => have := HK1.out; omega
                case rel => exact ⟨(wrap64 (x10_1 + 1)), (by first | rfl | (simp; done) | (simp [*]; done)), H', ⟨by have := HK1.out; omega⟩, by repeat (first | exact Drawn0.refl _ | apply Drawn0.step)⟩
            · rw [if_neg c5] at H
              exact absurd H (by simp)
          · rw [if_neg c4] at H
            exact absurd H (by simp)
        · rw [if_neg c3] at H
          have c3b0 : decide (x10_1 < (l0.length : Int)) = false := decide_eq_false c3
          clear c3
          obtain rfl := Option.some.inj H
          go_wp2
          go_ret
          exact ⟨by first | rfl | (simp; done) | (simp [*]; done), by repeat (first | exact Drawn0.refl _ | apply Drawn0.step)⟩

/-! ### laws_zzFits6: function 13 -/
def laws_zzFits6.l0 : Nat → List (List ByteArray) → Int → Int → Option (Bool)
  | 0, _, _, _ => none
  | k + 1, x8, x9, x10 => if x10 < x9 then (if 0 ≤ x10 then (if x10 < (x8.length : Int) then ((laws_zzFits5.f k (rd_L1 x8 x10)).bind fun t103 => (if t103 = true then (laws_zzFits6.l0 k x8 x9 (wrap64 (x10 + 1))) else (some false))) else (none)) else (none)) else (some true)
def laws_zzFits6.f (k : Nat) (l0 : List (List ByteArray)) : Option (Bool) := if (l0.length : Int) > 2147483647 then (some false) else (laws_zzFits6.l0 k l0 (l0.length : Int) 0)
theorem laws_zzFits6.mono_l : ∀ k, (∀ y0 y1 y2, LeO (laws_zzFits6.l0 k y0 y1 y2) (laws_zzFits6.l0 (k + 1) y0 y1 y2))
  | 0 => fun _ _ _ r h => by simp [laws_zzFits6.l0] at h
  | k + 1 => by
    have ih0 := laws_zzFits6.mono_l k
    · intro y0 y1 y2
      unfold laws_zzFits6.l0
      repeat' first
      | (with_reducible exact ih0 _ _ _)
      | (with_reducible exact laws_zzFits5.mono _ _)
      | (with_reducible exact LeO.refl _)
      | (with_reducible exact LeO.none _)
      | (with_reducible refine LeO.ite ?_ ?_)
      | (with_reducible refine LeO.bind ?_ (fun _ => ?_))
      | exact ih0 _ _ _
      | exact laws_zzFits5.mono _ _
      | exact LeO.none _
      | refine LeO.ite ?_ ?_
      | refine LeO.bind ?_ (fun _ => ?_)
theorem laws_zzFits6.mono : ∀ a0 k, LeO (laws_zzFits6.f k a0) (laws_zzFits6.f (k + 1) a0) := by
  intro a0 k
  have ih0 := laws_zzFits6.mono_l k
  unfold laws_zzFits6.f
  repeat' first
      | (with_reducible exact ih0 _ _ _)
      | (with_reducible exact laws_zzFits5.mono _ _)
      | (with_reducible exact LeO.refl _)
      | (with_reducible exact LeO.none _)
      | (with_reducible refine LeO.ite ?_ ?_)
      | (with_reducible refine LeO.bind ?_ (fun _ => ?_))
      | exact ih0 _ _ _
      | exact laws_zzFits5.mono _ _
      | exact LeO.none _
      | refine LeO.ite ?_ ?_
      | refine LeO.bind ?_ (fun _ => ?_)
set_option maxHeartbeats 8000000 in
set_option maxRecDepth 100000 in
theorem laws_zzFits6.calls (k : Nat) (A0 : Option Addr) (c0 : Nat) (l0 : List (List ByteArray)) (r : Bool) (w : World) (hr0 : Kd.C (Kd.slice 9 Kd.string) w A0 l0.length l0) (hc0 : l0.length ≤ c0) (h : laws_zzFits6.f k l0 = some r) :
    Calls Try.prog 13 #[.slice A0 l0.length c0] w fun e w' => e = .returned (.bool r) ∧ Drawn0 w w' := by
  have HR0 := Aside0.mk hr0
  have HC0 := Aside0.mk hc0
  clear hr0 hc0
  have H : (if (l0.length : Int) > 2147483647 then (some false) else (laws_zzFits6.l0 k l0 (l0.length : Int) 0)) = some r := h
  clear h
  by_cases c2 : (l0.length : Int) > 2147483647
  · rw [if_pos c2] at H
    have c2b0 : decide (2147483647 < (l0.length : Int)) = true := decide_eq_true c2
    have c2b1 : decide (2147483647 < l0.length) = true := decide_eq_true (by omega)
    clear c2
    obtain rfl := Option.some.inj H
    go_enter Try.func13, Try.ntmps13
    go_wp2
    go_ret
    exact ⟨by first | rfl | (simp; done) | (simp [*]; done), by repeat (first | exact Drawn0.refl _ | apply Drawn0.step)⟩
  · rw [if_neg c2] at H
    have c2b0 : decide (2147483647 < (l0.length : Int)) = false := decide_eq_false c2
    have c2b1 : decide (2147483647 < l0.length) = false := decide_eq_false (by omega)
    clear c2
    have H' := Aside0.mk H
    clear H
    go_enter Try.func13, Try.ntmps13
    go_wp2
    go_loopg [10] k (fun kq v10 w' => ∃ (x10_1 : Int), v10 = .int .i64 x10_1 ∧ Aside0 (laws_zzFits6.l0 kq l0 (l0.length : Int) x10_1 = some r) ∧ Aside0 (kq ≤ k) ∧ Drawn0 w w')
    case atStart => exact ⟨(0), (by first | rfl | (simp; done) | (simp [*]; done)), H', ⟨Nat.le_refl _⟩, by repeat (first | exact Drawn0.refl _ | apply Drawn0.step)⟩
    case round =>
      clear H'
      try clear c1
      try clear c2
      try clear c2b0
      try clear c2b1
      try clear p2
      obtain ⟨x10_1, rfl, HA, HK1, ⟨m1, rfl⟩⟩ := hrel
      cases gk with
      | zero => exact absurd HA.out (by simp [laws_zzFits6.l0])
      | succ k1 =>
        have H := HA.out
        clear HA
        simp only [laws_zzFits6.l0] at H
        by_cases c3 : x10_1 < (l0.length : Int)
        · rw [if_pos c3] at H
          have c3b0 : decide (x10_1 < (l0.length : Int)) = true := decide_eq_true c3
          clear c3
          by_cases c4 : 0 ≤ x10_1
          · rw [if_pos c4] at H
            have c4b0 : decide (0 ≤ x10_1) = true := decide_eq_true c4
            clear c4
            by_cases c5 : x10_1 < (l0.length : Int)
            · rw [if_pos c5] at H
              have c5b0 : decide (x10_1 < (l0.length : Int)) = true := decide_eq_true c5
              clear c5
              replace H := Option.bind_eq_some_iff.mp H
              obtain ⟨t103, A60, H⟩ := H
              replace H : (if t103 = true then (laws_zzFits6.l0 k1 l0 (l0.length : Int) (wrap64 (x10_1 + 1))) else (some false)) = some r := H
              have A6 := Aside0.mk A60
              clear A60
              by_cases c7 : t103 = true
              · subst c7
                have H1 : (laws_zzFits6.l0 k1 l0 (l0.length : Int) (wrap64 (x10_1 + 1))) = some r := by rw [if_pos rfl] at H; exact H
                clear H
                have H := H1
                clear H1
                have H' := Aside0.mk H
                clear H
                have p102 : 0 ≤ (x10_1 : Int) := of_decide_eq_true (by first | (with_reducible assumption) | assumption)
                have q102 : x10_1 < (l0.length : Int) := of_decide_eq_true (by first | (with_reducible assumption) | assumption)
                obtain ⟨ad102, A102_0, c102_0, e102, hx102_0, hl102_0, hi102_0⟩ := at_L1 HR0.out x10_1 p102 q102
                cases e102
                have HR102_0 := Aside0.mk hi102_0
                have HC102_0 := Aside0.mk hl102_0
                clear hi102_0 hl102_0
                replace p102 := eq_true p102
                replace q102 := eq_true q102
                go_wp2_with (first | ((with_reducible refine gate_callee (f := 21) rfl ?_); refine goesL_ (some 15) rfl rfl Try.func21 (by kernel_rfl) rfl #[.slice A102_0 (rd_L1 l0 x10_1).length c102_0] rfl (by (try simp only [List.map_toArray, List.map_cons, List.map_nil]); first | done | rfl | (simp only [List.length_drop, List.length_take]; rfl)) ?_; (with_reducible refine (laws_zzFits5.calls k1 _ _ (rd_L1 l0 x10_1) true _ ?side1 ?side2 A6.out).mono ?_); (case side1 => repeat (first | exact HR102_0.out | (with_reducible refine Kd.C_alloc ?_ _) | (with_reducible refine Kd.C_drewN ?_ _) | (with_reducible refine Kd.C_drew ?_))); (case side2 => exact HC102_0.out); rintro e w' ⟨rfl, ⟨nd, rfl⟩⟩; refine ⟨_, rfl, ?_⟩))
                go_roundg k1
                case measure => have := HK1.out; omega
                case rel => exact ⟨(wrap64 (x10_1 + 1)), (by first | rfl | (simp; done) | (simp [*]; done)), H', ⟨by have := HK1.out; omega⟩, by repeat (first | exact Drawn0.refl _ | apply Drawn0.step)⟩
              · replace c7 := Bool.eq_false_iff.mpr c7
                subst c7
                have H1 : (some false) = some r := by rw [if_neg (show ¬ (false = true) by decide)] at H; exact H
                clear H
                have H := H1
                clear H1
                obtain rfl := Option.some.inj H
                have p102 : 0 ≤ (x10_1 : Int) := of_decide_eq_true (by first | (with_reducible assumption) | assumption)
                have q102 : x10_1 < (l0.length : Int) := of_decide_eq_true (by first | (with_reducible assumption) | assumption)
                obtain ⟨ad102, A102_0, c102_0, e102, hx102_0, hl102_0, hi102_0⟩ := at_L1 HR0.out x10_1 p102 q102
                cases e102
                have HR102_0 := Aside0.mk hi102_0
                have HC102_0 := Aside0.mk hl102_0
                clear hi102_0 hl102_0
                replace p102 := eq_true p102
                replace q102 := eq_true q102
                go_wp2_with (first | ((with_reducible refine gate_callee (f := 21) rfl ?_); refine goesL_ (some 15) rfl rfl Try.func21 (by kernel_rfl) rfl #[.slice A102_0 (rd_L1 l0 x10_1).length c102_0] rfl (by (try simp only [List.map_toArray, List.map_cons, List.map_nil]); first | done | rfl | (simp only [List.length_drop, List.length_take]; rfl)) ?_; (with_reducible refine (laws_zzFits5.calls k1 _ _ (rd_L1 l0 x10_1) false _ ?side1 ?side2 A6.out).mono ?_); (case side1 => repeat (first | exact HR102_0.out | (with_reducible refine Kd.C_alloc ?_ _) | (with_reducible refine Kd.C_drewN ?_ _) | (with_reducible refine Kd.C_drew ?_))); (case side2 => exact HC102_0.out); rintro e w' ⟨rfl, ⟨nd, rfl⟩⟩; refine ⟨_, rfl, ?_⟩))
                go_ret
                exact ⟨by first | rfl | (simp; done) | (simp [*]; done), by repeat (first | exact Drawn0.refl _ | apply Drawn0.step)⟩
            · rw [if_neg c5] at H
              exact absurd H (by simp)
          · rw [if_neg c4] at H
            exact absurd H (by simp)
        · rw [if_neg c3] at H
          have c3b0 : decide (x10_1 < (l0.length : Int)) = false := decide_eq_false c3
          clear c3
          obtain rfl := Option.some.inj H
          go_wp2
          go_ret
          exact ⟨by first | rfl | (simp; done) | (simp [*]; done), by repeat (first | exact Drawn0.refl _ | apply Drawn0.step)⟩


-- NOT PRINTED: function 34 (utf8_RuneCountInString)


/-! ### table_calculateMaxCounts: function 28 -/
mutual
def table_calculateMaxCounts.l0 : Nat → List Int → List (List (List Int)) → Int → Int → Option (List Int)
  | 0, _, _, _, _ => none
  | k + 1, x3, x11, x12, x13 => if x13 < x12 then (if 0 ≤ x13 then (if x13 < (x11.length : Int) then (table_calculateMaxCounts.l1 k x3 x11 x12 x13 (rd_L4 x11 x13) ((rd_L4 x11 x13).length : Int) 0) else (none)) else (none)) else (some x3)
def table_calculateMaxCounts.l1 : Nat → List Int → List (List (List Int)) → Int → Int → List (List Int) → Int → Int → Option (List Int)
  | 0, _, _, _, _, _, _, _ => none
  | k + 1, x3, x11, x12, x13, x17, x18, x19 => if x19 < x18 then (if 0 ≤ x19 then (if x19 < (x17.length : Int) then ((utf8_RuneCount.f (rd_L3 x17 x19)).bind fun t109 => (if x19 ≥ (x3.length : Int) then (if x3.length < 17592186044416 then ((some (x3 ++ [1] : List Int)).bind fun y110 => (if x19 < (y110.length : Int) then (if t109 > (rd y110 x19) then (table_calculateMaxCounts.l1 k (y110.set (x19 : Int).toNat t109) x11 x12 x13 x17 x18 (wrap64 (x19 + 1))) else (table_calculateMaxCounts.l1 k y110 x11 x12 x13 x17 x18 (wrap64 (x19 + 1)))) else (none))) else (none)) else (if x19 < (x3.length : Int) then (if t109 > (rd x3 x19) then (table_calculateMaxCounts.l1 k (x3.set (x19 : Int).toNat t109) x11 x12 x13 x17 x18 (wrap64 (x19 + 1))) else (table_calculateMaxCounts.l1 k x3 x11 x12 x13 x17 x18 (wrap64 (x19 + 1)))) else (none)))) else (none)) else (none)) else (table_calculateMaxCounts.l0 k x3 x11 x12 (wrap64 (x13 + 1)))
end
def table_calculateMaxCounts.f (k : Nat) (l0 : List (List (List Int))) : Option (List Int) := if 0 ≤ 35184372088832 then (table_calculateMaxCounts.l0 k (List.replicate 0 0) l0 (l0.length : Int) 0) else (none)
theorem table_calculateMaxCounts.mono_l : ∀ k, (∀ y0 y1 y2 y3, LeO (table_calculateMaxCounts.l0 k y0 y1 y2 y3) (table_calculateMaxCounts.l0 (k + 1) y0 y1 y2 y3)) ∧ (∀ y0 y1 y2 y3 y4 y5 y6, LeO (table_calculateMaxCounts.l1 k y0 y1 y2 y3 y4 y5 y6) (table_calculateMaxCounts.l1 (k + 1) y0 y1 y2 y3 y4 y5 y6))
  | 0 => ⟨fun _ _ _ _ r h => by simp [table_calculateMaxCounts.l0] at h, fun _ _ _ _ _ _ _ r h => by simp [table_calculateMaxCounts.l1] at h⟩
  | k + 1 => by
    obtain ⟨ih0, ih1⟩ := table_calculateMaxCounts.mono_l k
    refine ⟨?_, ?_⟩
    · intro y0 y1 y2 y3
      unfold table_calculateMaxCounts.l0
      repeat' first
      | (with_reducible exact ih0 _ _ _ _)
      | (with_reducible exact ih1 _ _ _ _ _ _ _)
      | (with_reducible exact LeO.refl _)
      | (with_reducible exact LeO.none _)
      | (with_reducible refine LeO.ite ?_ ?_)
      | (with_reducible refine LeO.bind ?_ (fun _ => ?_))
      | exact ih0 _ _ _ _
      | exact ih1 _ _ _ _ _ _ _
      | exact LeO.none _
      | refine LeO.ite ?_ ?_
      | refine LeO.bind ?_ (fun _ => ?_)
    · intro y0 y1 y2 y3 y4 y5 y6
      unfold table_calculateMaxCounts.l1
      repeat' first
      | (with_reducible exact ih0 _ _ _ _)
      | (with_reducible exact ih1 _ _ _ _ _ _ _)
      | (with_reducible exact LeO.refl _)
      | (with_reducible exact LeO.none _)
      | (with_reducible refine LeO.ite ?_ ?_)
      | (with_reducible refine LeO.bind ?_ (fun _ => ?_))
      | exact ih0 _ _ _ _
      | exact ih1 _ _ _ _ _ _ _
      | exact LeO.none _
      | refine LeO.ite ?_ ?_
      | refine LeO.bind ?_ (fun _ => ?_)
theorem table_calculateMaxCounts.mono : ∀ a0 k, LeO (table_calculateMaxCounts.f k a0) (table_calculateMaxCounts.f (k + 1) a0) := by
  intro a0 k
  obtain ⟨ih0, ih1⟩ := table_calculateMaxCounts.mono_l k
  unfold table_calculateMaxCounts.f
  repeat' first
      | (with_reducible exact ih0 _ _ _ _)
      | (with_reducible exact ih1 _ _ _ _ _ _ _)
      | (with_reducible exact LeO.refl _)
      | (with_reducible exact LeO.none _)
      | (with_reducible refine LeO.ite ?_ ?_)
      | (with_reducible refine LeO.bind ?_ (fun _ => ?_))
      | exact ih0 _ _ _ _
      | exact ih1 _ _ _ _ _ _ _
      | exact LeO.none _
      | refine LeO.ite ?_ ?_
      | refine LeO.bind ?_ (fun _ => ?_)
set_option maxHeartbeats 8000000 in
set_option maxRecDepth 100000 in
theorem table_calculateMaxCounts.calls (k : Nat) (A0 : Option Addr) (c0 : Nat) (l0 : List (List (List Int))) (r : List Int) (w : World) (hr0 : Kd.C (Kd.slice 37 (Kd.slice 5 (Kd.int .u8))) w A0 l0.length l0) (hc0 : l0.length ≤ c0) (h : table_calculateMaxCounts.f k l0 = some r) :
    Calls Try.prog 28 #[.slice A0 l0.length c0] w fun e w' => ∃ v0_ : Value, e = .returned (v0_) ∧ Kd.R (Kd.int .i64) 3 w' w.heap.size (fun _ => True) v0_ r ∧ Below w.heap.size w w' := by
  have HR0 := Aside0.mk hr0
  have HC0 := Aside0.mk hc0
  clear hr0 hc0
  have HB := Aside0.mk (Below.refl w.heap.size w)
  have H : (if 0 ≤ 35184372088832 then (table_calculateMaxCounts.l0 k (List.replicate 0 0) l0 (l0.length : Int) 0) else (none)) = some r := h
  clear h
  by_cases c2 : 0 ≤ 35184372088832
  · rw [if_pos c2] at H
    have c2b0 := eq_true c2
    have c2b1 : decide (0 ≤ 35184372088832) = true := decide_eq_true c2
    clear c2
    obtain ⟨y104, hy104⟩ : ∃ y_ : List Int, y_ = (List.replicate 0 0) := ⟨_, rfl⟩
    replace H : (table_calculateMaxCounts.l0 k y104 l0 (l0.length : Int) 0) = some r := by first | (rw [hy104]; with_reducible exact H) | (have H2_ := (Option.bind_some _ _).symm.trans H; rw [hy104]; with_reducible exact H2_) | (have H2_ := (Option.bind_some _ _).symm.trans H; with_reducible exact H2_) | with_reducible exact H | (rw [hy104]; exact H) | exact H
    have Ny104 := Aside0.mk hy104
    clear hy104
    have H' := Aside0.mk H
    clear H
    go_enter Try.func28, Try.ntmps28
    go_wp2_with (first | ((with_reducible refine gate_dst (N := 10) rfl ?_); refine Kd.R_make (Kd.int .i64) _ 3 rfl (N := 10) rfl 34 _ _ rfl 0 rfl rfl Try.underlying34 (.int .i64 0) 8 info3 rfl (by decide) (by omega) 0 (ok := fun _ => True) (okp := fun _ => True) rfl (fun _ hk => hk) trivial (by omega) (by omega) (Below.refl _ _) (Nat.le_refl _) ?_; intro v105 w3 ho4 hb hg_ hnew_; clear hg_ hnew_; (first | rw [← Ny104.out] at ho4 | (simp only [Int.reduceToNat] at ho4; rw [← Ny104.out] at ho4)); have n0_ := Aside0.mk (Kd.R_lower ho4 (below_size (by repeat (first | (with_reducible first | exact HB.out | apply below_alloc | apply pw_below_drewN | apply below_drew1) | exact HB.out)))); have n1_ := Aside0.mk (below_step (by repeat (first | (with_reducible first | exact HB.out | apply below_alloc | apply pw_below_drewN | apply below_drew1) | exact HB.out)) hb); clear HB; have HO106 := n0_; have HB := n1_; clear n0_ n1_; clear hb ho4))
    go_loopg [3, 13] k (fun kq v3 v13 w' => ∃ (x3_1 : List Int) (x13_1 : Int), v13 = .int .i64 x13_1 ∧ Aside0 (table_calculateMaxCounts.l0 kq x3_1 l0 (l0.length : Int) x13_1 = some r) ∧ Aside0 (kq ≤ k) ∧ Aside0 (Kd.R (Kd.int .i64) 3 w' w.heap.size (fun _ => True) v3 x3_1) ∧ Aside0 (Below w.heap.size w w'))
    case atStart => exact ⟨(y104), (0), (by first | rfl | (simp; done) | (simp [*]; done)), H', ⟨Nat.le_refl _⟩, ⟨by (with_reducible repeat (first | apply Kd.R_alloc | apply Kd.R_drewN | apply Kd.R_drew)); exact HO106.out⟩, ⟨by repeat (first | (with_reducible first | exact HB.out | apply below_alloc | apply pw_below_drewN | apply below_drew1) | exact HB.out)⟩⟩
    case round =>
      clear H'
      try clear c2
      try clear c2b0
      try clear c2b1
      try clear p2
      obtain ⟨x3_1, x13_1, rfl, HA, HK1, HO_3, HB⟩ := hrel
      cases gk with
      | zero => exact absurd HA.out (by simp [table_calculateMaxCounts.l0])
      | succ k1 =>
        have H := HA.out
        clear HA
        simp only [table_calculateMaxCounts.l0] at H
        by_cases c5 : x13_1 < (l0.length : Int)
        · rw [if_pos c5] at H
          have c5b0 : decide (x13_1 < (l0.length : Int)) = true := decide_eq_true c5
          clear c5
          by_cases c6 : 0 ≤ x13_1
          · rw [if_pos c6] at H
            have c6b0 : decide (0 ≤ x13_1) = true := decide_eq_true c6
            clear c6
            by_cases c7 : x13_1 < (l0.length : Int)
            · rw [if_pos c7] at H
              have c7b0 : decide (x13_1 < (l0.length : Int)) = true := decide_eq_true c7
              clear c7
              have H' := Aside0.mk H
              clear H
              have p107 : 0 ≤ (x13_1 : Int) := of_decide_eq_true (by first | (with_reducible assumption) | assumption)
              have q107 : x13_1 < (l0.length : Int) := of_decide_eq_true (by first | (with_reducible assumption) | assumption)
              obtain ⟨ad107, A107_0, c107_0, e107, hx107_0, hl107_0, hi107_0⟩ := at_L4 HR0.out x13_1 p107 q107
              cases e107
              replace hx107_0 := (HB.out.cell (World.block_lt_of_cell? w _ hx107_0)).trans hx107_0
              have HR107_0 := Aside0.mk hi107_0
              have HC107_0 := Aside0.mk hl107_0
              clear hi107_0 hl107_0
              replace p107 := eq_true p107
              replace q107 := eq_true q107
              go_wp2
              go_loopg [3, 19] k1 (fun kq v3 v19 w' => ∃ (x3_2 : List Int) (x19_2 : Int), v19 = .int .i64 x19_2 ∧ Aside0 (table_calculateMaxCounts.l1 kq x3_2 l0 (l0.length : Int) x13_1 (rd_L4 l0 x13_1) ((rd_L4 l0 x13_1).length : Int) x19_2 = some r) ∧ Aside0 (kq ≤ k1) ∧ Aside0 (Kd.R (Kd.int .i64) 3 w' w.heap.size (fun _ => True) v3 x3_2) ∧ Aside0 (Below w.heap.size w w'))
              case atStart => exact ⟨(x3_1), (0), (by first | rfl | (simp; done) | (simp [*]; done)), H', ⟨Nat.le_refl _⟩, ⟨by (with_reducible repeat (first | apply Kd.R_alloc | apply Kd.R_drewN | apply Kd.R_drew)); exact HO_3.out⟩, ⟨by repeat (first | (with_reducible first | exact HB.out | apply below_alloc | apply pw_below_drewN | apply below_drew1) | exact HB.out)⟩⟩
              case round =>
                clear H'
                try clear c1
                try clear p1
                try clear q1
                try clear hx1
                try clear c2
                try clear c2b0
                try clear c2b1
                try clear p2
                try clear c5
                try clear c5b0
                try clear c6
                try clear c6b0
                try clear c7
                try clear c7b0
                try clear hx107_0
                try clear p107
                try clear p2
                try clear q107
                obtain ⟨x3_2, x19_2, rfl, HA, HK2, HO_3, HB⟩ := hrel
                cases gk with
                | zero => exact absurd HA.out (by simp [table_calculateMaxCounts.l1])
                | succ k2 =>
                  have H := HA.out
                  clear HA
                  simp only [table_calculateMaxCounts.l1] at H
                  by_cases c8 : x19_2 < ((rd_L4 l0 x13_1).length : Int)
                  · rw [if_pos c8] at H
                    have c8b0 : decide (x19_2 < ((rd_L4 l0 x13_1).length : Int)) = true := decide_eq_true c8
                    clear c8
                    by_cases c9 : 0 ≤ x19_2
                    · rw [if_pos c9] at H
                      have c9b0 : decide (0 ≤ x19_2) = true := decide_eq_true c9
                      clear c9
                      by_cases c10 : x19_2 < ((rd_L4 l0 x13_1).length : Int)
                      · rw [if_pos c10] at H
                        have c10b0 : decide (x19_2 < ((rd_L4 l0 x13_1).length : Int)) = true := decide_eq_true c10
                        clear c10
                        replace H := Option.bind_eq_some_iff.mp H
                        obtain ⟨t109, A110, H⟩ := H
                        replace H : (if x19_2 ≥ (x3_2.length : Int) then (if x3_2.length < 17592186044416 then ((some (x3_2 ++ [1] : List Int)).bind fun y110 => (if x19_2 < (y110.length : Int) then (if t109 > (rd y110 x19_2) then (table_calculateMaxCounts.l1 k2 (y110.set (x19_2 : Int).toNat t109) l0 (l0.length : Int) x13_1 (rd_L4 l0 x13_1) ((rd_L4 l0 x13_1).length : Int) (wrap64 (x19_2 + 1))) else (table_calculateMaxCounts.l1 k2 y110 l0 (l0.length : Int) x13_1 (rd_L4 l0 x13_1) ((rd_L4 l0 x13_1).length : Int) (wrap64 (x19_2 + 1)))) else (none))) else (none)) else (if x19_2 < (x3_2.length : Int) then (if t109 > (rd x3_2 x19_2) then (table_calculateMaxCounts.l1 k2 (x3_2.set (x19_2 : Int).toNat t109) l0 (l0.length : Int) x13_1 (rd_L4 l0 x13_1) ((rd_L4 l0 x13_1).length : Int) (wrap64 (x19_2 + 1))) else (table_calculateMaxCounts.l1 k2 x3_2 l0 (l0.length : Int) x13_1 (rd_L4 l0 x13_1) ((rd_L4 l0 x13_1).length : Int) (wrap64 (x19_2 + 1)))) else (none))) = some r := H
                        have A11 := Aside0.mk A110
                        clear A110
                        by_cases c12 : x19_2 ≥ (x3_2.length : Int)
                        · rw [if_pos c12] at H
                          have c12b0 : decide ((x3_2.length : Int) ≤ x19_2) = true := decide_eq_true c12
                          clear c12
                          by_cases c13 : x3_2.length < 17592186044416
                          · rw [if_pos c13] at H
                            have LMc13 := Aside0.mk c13
                            clear c13
                            obtain ⟨y110, hy110⟩ : ∃ y_ : List Int, y_ = (x3_2 ++ [1]) := ⟨_, rfl⟩
                            replace H : (if x19_2 < (y110.length : Int) then (if t109 > (rd y110 x19_2) then (table_calculateMaxCounts.l1 k2 (y110.set (x19_2 : Int).toNat t109) l0 (l0.length : Int) x13_1 (rd_L4 l0 x13_1) ((rd_L4 l0 x13_1).length : Int) (wrap64 (x19_2 + 1))) else (table_calculateMaxCounts.l1 k2 y110 l0 (l0.length : Int) x13_1 (rd_L4 l0 x13_1) ((rd_L4 l0 x13_1).length : Int) (wrap64 (x19_2 + 1)))) else (none)) = some r := by first | (rw [hy110]; with_reducible exact H) | (have H2_ := (Option.bind_some _ _).symm.trans H; rw [hy110]; with_reducible exact H2_) | (have H2_ := (Option.bind_some _ _).symm.trans H; with_reducible exact H2_) | with_reducible exact H | (rw [hy110]; exact H) | exact H
                            have Ny110 := Aside0.mk hy110
                            clear hy110
                            by_cases c14 : x19_2 < (y110.length : Int)
                            · rw [if_pos c14] at H
                              have c14b0 : decide (x19_2 < (y110.length : Int)) = true := decide_eq_true c14
                              clear c14
                              by_cases c15 : t109 > (rd y110 x19_2)
                              · rw [if_pos c15] at H
                                have c15b0 : decide ((rd y110 x19_2) < t109) = true := decide_eq_true c15
                                clear c15
                                obtain ⟨y114, hy114⟩ : ∃ y_ : List Int, y_ = (y110.set (x19_2 : Int).toNat t109) := ⟨_, rfl⟩
                                replace H : (table_calculateMaxCounts.l1 k2 y114 l0 (l0.length : Int) x13_1 (rd_L4 l0 x13_1) ((rd_L4 l0 x13_1).length : Int) (wrap64 (x19_2 + 1))) = some r := by first | (rw [hy114]; with_reducible exact H) | (have H2_ := (Option.bind_some _ _).symm.trans H; rw [hy114]; with_reducible exact H2_) | (have H2_ := (Option.bind_some _ _).symm.trans H; with_reducible exact H2_) | with_reducible exact H | (rw [hy114]; exact H) | exact H
                                have Ny114 := Aside0.mk hy114
                                clear hy114
                                have H' := Aside0.mk H
                                clear H
                                have p108 : 0 ≤ (x19_2 : Int) := of_decide_eq_true (by first | (with_reducible assumption) | assumption)
                                have q108 : x19_2 < ((rd_L4 l0 x13_1).length : Int) := of_decide_eq_true (by first | (with_reducible assumption) | assumption)
                                obtain ⟨ad108, A108_0, c108_0, e108, hx108_0, hl108_0, hi108_0⟩ := at_L3 HR107_0.out x19_2 p108 q108
                                cases e108
                                replace hx108_0 := (HB.out.cell (World.block_lt_of_cell? w _ hx108_0)).trans hx108_0
                                have HR108_0 := Aside0.mk hi108_0
                                have HC108_0 := Aside0.mk hl108_0
                                clear hi108_0 hl108_0
                                replace p108 := eq_true p108
                                replace q108 := eq_true q108
                                go_wp2_with (first | ((with_reducible refine gate_callee (f := 33) rfl ?_); refine goesL_ (some 25) rfl rfl Try.func33 (by kernel_rfl) rfl #[.slice A108_0 (rd_L3 (rd_L4 l0 x13_1) x19_2).length c108_0] rfl (by (try simp only [List.map_toArray, List.map_cons, List.map_nil]); first | done | rfl | (simp only [List.length_drop, List.length_take]; rfl)) ?_; (with_reducible refine (utf8_RuneCount.calls _ _ (rd_L3 (rd_L4 l0 x13_1) x19_2) t109 _ ?side1 ?side2 A11.out).mono ?_); (case side1 => repeat (first | exact (Kd.C_below HR108_0.out HB.out) | (with_reducible refine Kd.C_alloc ?_ _) | (with_reducible refine Kd.C_drewN ?_ _) | (with_reducible refine Kd.C_drew ?_))); (case side2 => exact HC108_0.out); rintro e w17 ⟨rfl, hb⟩; refine ⟨_, rfl, ?_⟩; have n0_ := Aside0.mk (Kd.R_below (by (with_reducible repeat (first | apply Kd.R_alloc | apply Kd.R_drewN | apply Kd.R_drew)); exact HO_3.out) hb); have n1_ := Aside0.mk (below_step (by repeat (first | (with_reducible first | exact HB.out | apply below_alloc | apply pw_below_drewN | apply below_drew1) | exact HB.out)) hb); clear HO_3; clear HB; have HO_3 := n0_; have HB := n1_; clear n0_ n1_; (try clear hb); (try clear hb2); (try clear hk); (try clear hi); obtain ⟨Ao18, co18, eo18⟩ := Kd.R_slice HO_3.out; subst eo18) | ((with_reducible refine gate_builtin (b := .append) (xs := #[.tmp 30, .tmp 31]) rfl ?_); at_builtin; refine Kd.R_append (Kd.int .i64) (w0 := w) w.heap.size rfl (.tmp 30) (.tmp 31) 34 3 (.int .i64 0) 8 rfl Try.underlying34 info3 rfl (by decide) (by omega) (.slice Ao18 x3_2.length co18) x3_2 1 [.int .i64 1] (fun _ => True) (fun _ => False) rfl rfl ?aP (fun _ hk => hk.elim) ?aF ?aO ?aB ?aS ?aL ?_; (case aP => exact rfl); (case aB => exact (by repeat (first | (with_reducible first | exact HB.out | apply below_alloc | apply pw_below_drewN | apply below_drew1) | exact HB.out))); (case aF => exact (fun _ _ => trivial)); (case aO => exact (by (with_reducible repeat (first | apply Kd.R_alloc | apply Kd.R_drewN | apply Kd.R_drew)); exact HO_3.out)); (case aS => exact (below_size (by repeat (first | (with_reducible first | exact HB.out | apply below_alloc | apply pw_below_drewN | apply below_drew1) | exact HB.out)))); (case aL => have := LMc13.out; omega); intro v111 w19 ho hb hg hat; rw [← Ny110.out] at ho; have n0_ := Aside0.mk (hb); have n1_ := Aside0.mk (ho); clear HB; clear HO_3; have HB := n0_; have HO112 := n1_; clear n0_ n1_; clear ho hb hg hat; obtain ⟨Ao20, co20, eo20⟩ := Kd.R_slice HO112.out; subst eo20; have p113 : 0 ≤ (x19_2 : Int) := of_decide_eq_true (by first | (with_reducible assumption) | assumption); have q113 : x19_2 < (y110.length : Int) := of_decide_eq_true (by first | (with_reducible assumption) | assumption); obtain ⟨ad113, e113, hx113_0⟩ := Kd.at_int (Kd.R_reads' HO112.out).2.2 x19_2 p113 q113; cases e113; replace p113 := eq_true p113; replace q113 := eq_true q113; have p16 : 0 ≤ (x19_2 : Int) := of_decide_eq_true (by first | (with_reducible assumption) | assumption); have q16 : (x19_2 : Int) < ((y110.length : Int) : Int) := of_decide_eq_true (by first | (with_reducible assumption) | assumption); obtain ⟨go16, co16, eo16, gb16, gl16, cl16, HG16⟩ := Kd.R_form HO112.out (by omega); (first | cases eo16 | (injection eo16 with ea_ en_ ec_; (first | subst ea_ | (injection ea_ with ea_; subst ea_)); subst ec_; clear en_)); have GB16 := Aside0.mk gb16; have GG16 := Aside0.mk HG16; clear gb16 gl16 HG16; (first | simp only [add_plain] at hx113_0 | skip); obtain ⟨hx16_0, hf16_0⟩ := Kd.R_celln 0 HO112.out (x19_2 : Int) p16 q16; replace p16 := eq_true p16; replace q16 := eq_true q16; obtain ⟨hy21_, hz21_⟩ := Kd.R_celln 0 HO112.out (x19_2 : Int) (of_decide_eq_true (by first | (with_reducible assumption) | assumption)) (of_decide_eq_true (by first | (with_reducible assumption) | assumption)); have HP21 := Kd.R_putg HO112.out (x19_2 : Int) t109) | ((with_reducible refine gate_store (t := 3) (p := 43) rfl ?_); refine store_event (t := 3) (p := 43) (v := ?vo_w22) (w1 := (w19.setCell ⟨go16, (x19_2 : Int).toNat, none⟩ (.int .i64 t109))) ?hg ?ho ?hn ?hr ?_; (case ho => rfl); (case hg => rfl); (case hn => rfl); (case hr => first | (go_simp; done) | (go_simp; rfl)); intro w22 hw; have hg : w19.grownBy w22 (some go16) := (by rw [hw]; exact HP21.2); have hp_ : Kd.R (Kd.int .i64) 3 w22 w.heap.size (fun _ => True) (.slice (some ⟨go16, 0, none⟩) y110.length co20) y114 := (by rw [hw, Ny114.out]; exact HP21.1); clear HP21; have n0_ := Aside0.mk (hp_); have n1_ := Aside0.mk ((by rw [hw]; exact below_set (HB.out) GB16.out : Below w.heap.size w w22)); clear HO112; clear HB; have HO112 := n0_; have HB := n1_; clear n0_ n1_; clear hg hw hp_))
                                go_roundg k2
                                case measure => have := HK1.out; have := HK2.out; omega
                                case rel => exact ⟨(y114), (wrap64 (x19_2 + 1)), (by first | rfl | (simp; done) | (simp [*]; done)), H', ⟨by have := HK1.out; have := HK2.out; omega⟩, ⟨by (with_reducible repeat (first | apply Kd.R_alloc | apply Kd.R_drewN | apply Kd.R_drew)); exact HO112.out⟩, ⟨by repeat (first | (with_reducible first | exact HB.out | apply below_alloc | apply pw_below_drewN | apply below_drew1) | exact HB.out)⟩⟩
                              · rw [if_neg c15] at H
                                have c15b0 : decide ((rd y110 x19_2) < t109) = false := decide_eq_false c15
                                clear c15
                                have H' := Aside0.mk H
                                clear H
                                have p108 : 0 ≤ (x19_2 : Int) := of_decide_eq_true (by first | (with_reducible assumption) | assumption)
                                have q108 : x19_2 < ((rd_L4 l0 x13_1).length : Int) := of_decide_eq_true (by first | (with_reducible assumption) | assumption)
                                obtain ⟨ad108, A108_0, c108_0, e108, hx108_0, hl108_0, hi108_0⟩ := at_L3 HR107_0.out x19_2 p108 q108
                                cases e108
                                replace hx108_0 := (HB.out.cell (World.block_lt_of_cell? w _ hx108_0)).trans hx108_0
                                have HR108_0 := Aside0.mk hi108_0
                                have HC108_0 := Aside0.mk hl108_0
                                clear hi108_0 hl108_0
                                replace p108 := eq_true p108
                                replace q108 := eq_true q108
                                go_wp2_with (first | ((with_reducible refine gate_callee (f := 33) rfl ?_); refine goesL_ (some 25) rfl rfl Try.func33 (by kernel_rfl) rfl #[.slice A108_0 (rd_L3 (rd_L4 l0 x13_1) x19_2).length c108_0] rfl (by (try simp only [List.map_toArray, List.map_cons, List.map_nil]); first | done | rfl | (simp only [List.length_drop, List.length_take]; rfl)) ?_; (with_reducible refine (utf8_RuneCount.calls _ _ (rd_L3 (rd_L4 l0 x13_1) x19_2) t109 _ ?side1 ?side2 A11.out).mono ?_); (case side1 => repeat (first | exact (Kd.C_below HR108_0.out HB.out) | (with_reducible refine Kd.C_alloc ?_ _) | (with_reducible refine Kd.C_drewN ?_ _) | (with_reducible refine Kd.C_drew ?_))); (case side2 => exact HC108_0.out); rintro e w23 ⟨rfl, hb⟩; refine ⟨_, rfl, ?_⟩; have n0_ := Aside0.mk (Kd.R_below (by (with_reducible repeat (first | apply Kd.R_alloc | apply Kd.R_drewN | apply Kd.R_drew)); exact HO_3.out) hb); have n1_ := Aside0.mk (below_step (by repeat (first | (with_reducible first | exact HB.out | apply below_alloc | apply pw_below_drewN | apply below_drew1) | exact HB.out)) hb); clear HO_3; clear HB; have HO_3 := n0_; have HB := n1_; clear n0_ n1_; (try clear hb); (try clear hb2); (try clear hk); (try clear hi); obtain ⟨Ao24, co24, eo24⟩ := Kd.R_slice HO_3.out; subst eo24) | ((with_reducible refine gate_builtin (b := .append) (xs := #[.tmp 30, .tmp 31]) rfl ?_); at_builtin; refine Kd.R_append (Kd.int .i64) (w0 := w) w.heap.size rfl (.tmp 30) (.tmp 31) 34 3 (.int .i64 0) 8 rfl Try.underlying34 info3 rfl (by decide) (by omega) (.slice Ao24 x3_2.length co24) x3_2 1 [.int .i64 1] (fun _ => True) (fun _ => False) rfl rfl ?aP (fun _ hk => hk.elim) ?aF ?aO ?aB ?aS ?aL ?_; (case aP => exact rfl); (case aB => exact (by repeat (first | (with_reducible first | exact HB.out | apply below_alloc | apply pw_below_drewN | apply below_drew1) | exact HB.out))); (case aF => exact (fun _ _ => trivial)); (case aO => exact (by (with_reducible repeat (first | apply Kd.R_alloc | apply Kd.R_drewN | apply Kd.R_drew)); exact HO_3.out)); (case aS => exact (below_size (by repeat (first | (with_reducible first | exact HB.out | apply below_alloc | apply pw_below_drewN | apply below_drew1) | exact HB.out)))); (case aL => have := LMc13.out; omega); intro v111 w25 ho hb hg hat; rw [← Ny110.out] at ho; have n0_ := Aside0.mk (hb); have n1_ := Aside0.mk (ho); clear HB; clear HO_3; have HB := n0_; have HO112 := n1_; clear n0_ n1_; clear ho hb hg hat; obtain ⟨Ao26, co26, eo26⟩ := Kd.R_slice HO112.out; subst eo26; have p113 : 0 ≤ (x19_2 : Int) := of_decide_eq_true (by first | (with_reducible assumption) | assumption); have q113 : x19_2 < (y110.length : Int) := of_decide_eq_true (by first | (with_reducible assumption) | assumption); obtain ⟨ad113, e113, hx113_0⟩ := Kd.at_int (Kd.R_reads' HO112.out).2.2 x19_2 p113 q113; cases e113; replace p113 := eq_true p113; replace q113 := eq_true q113))
                                go_roundg k2
                                case measure => have := HK1.out; have := HK2.out; omega
                                case rel => exact ⟨(y110), (wrap64 (x19_2 + 1)), (by first | rfl | (simp; done) | (simp [*]; done)), H', ⟨by have := HK1.out; have := HK2.out; omega⟩, ⟨by (with_reducible repeat (first | apply Kd.R_alloc | apply Kd.R_drewN | apply Kd.R_drew)); exact HO112.out⟩, ⟨by repeat (first | (with_reducible first | exact HB.out | apply below_alloc | apply pw_below_drewN | apply below_drew1) | exact HB.out)⟩⟩
                            · rw [if_neg c14] at H
                              exact absurd H (by simp)
                          · rw [if_neg c13] at H
                            exact absurd H (by simp)
                        · rw [if_neg c12] at H
                          have c12b0 : decide ((x3_2.length : Int) ≤ x19_2) = false := decide_eq_false c12
                          clear c12
                          by_cases c27 : x19_2 < (x3_2.length : Int)
                          · rw [if_pos c27] at H
                            have c27b0 : decide (x19_2 < (x3_2.length : Int)) = true := decide_eq_true c27
                            clear c27
                            by_cases c28 : t109 > (rd x3_2 x19_2)
                            · rw [if_pos c28] at H
                              have c28b0 : decide ((rd x3_2 x19_2) < t109) = true := decide_eq_true c28
                              clear c28
                              obtain ⟨y116, hy116⟩ : ∃ y_ : List Int, y_ = (x3_2.set (x19_2 : Int).toNat t109) := ⟨_, rfl⟩
                              replace H : (table_calculateMaxCounts.l1 k2 y116 l0 (l0.length : Int) x13_1 (rd_L4 l0 x13_1) ((rd_L4 l0 x13_1).length : Int) (wrap64 (x19_2 + 1))) = some r := by first | (rw [hy116]; with_reducible exact H) | (have H2_ := (Option.bind_some _ _).symm.trans H; rw [hy116]; with_reducible exact H2_) | (have H2_ := (Option.bind_some _ _).symm.trans H; with_reducible exact H2_) | with_reducible exact H | (rw [hy116]; exact H) | exact H
                              have Ny116 := Aside0.mk hy116
                              clear hy116
                              have H' := Aside0.mk H
                              clear H
                              have p108 : 0 ≤ (x19_2 : Int) := of_decide_eq_true (by first | (with_reducible assumption) | assumption)
                              have q108 : x19_2 < ((rd_L4 l0 x13_1).length : Int) := of_decide_eq_true (by first | (with_reducible assumption) | assumption)
                              obtain ⟨ad108, A108_0, c108_0, e108, hx108_0, hl108_0, hi108_0⟩ := at_L3 HR107_0.out x19_2 p108 q108
                              cases e108
                              replace hx108_0 := (HB.out.cell (World.block_lt_of_cell? w _ hx108_0)).trans hx108_0
                              have HR108_0 := Aside0.mk hi108_0
                              have HC108_0 := Aside0.mk hl108_0
                              clear hi108_0 hl108_0
                              replace p108 := eq_true p108
                              replace q108 := eq_true q108
                              go_wp2_with (first | ((with_reducible refine gate_callee (f := 33) rfl ?_); refine goesL_ (some 25) rfl rfl Try.func33 (by kernel_rfl) rfl #[.slice A108_0 (rd_L3 (rd_L4 l0 x13_1) x19_2).length c108_0] rfl (by (try simp only [List.map_toArray, List.map_cons, List.map_nil]); first | done | rfl | (simp only [List.length_drop, List.length_take]; rfl)) ?_; (with_reducible refine (utf8_RuneCount.calls _ _ (rd_L3 (rd_L4 l0 x13_1) x19_2) t109 _ ?side1 ?side2 A11.out).mono ?_); (case side1 => repeat (first | exact (Kd.C_below HR108_0.out HB.out) | (with_reducible refine Kd.C_alloc ?_ _) | (with_reducible refine Kd.C_drewN ?_ _) | (with_reducible refine Kd.C_drew ?_))); (case side2 => exact HC108_0.out); rintro e w30 ⟨rfl, hb⟩; refine ⟨_, rfl, ?_⟩; have n0_ := Aside0.mk (Kd.R_below (by (with_reducible repeat (first | apply Kd.R_alloc | apply Kd.R_drewN | apply Kd.R_drew)); exact HO_3.out) hb); have n1_ := Aside0.mk (below_step (by repeat (first | (with_reducible first | exact HB.out | apply below_alloc | apply pw_below_drewN | apply below_drew1) | exact HB.out)) hb); clear HO_3; clear HB; have HO_3 := n0_; have HB := n1_; clear n0_ n1_; (try clear hb); (try clear hb2); (try clear hk); (try clear hi); obtain ⟨Ao31, co31, eo31⟩ := Kd.R_slice HO_3.out; subst eo31; have p115 : 0 ≤ (x19_2 : Int) := of_decide_eq_true (by first | (with_reducible assumption) | assumption); have q115 : x19_2 < (x3_2.length : Int) := of_decide_eq_true (by first | (with_reducible assumption) | assumption); obtain ⟨ad115, e115, hx115_0⟩ := Kd.at_int (Kd.R_reads' HO_3.out).2.2 x19_2 p115 q115; cases e115; replace p115 := eq_true p115; replace q115 := eq_true q115; have p29 : 0 ≤ (x19_2 : Int) := of_decide_eq_true (by first | (with_reducible assumption) | assumption); have q29 : (x19_2 : Int) < ((x3_2.length : Int) : Int) := of_decide_eq_true (by first | (with_reducible assumption) | assumption); obtain ⟨go29, co29, eo29, gb29, gl29, cl29, HG29⟩ := Kd.R_form HO_3.out (by omega); (first | cases eo29 | (injection eo29 with ea_ en_ ec_; (first | subst ea_ | (injection ea_ with ea_; subst ea_)); subst ec_; clear en_)); have GB29 := Aside0.mk gb29; have GG29 := Aside0.mk HG29; clear gb29 gl29 HG29; (first | simp only [add_plain] at hx115_0 | skip); obtain ⟨hx29_0, hf29_0⟩ := Kd.R_celln 0 HO_3.out (x19_2 : Int) p29 q29; replace p29 := eq_true p29; replace q29 := eq_true q29; obtain ⟨hy32_, hz32_⟩ := Kd.R_celln 0 HO_3.out (x19_2 : Int) (of_decide_eq_true (by first | (with_reducible assumption) | assumption)) (of_decide_eq_true (by first | (with_reducible assumption) | assumption)); have HP32 := Kd.R_putg HO_3.out (x19_2 : Int) t109) | ((with_reducible refine gate_store (t := 3) (p := 43) rfl ?_); refine store_event (t := 3) (p := 43) (v := ?vo_w33) (w1 := (w30.setCell ⟨go29, (x19_2 : Int).toNat, none⟩ (.int .i64 t109))) ?hg ?ho ?hn ?hr ?_; (case ho => rfl); (case hg => rfl); (case hn => rfl); (case hr => first | (go_simp; done) | (go_simp; rfl)); intro w33 hw; have hg : w30.grownBy w33 (some go29) := (by rw [hw]; exact HP32.2); have hp_ : Kd.R (Kd.int .i64) 3 w33 w.heap.size (fun _ => True) (.slice (some ⟨go29, 0, none⟩) x3_2.length co31) y116 := (by rw [hw, Ny116.out]; exact HP32.1); clear HP32; have n0_ := Aside0.mk (hp_); have n1_ := Aside0.mk ((by rw [hw]; exact below_set (HB.out) GB29.out : Below w.heap.size w w33)); clear HO_3; clear HB; have HO_3 := n0_; have HB := n1_; clear n0_ n1_; clear hg hw hp_))
                              go_roundg k2
                              case measure => have := HK1.out; have := HK2.out; omega
                              case rel => exact ⟨(y116), (wrap64 (x19_2 + 1)), (by first | rfl | (simp; done) | (simp [*]; done)), H', ⟨by have := HK1.out; have := HK2.out; omega⟩, ⟨by (with_reducible repeat (first | apply Kd.R_alloc | apply Kd.R_drewN | apply Kd.R_drew)); exact HO_3.out⟩, ⟨by repeat (first | (with_reducible first | exact HB.out | apply below_alloc | apply pw_below_drewN | apply below_drew1) | exact HB.out)⟩⟩
                            · rw [if_neg c28] at H
                              have c28b0 : decide ((rd x3_2 x19_2) < t109) = false := decide_eq_false c28
                              clear c28
                              have H' := Aside0.mk H
                              clear H
                              have p108 : 0 ≤ (x19_2 : Int) := of_decide_eq_true (by first | (with_reducible assumption) | assumption)
                              have q108 : x19_2 < ((rd_L4 l0 x13_1).length : Int) := of_decide_eq_true (by first | (with_reducible assumption) | assumption)
                              obtain ⟨ad108, A108_0, c108_0, e108, hx108_0, hl108_0, hi108_0⟩ := at_L3 HR107_0.out x19_2 p108 q108
                              cases e108
                              replace hx108_0 := (HB.out.cell (World.block_lt_of_cell? w _ hx108_0)).trans hx108_0
                              have HR108_0 := Aside0.mk hi108_0
                              have HC108_0 := Aside0.mk hl108_0
                              clear hi108_0 hl108_0
                              replace p108 := eq_true p108
                              replace q108 := eq_true q108
                              go_wp2_with (first | ((with_reducible refine gate_callee (f := 33) rfl ?_); refine goesL_ (some 25) rfl rfl Try.func33 (by kernel_rfl) rfl #[.slice A108_0 (rd_L3 (rd_L4 l0 x13_1) x19_2).length c108_0] rfl (by (try simp only [List.map_toArray, List.map_cons, List.map_nil]); first | done | rfl | (simp only [List.length_drop, List.length_take]; rfl)) ?_; (with_reducible refine (utf8_RuneCount.calls _ _ (rd_L3 (rd_L4 l0 x13_1) x19_2) t109 _ ?side1 ?side2 A11.out).mono ?_); (case side1 => repeat (first | exact (Kd.C_below HR108_0.out HB.out) | (with_reducible refine Kd.C_alloc ?_ _) | (with_reducible refine Kd.C_drewN ?_ _) | (with_reducible refine Kd.C_drew ?_))); (case side2 => exact HC108_0.out); rintro e w34 ⟨rfl, hb⟩; refine ⟨_, rfl, ?_⟩; have n0_ := Aside0.mk (Kd.R_below (by (with_reducible repeat (first | apply Kd.R_alloc | apply Kd.R_drewN | apply Kd.R_drew)); exact HO_3.out) hb); have n1_ := Aside0.mk (below_step (by repeat (first | (with_reducible first | exact HB.out | apply below_alloc | apply pw_below_drewN | apply below_drew1) | exact HB.out)) hb); clear HO_3; clear HB; have HO_3 := n0_; have HB := n1_; clear n0_ n1_; (try clear hb); (try clear hb2); (try clear hk); (try clear hi); obtain ⟨Ao35, co35, eo35⟩ := Kd.R_slice HO_3.out; subst eo35; have p115 : 0 ≤ (x19_2 : Int) := of_decide_eq_true (by first | (with_reducible assumption) | assumption); have q115 : x19_2 < (x3_2.length : Int) := of_decide_eq_true (by first | (with_reducible assumption) | assumption); obtain ⟨ad115, e115, hx115_0⟩ := Kd.at_int (Kd.R_reads' HO_3.out).2.2 x19_2 p115 q115; cases e115; replace p115 := eq_true p115; replace q115 := eq_true q115))
                              go_roundg k2
                              case measure => have := HK1.out; have := HK2.out; omega
                              case rel => exact ⟨(x3_2), (wrap64 (x19_2 + 1)), (by first | rfl | (simp; done) | (simp [*]; done)), H', ⟨by have := HK1.out; have := HK2.out; omega⟩, ⟨by (with_reducible repeat (first | apply Kd.R_alloc | apply Kd.R_drewN | apply Kd.R_drew)); exact HO_3.out⟩, ⟨by repeat (first | (with_reducible first | exact HB.out | apply below_alloc | apply pw_below_drewN | apply below_drew1) | exact HB.out)⟩⟩
                          · rw [if_neg c27] at H
                            exact absurd H (by simp)
                      · rw [if_neg c10] at H
                        exact absurd H (by simp)
                    · rw [if_neg c9] at H
                      exact absurd H (by simp)
                  · rw [if_neg c8] at H
                    have c8b0 : decide (x19_2 < ((rd_L4 l0 x13_1).length : Int)) = false := decide_eq_false c8
                    clear c8
                    have H' := Aside0.mk H
                    clear H
                    go_wp2
                    go_roundg k2
                    case measure => have := HK1.out; have := HK2.out; omega
                    case rel => exact ⟨(x3_2), (wrap64 (x13_1 + 1)), (by first | rfl | (simp; done) | (simp [*]; done)), H', ⟨by have := HK1.out; have := HK2.out; omega⟩, ⟨by (with_reducible repeat (first | apply Kd.R_alloc | apply Kd.R_drewN | apply Kd.R_drew)); exact HO_3.out⟩, ⟨by repeat (first | (with_reducible first | exact HB.out | apply below_alloc | apply pw_below_drewN | apply below_drew1) | exact HB.out)⟩⟩
            · rw [if_neg c7] at H
              exact absurd H (by simp)
          · rw [if_neg c6] at H
            exact absurd H (by simp)
        · rw [if_neg c5] at H
          have c5b0 : decide (x13_1 < (l0.length : Int)) = false := decide_eq_false c5
          clear c5
          obtain rfl := Option.some.inj H
          go_wp2
          go_ret
          exact ⟨_, by first | rfl | (simp [errW_none, errW_some] <;> rfl) | (simp [*, errW_none, errW_some] <;> rfl), by (with_reducible repeat (first | apply Kd.R_alloc | apply Kd.R_drewN | apply Kd.R_drew)); exact HO_3.out, by repeat (first | (with_reducible first | exact HB.out | apply below_alloc | apply pw_below_drewN | apply below_drew1) | exact HB.out)⟩
  · rw [if_neg c2] at H
    exact absurd H (by simp)

/-! ### table_ZzWidths: function 22 -/
def table_ZzWidths.f (k : Nat) (l0 : List (List (List Int))) : Option (List Int) := (table_calculateMaxCounts.f k l0).bind fun t117 => (some t117)
theorem table_ZzWidths.mono : ∀ a0 k, LeO (table_ZzWidths.f k a0) (table_ZzWidths.f (k + 1) a0) := by
  intro a0 k
  unfold table_ZzWidths.f
  repeat' first
      | (with_reducible exact table_calculateMaxCounts.mono _ _)
      | (with_reducible exact LeO.refl _)
      | (with_reducible exact LeO.none _)
      | (with_reducible refine LeO.ite ?_ ?_)
      | (with_reducible refine LeO.bind ?_ (fun _ => ?_))
      | exact table_calculateMaxCounts.mono _ _
      | exact LeO.none _
      | refine LeO.ite ?_ ?_
      | refine LeO.bind ?_ (fun _ => ?_)
set_option maxHeartbeats 8000000 in
set_option maxRecDepth 100000 in
theorem table_ZzWidths.calls (k : Nat) (A0 : Option Addr) (c0 : Nat) (l0 : List (List (List Int))) (r : List Int) (w : World) (hr0 : Kd.C (Kd.slice 37 (Kd.slice 5 (Kd.int .u8))) w A0 l0.length l0) (hc0 : l0.length ≤ c0) (h : table_ZzWidths.f k l0 = some r) :
    Calls Try.prog 22 #[.slice A0 l0.length c0] w fun e w' => ∃ v0_ : Value, e = .returned (v0_) ∧ Kd.R (Kd.int .i64) 3 w' w.heap.size (fun _ => True) v0_ r ∧ Below w.heap.size w w' := by
  have HR0 := Aside0.mk hr0
  have HC0 := Aside0.mk hc0
  clear hr0 hc0
  have HB := Aside0.mk (Below.refl w.heap.size w)
  have H : ((table_calculateMaxCounts.f k l0).bind fun t117 => (some t117)) = some r := h
  clear h
  replace H := Option.bind_eq_some_iff.mp H
  obtain ⟨t117, A20, H⟩ := H
  replace H : (some t117) = some r := H
  have A2 := Aside0.mk A20
  clear A20
  obtain rfl := Option.some.inj H
  go_enter Try.func22, Try.ntmps22
  go_wp2_with (first | ((with_reducible refine gate_callee (f := 28) rfl ?_); refine goesL_ (some 4) rfl rfl Try.func28 (by kernel_rfl) rfl #[.slice A0 l0.length c0] rfl (by (try simp only [List.map_toArray, List.map_cons, List.map_nil]); first | done | rfl | (simp only [List.length_drop, List.length_take]; rfl)) ?_; (with_reducible refine (table_calculateMaxCounts.calls k _ _ l0 t117 _ ?side1 ?side2 A2.out).mono ?_); (case side1 => repeat (first | exact HR0.out | (with_reducible refine Kd.C_alloc ?_ _) | (with_reducible refine Kd.C_drewN ?_ _) | (with_reducible refine Kd.C_drew ?_))); (case side2 => exact HC0.out); rintro e w3 ⟨v118, rfl, ho0, hb⟩; refine ⟨_, rfl, ?_⟩; have n0_ := Aside0.mk (Kd.R_lower ho0 (below_size (by repeat (first | (with_reducible first | exact HB.out | apply below_alloc | apply pw_below_drewN | apply below_drew1) | exact HB.out)))); have n1_ := Aside0.mk (below_step (by repeat (first | (with_reducible first | exact HB.out | apply below_alloc | apply pw_below_drewN | apply below_drew1) | exact HB.out)) hb); clear HB; have HO119 := n0_; have HB := n1_; clear n0_ n1_; (try clear hb); (try clear hb2); (try clear hk); (try clear hi); (try clear ho0)))
  go_ret
  exact ⟨_, by first | rfl | (simp [errW_none, errW_some] <;> rfl) | (simp [*, errW_none, errW_some] <;> rfl), by (with_reducible repeat (first | apply Kd.R_alloc | apply Kd.R_drewN | apply Kd.R_drew)); exact HO119.out, by repeat (first | (with_reducible first | exact HB.out | apply below_alloc | apply pw_below_drewN | apply below_drew1) | exact HB.out)⟩

-- NOT PRINTED: function 29 (impl_cellsOf)

-- NOT PRINTED: function 23 (impl_bytesOf)

-- NOT PRINTED: function 15 (impl_Widths)

-- NOT PRINTED: function 6 (laws_FnWidths)

end Go.Proofs.Ytgkdpjlmklhjaaa.PFnWidths
