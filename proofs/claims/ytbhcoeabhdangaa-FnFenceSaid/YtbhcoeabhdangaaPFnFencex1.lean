-- PRINTED BY print.sh 35421559b90ae4d0a3588c463048766b98c2df88dd9212a6774a882060cdf62d: not written by this session
import Derived.Test.YtbhcoeabhdangaaPFnFencex0
namespace Go.Proofs.Ytbhcoeabhdangaa.PFnFence
open Go.RowKit Go.Proofs.YtbhcoeabhdangaaW.PrintWords Go.Proofs.YtbhcoeabhdangaaW.PrintLast Go.Proofs.YtbhcoeabhdangaaW.PrintMore
attribute [local go_sem] max2_int min2_int max_two min_two max_three min_three max_four min_four   -- for this text's walks alone
set_option linter.unusedVariables false
set_option linter.unusedSimpArgs false

/-! ### textutils_findMax: function 47 -/
def textutils_findMax.l0 : Nat → List Int → Int → List Int → Int → Int → Option (Int)
  | 0, _, _, _, _, _ => none
  | k + 1, x0, x2, x5, x6, x7 => if x7 < x6 then (if 0 ≤ x7 then (if x7 < (x5.length : Int) then (if x7 = 0 then (if x7 < (x0.length : Int) then (if (rd x5 x7) > (rd x0 x7) then (textutils_findMax.l0 k x0 (rd x5 x7) x5 x6 (wrap64 (x7 + 1))) else (textutils_findMax.l0 k x0 (rd x0 x7) x5 x6 (wrap64 (x7 + 1)))) else (none)) else (if (rd x5 x7) > x2 then (textutils_findMax.l0 k x0 (rd x5 x7) x5 x6 (wrap64 (x7 + 1))) else (textutils_findMax.l0 k x0 x2 x5 x6 (wrap64 (x7 + 1))))) else (none)) else (none)) else (some x2)
def textutils_findMax.f (k : Nat) (l0 : List Int) : Option (Int) := textutils_findMax.l0 k l0 0 l0 (l0.length : Int) 0
theorem textutils_findMax.mono_l : ∀ k, (∀ y0 y1 y2 y3 y4, LeO (textutils_findMax.l0 k y0 y1 y2 y3 y4) (textutils_findMax.l0 (k + 1) y0 y1 y2 y3 y4))
  | 0 => fun _ _ _ _ _ r h => by simp [textutils_findMax.l0] at h
  | k + 1 => by
    have ih0 := textutils_findMax.mono_l k
    · intro y0 y1 y2 y3 y4
      unfold textutils_findMax.l0
      repeat' first
      | (with_reducible exact ih0 _ _ _ _ _)
      | (with_reducible exact LeO.refl _)
      | (with_reducible exact LeO.none _)
      | (with_reducible refine LeO.ite ?_ ?_)
      | (with_reducible refine LeO.bind ?_ (fun _ => ?_))
      | exact ih0 _ _ _ _ _
      | exact LeO.none _
      | refine LeO.ite ?_ ?_
      | refine LeO.bind ?_ (fun _ => ?_)
theorem textutils_findMax.mono : ∀ a0 k, LeO (textutils_findMax.f k a0) (textutils_findMax.f (k + 1) a0) := by
  intro a0 k
  have ih0 := textutils_findMax.mono_l k
  unfold textutils_findMax.f
  repeat' first
      | (with_reducible exact ih0 _ _ _ _ _)
      | (with_reducible exact LeO.refl _)
      | (with_reducible exact LeO.none _)
      | (with_reducible refine LeO.ite ?_ ?_)
      | (with_reducible refine LeO.bind ?_ (fun _ => ?_))
      | exact ih0 _ _ _ _ _
      | exact LeO.none _
      | refine LeO.ite ?_ ?_
      | refine LeO.bind ?_ (fun _ => ?_)
set_option maxHeartbeats 8000000 in
set_option maxRecDepth 100000 in
theorem textutils_findMax.calls (k : Nat) (A0 : Option Addr) (c0 : Nat) (l0 : List Int) (r : Int) (w : World) (hr0 : Kd.C (Kd.int .i64) w A0 l0.length l0) (hc0 : l0.length ≤ c0) (h : textutils_findMax.f k l0 = some r) :
    Calls Try.prog 47 #[.slice A0 l0.length c0] w fun e w' => e = .returned (.int .i64 r) ∧ Drawn0 w w' := by
  have HR0 := Aside0.mk hr0
  have HC0 := Aside0.mk hc0
  clear hr0 hc0
  have H : (textutils_findMax.l0 k l0 0 l0 (l0.length : Int) 0) = some r := h
  clear h
  have H' := Aside0.mk H
  clear H
  go_enter Try.func47, Try.ntmps47
  go_wp2
  go_loopg [2, 7] k (fun kq v2 v7 w' => ∃ (x2_1 : Int) (x7_1 : Int), v2 = .int .i64 x2_1 ∧ v7 = .int .i64 x7_1 ∧ Aside0 (textutils_findMax.l0 kq l0 x2_1 l0 (l0.length : Int) x7_1 = some r) ∧ Aside0 (kq ≤ k) ∧ Drawn0 w w')
  case atStart => exact ⟨(0), (0), (by first | rfl | (simp; done) | (simp [*]; done)), (by first | rfl | (simp; done) | (simp [*]; done)), H', ⟨Nat.le_refl _⟩, by repeat (first | exact Drawn0.refl _ | apply Drawn0.step)⟩
  case round =>
    clear H'
    obtain ⟨x2_1, x7_1, rfl, rfl, HA, HK1, ⟨m1, rfl⟩⟩ := hrel
    cases gk with
    | zero => exact absurd HA.out (by simp [textutils_findMax.l0])
    | succ k1 =>
      have H := HA.out
      clear HA
      simp only [textutils_findMax.l0] at H
      by_cases c2 : x7_1 < (l0.length : Int)
      · rw [if_pos c2] at H
        have c2b0 : decide (x7_1 < (l0.length : Int)) = true := decide_eq_true c2
        clear c2
        by_cases c3 : 0 ≤ x7_1
        · rw [if_pos c3] at H
          have c3b0 : decide (0 ≤ x7_1) = true := decide_eq_true c3
          clear c3
          by_cases c4 : x7_1 < (l0.length : Int)
          · rw [if_pos c4] at H
            have c4b0 : decide (x7_1 < (l0.length : Int)) = true := decide_eq_true c4
            clear c4
            by_cases c5 : x7_1 = 0
            · rw [if_pos c5] at H
              have c5b0 : (x7_1 == 0) = true := beq_iff_eq.mpr c5
              have c5b1 : (x7_1 != 0) = false := bne_eq_false_iff_eq.mpr c5
              clear c5
              by_cases c6 : x7_1 < (l0.length : Int)
              · rw [if_pos c6] at H
                have c6b0 : decide (x7_1 < (l0.length : Int)) = true := decide_eq_true c6
                clear c6
                by_cases c7 : (rd l0 x7_1) > (rd l0 x7_1)
                · rw [if_pos c7] at H
                  have c7b0 : decide ((rd l0 x7_1) < (rd l0 x7_1)) = true := decide_eq_true c7
                  clear c7
                  have H' := Aside0.mk H
                  clear H
                  have p101 : 0 ≤ (x7_1 : Int) := of_decide_eq_true (by first | (with_reducible assumption) | assumption)
                  have q101 : x7_1 < (l0.length : Int) := of_decide_eq_true (by first | (with_reducible assumption) | assumption)
                  obtain ⟨ad101, e101, hx101_0⟩ := Kd.at_int HR0.out x7_1 p101 q101
                  cases e101
                  replace p101 := eq_true p101
                  replace q101 := eq_true q101
                  have p102 : 0 ≤ (x7_1 : Int) := of_decide_eq_true (by first | (with_reducible assumption) | assumption)
                  have q102 : x7_1 < (l0.length : Int) := of_decide_eq_true (by first | (with_reducible assumption) | assumption)
                  obtain ⟨ad102, e102, hx102_0⟩ := Kd.at_int HR0.out x7_1 p102 q102
                  obtain rfl : ad101 = ad102 := (by injection e102)
                  replace p102 := eq_true p102
                  replace q102 := eq_true q102
                  go_wp2
                  go_roundg k1
                  case measure => have := HK1.out; omega
                  case rel => exact ⟨(rd l0 x7_1), (wrap64 (x7_1 + 1)), (by first | rfl | (simp; done) | (simp [*]; done)), (by first | rfl | (simp; done) | (simp [*]; done)), H', ⟨by have := HK1.out; omega⟩, by repeat (first | exact Drawn0.refl _ | apply Drawn0.step)⟩
                · rw [if_neg c7] at H
                  have c7b0 : decide ((rd l0 x7_1) < (rd l0 x7_1)) = false := decide_eq_false c7
                  clear c7
                  have H' := Aside0.mk H
                  clear H
                  have p101 : 0 ≤ (x7_1 : Int) := of_decide_eq_true (by first | (with_reducible assumption) | assumption)
                  have q101 : x7_1 < (l0.length : Int) := of_decide_eq_true (by first | (with_reducible assumption) | assumption)
                  obtain ⟨ad101, e101, hx101_0⟩ := Kd.at_int HR0.out x7_1 p101 q101
                  cases e101
                  replace p101 := eq_true p101
                  replace q101 := eq_true q101
                  have p102 : 0 ≤ (x7_1 : Int) := of_decide_eq_true (by first | (with_reducible assumption) | assumption)
                  have q102 : x7_1 < (l0.length : Int) := of_decide_eq_true (by first | (with_reducible assumption) | assumption)
                  obtain ⟨ad102, e102, hx102_0⟩ := Kd.at_int HR0.out x7_1 p102 q102
                  obtain rfl : ad101 = ad102 := (by injection e102)
                  replace p102 := eq_true p102
                  replace q102 := eq_true q102
                  go_wp2
                  go_roundg k1
                  case measure => have := HK1.out; omega
                  case rel => exact ⟨(rd l0 x7_1), (wrap64 (x7_1 + 1)), (by first | rfl | (simp; done) | (simp [*]; done)), (by first | rfl | (simp; done) | (simp [*]; done)), H', ⟨by have := HK1.out; omega⟩, by repeat (first | exact Drawn0.refl _ | apply Drawn0.step)⟩
              · rw [if_neg c6] at H
                exact absurd H (by simp)
            · rw [if_neg c5] at H
              have c5b0 : (x7_1 == 0) = false := beq_eq_false_iff_ne.mpr c5
              have c5b1 : (x7_1 != 0) = true := bne_iff_ne.mpr c5
              by_cases c8 : (rd l0 x7_1) > x2_1
              · rw [if_pos c8] at H
                have c8b0 : decide (x2_1 < (rd l0 x7_1)) = true := decide_eq_true c8
                clear c8
                have H' := Aside0.mk H
                clear H
                have p101 : 0 ≤ (x7_1 : Int) := of_decide_eq_true (by first | (with_reducible assumption) | assumption)
                have q101 : x7_1 < (l0.length : Int) := of_decide_eq_true (by first | (with_reducible assumption) | assumption)
                obtain ⟨ad101, e101, hx101_0⟩ := Kd.at_int HR0.out x7_1 p101 q101
                cases e101
                replace p101 := eq_true p101
                replace q101 := eq_true q101
                go_wp2
                go_roundg k1
                case measure => have := HK1.out; omega
                case rel => exact ⟨(rd l0 x7_1), (wrap64 (x7_1 + 1)), (by first | rfl | (simp; done) | (simp [*]; done)), (by first | rfl | (simp; done) | (simp [*]; done)), H', ⟨by have := HK1.out; omega⟩, by repeat (first | exact Drawn0.refl _ | apply Drawn0.step)⟩
              · rw [if_neg c8] at H
                have c8b0 : decide (x2_1 < (rd l0 x7_1)) = false := decide_eq_false c8
                clear c8
                have H' := Aside0.mk H
                clear H
                have p101 : 0 ≤ (x7_1 : Int) := of_decide_eq_true (by first | (with_reducible assumption) | assumption)
                have q101 : x7_1 < (l0.length : Int) := of_decide_eq_true (by first | (with_reducible assumption) | assumption)
                obtain ⟨ad101, e101, hx101_0⟩ := Kd.at_int HR0.out x7_1 p101 q101
                cases e101
                replace p101 := eq_true p101
                replace q101 := eq_true q101
                go_wp2
                go_roundg k1
                case measure => have := HK1.out; omega
                case rel => exact ⟨(x2_1), (wrap64 (x7_1 + 1)), (by first | rfl | (simp; done) | (simp [*]; done)), (by first | rfl | (simp; done) | (simp [*]; done)), H', ⟨by have := HK1.out; omega⟩, by repeat (first | exact Drawn0.refl _ | apply Drawn0.step)⟩
          · rw [if_neg c4] at H
            exact absurd H (by simp)
        · rw [if_neg c3] at H
          exact absurd H (by simp)
      · rw [if_neg c2] at H
        have c2b0 : decide (x7_1 < (l0.length : Int)) = false := decide_eq_false c2
        clear c2
        obtain rfl := Option.some.inj H
        go_wp2
        go_ret
        exact ⟨by first | rfl | (simp; done) | (simp [*]; done), by repeat (first | exact Drawn0.refl _ | apply Drawn0.step)⟩

-- NOT PRINTED: function 29 (textutils_CalculateCodeFenceOccurrences)

/-! ### bits_Mul32: function 70 -/
def bits_Mul32.f (a0 : Int) (a1 : Int) : Option (Int × Int) := some (((IntKind.u64.wrap ((IntKind.u64.wrap (a0)) * (IntKind.u64.wrap (a1)))) / 4294967296) % 4294967296, (IntKind.u64.wrap ((IntKind.u64.wrap (a0)) * (IntKind.u64.wrap (a1)))) % 4294967296)
set_option maxHeartbeats 8000000 in
set_option maxRecDepth 100000 in
theorem bits_Mul32.calls (a0 : Int) (a1 : Int) (r1 : Int) (r2 : Int) (w : World) (h : bits_Mul32.f a0 a1 = some (r1, r2)) :
    Calls Try.prog 70 #[.int .u32 a0, .int .u32 a1] w fun e w' => e = .returned (.tuple #[.int .u32 r1, .int .u32 r2]) ∧ Drawn0 w w' := by
  have H : (some (((IntKind.u64.wrap ((IntKind.u64.wrap (a0)) * (IntKind.u64.wrap (a1)))) / 4294967296) % 4294967296, (IntKind.u64.wrap ((IntKind.u64.wrap (a0)) * (IntKind.u64.wrap (a1)))) % 4294967296)) = some (r1, r2) := h
  clear h
  simp only [Option.some.injEq, Prod.mk.injEq] at H
  obtain ⟨rfl, rfl⟩ := H
  go_enter Try.func70, Try.ntmps70
  go_wp2
  go_ret2
  exact ⟨by first | rfl | (simp; done) | (simp [*]; done), by repeat (first | exact Drawn0.refl _ | apply Drawn0.step)⟩

/-! ### bits_Mul64: function 71 -/
def bits_Mul64.f (a0 : Int) (a1 : Int) : Option (Int × Int) := some (IntKind.u64.wrap ((IntKind.u64.wrap ((IntKind.u64.wrap ((a0 / 4294967296) * (a1 / 4294967296))) + ((IntKind.u64.wrap ((IntKind.u64.wrap ((a0 / 4294967296) * (Go.bits .and .u64 a1 4294967295))) + ((IntKind.u64.wrap ((Go.bits .and .u64 a0 4294967295) * (Go.bits .and .u64 a1 4294967295))) / 4294967296))) / 4294967296))) + ((IntKind.u64.wrap ((Go.bits .and .u64 (IntKind.u64.wrap ((IntKind.u64.wrap ((a0 / 4294967296) * (Go.bits .and .u64 a1 4294967295))) + ((IntKind.u64.wrap ((Go.bits .and .u64 a0 4294967295) * (Go.bits .and .u64 a1 4294967295))) / 4294967296))) 4294967295) + (IntKind.u64.wrap ((Go.bits .and .u64 a0 4294967295) * (a1 / 4294967296))))) / 4294967296)), IntKind.u64.wrap (a0 * a1))
set_option maxHeartbeats 8000000 in
set_option maxRecDepth 100000 in
theorem bits_Mul64.calls (a0 : Int) (a1 : Int) (r1 : Int) (r2 : Int) (w : World) (h : bits_Mul64.f a0 a1 = some (r1, r2)) :
    Calls Try.prog 71 #[.int .u64 a0, .int .u64 a1] w fun e w' => e = .returned (.tuple #[.int .u64 r1, .int .u64 r2]) ∧ Drawn0 w w' := by
  have H : (some (IntKind.u64.wrap ((IntKind.u64.wrap ((IntKind.u64.wrap ((a0 / 4294967296) * (a1 / 4294967296))) + ((IntKind.u64.wrap ((IntKind.u64.wrap ((a0 / 4294967296) * (Go.bits .and .u64 a1 4294967295))) + ((IntKind.u64.wrap ((Go.bits .and .u64 a0 4294967295) * (Go.bits .and .u64 a1 4294967295))) / 4294967296))) / 4294967296))) + ((IntKind.u64.wrap ((Go.bits .and .u64 (IntKind.u64.wrap ((IntKind.u64.wrap ((a0 / 4294967296) * (Go.bits .and .u64 a1 4294967295))) + ((IntKind.u64.wrap ((Go.bits .and .u64 a0 4294967295) * (Go.bits .and .u64 a1 4294967295))) / 4294967296))) 4294967295) + (IntKind.u64.wrap ((Go.bits .and .u64 a0 4294967295) * (a1 / 4294967296))))) / 4294967296)), IntKind.u64.wrap (a0 * a1))) = some (r1, r2) := h
  clear h
  simp only [Option.some.injEq, Prod.mk.injEq] at H
  obtain ⟨rfl, rfl⟩ := H
  go_enter Try.func71, Try.ntmps71
  go_wp2
  go_ret2
  exact ⟨by first | rfl | (simp; done) | (simp [*]; done), by repeat (first | exact Drawn0.refl _ | apply Drawn0.step)⟩

/-! ### bits_Mul: function 48 -/
def bits_Mul.f (a0 : Int) (a1 : Int) : Option (Int × Int) := (bits_Mul64.f a0 a1).bind fun bt103 => (some (bt103.1, bt103.2))
set_option maxHeartbeats 8000000 in
set_option maxRecDepth 100000 in
theorem bits_Mul.calls (a0 : Int) (a1 : Int) (r1 : Int) (r2 : Int) (w : World) (h : bits_Mul.f a0 a1 = some (r1, r2)) :
    Calls Try.prog 48 #[.int .u64 a0, .int .u64 a1] w fun e w' => e = .returned (.tuple #[.int .u64 r1, .int .u64 r2]) ∧ Drawn0 w w' := by
  have H : ((bits_Mul64.f a0 a1).bind fun bt103 => (some (bt103.1, bt103.2))) = some (r1, r2) := h
  clear h
  replace H := Option.bind_eq_some_iff.mp H
  obtain ⟨⟨t103, t104⟩, A30, H⟩ := H
  replace H : (some (t103, t104)) = some (r1, r2) := H
  have A3 := Aside0.mk A30
  clear A30
  simp only [Option.some.injEq, Prod.mk.injEq] at H
  obtain ⟨rfl, rfl⟩ := H
  go_enter Try.func48, Try.ntmps48
  go_wp2_with (first | ((with_reducible refine gate_callee (f := 71) rfl ?_); refine goesL_ (some 25) rfl rfl Try.func71 (by kernel_rfl) rfl #[.int .u64 a0, .int .u64 a1] rfl (by (try simp only [List.map_toArray, List.map_cons, List.map_nil]); first | done | rfl | (simp only [List.length_drop, List.length_take]; rfl)) ?_; (with_reducible refine (bits_Mul64.calls a0 a1 t103 t104 _ A3.out).mono ?_); rintro e w' ⟨rfl, ⟨nd, rfl⟩⟩; refine ⟨_, rfl, ?_⟩))
  go_ret2
  exact ⟨by first | rfl | (simp; done) | (simp [*]; done), by repeat (first | exact Drawn0.refl _ | apply Drawn0.step)⟩

/-! ### stringslite_HasPrefix: function 72 -/
def stringslite_HasPrefix.f (a0 : ByteArray) (a1 : ByteArray) : Option (Bool) := if (a0.size : Int) ≥ (a1.size : Int) then (if 0 ≤ (a1.size : Int) then (if (a1.size : Int) ≤ (a0.size : Int) then (some ((a0.extract 0 ((a1.size : Int) : Int).toNat).toList == a1.toList)) else (none)) else (none)) else (some false)
set_option maxHeartbeats 8000000 in
set_option maxRecDepth 100000 in
theorem stringslite_HasPrefix.calls (a0 : ByteArray) (a1 : ByteArray) (r : Bool) (w : World) (h : stringslite_HasPrefix.f a0 a1 = some r) :
    Calls Try.prog 72 #[.string a0, .string a1] w fun e w' => e = .returned (.bool r) ∧ Drawn0 w w' := by
  have H : (if (a0.size : Int) ≥ (a1.size : Int) then (if 0 ≤ (a1.size : Int) then (if (a1.size : Int) ≤ (a0.size : Int) then (some ((a0.extract 0 ((a1.size : Int) : Int).toNat).toList == a1.toList)) else (none)) else (none)) else (some false)) = some r := h
  clear h
  by_cases c3 : (a0.size : Int) ≥ (a1.size : Int)
  · rw [if_pos c3] at H
    have c3b0 : decide ((a1.size : Int) ≤ (a0.size : Int)) = true := decide_eq_true c3
    have c3b1 : decide (a1.size ≤ a0.size) = true := decide_eq_true (Int.ofNat_le.mp c3)
    clear c3
    by_cases c4 : 0 ≤ (a1.size : Int)
    · rw [if_pos c4] at H
      have c4b0 := eq_true c4
      have c4b1 : decide (0 ≤ (a1.size : Int)) = true := decide_eq_true c4
      clear c4
      by_cases c5 : (a1.size : Int) ≤ (a0.size : Int)
      · rw [if_pos c5] at H
        have c5b0 := eq_true c5
        have c5b1 : decide ((a1.size : Int) ≤ (a0.size : Int)) = true := decide_eq_true c5
        clear c5
        obtain rfl := Option.some.inj H
        go_enter Try.func72, Try.ntmps72
        go_wp2
        go_ret
        exact ⟨by first | rfl | (simp; done) | (simp [*]; done), by repeat (first | exact Drawn0.refl _ | apply Drawn0.step)⟩
      · rw [if_neg c5] at H
        exact absurd H (by simp)
    · rw [if_neg c4] at H
      exact absurd H (by simp)
  · rw [if_neg c3] at H
    have c3b0 : decide ((a1.size : Int) ≤ (a0.size : Int)) = false := decide_eq_false c3
    have c3b1 : decide (a1.size ≤ a0.size) = false := decide_eq_false (fun h => c3 (Int.ofNat_le.mpr h))
    clear c3
    obtain rfl := Option.some.inj H
    go_enter Try.func72, Try.ntmps72
    go_wp2
    go_ret
    exact ⟨by first | rfl | (simp; done) | (simp [*]; done), by repeat (first | exact Drawn0.refl _ | apply Drawn0.step)⟩

/-! ### strings_HasPrefix: function 49 -/
def strings_HasPrefix.f (a0 : ByteArray) (a1 : ByteArray) : Option (Bool) := (stringslite_HasPrefix.f a0 a1).bind fun t105 => (some t105)
set_option maxHeartbeats 8000000 in
set_option maxRecDepth 100000 in
theorem strings_HasPrefix.calls (a0 : ByteArray) (a1 : ByteArray) (r : Bool) (w : World) (h : strings_HasPrefix.f a0 a1 = some r) :
    Calls Try.prog 49 #[.string a0, .string a1] w fun e w' => e = .returned (.bool r) ∧ Drawn0 w w' := by
  have H : ((stringslite_HasPrefix.f a0 a1).bind fun t105 => (some t105)) = some r := h
  clear h
  replace H := Option.bind_eq_some_iff.mp H
  obtain ⟨t105, A30, H⟩ := H
  replace H : (some t105) = some r := H
  have A3 := Aside0.mk A30
  clear A30
  obtain rfl := Option.some.inj H
  go_enter Try.func49, Try.ntmps49
  go_wp2_with (first | ((with_reducible refine gate_callee (f := 72) rfl ?_); refine goesL_ (some 7) rfl rfl Try.func72 (by kernel_rfl) rfl #[.string a0, .string a1] rfl (by (try simp only [List.map_toArray, List.map_cons, List.map_nil]); first | done | rfl | (simp only [List.length_drop, List.length_take]; rfl)) ?_; (with_reducible refine (stringslite_HasPrefix.calls a0 a1 t105 _ A3.out).mono ?_); rintro e w' ⟨rfl, ⟨nd, rfl⟩⟩; refine ⟨_, rfl, ?_⟩))
  go_ret
  exact ⟨by first | rfl | (simp; done) | (simp [*]; done), by repeat (first | exact Drawn0.refl _ | apply Drawn0.step)⟩

-- NOT PRINTED: function 76 (abi_NoEscape)

-- NOT PRINTED: function 73 (strings_Builder_copyCheck)

-- NOT PRINTED: function 77 (bytealg_MakeNoZero)

-- NOT PRINTED: function 74 (strings_Builder_grow)

-- NOT PRINTED: function 50 (strings_Builder_Grow)

-- NOT PRINTED: function 51 (strings_Builder_WriteString)

-- NOT PRINTED: function 52 (strings_Builder_Len)

-- NOT PRINTED: function 53 (strings_Builder_String)

-- NOT PRINTED: function 30 (strings_Repeat)

-- NOT PRINTED: function 21 (textutils_CalculateCodeFence)

-- NOT PRINTED: function 10 (impl_Fence)

/-! ### spec_Times29: function 11 -/
def spec_Times29.l0 : Nat → ByteArray → List Int → Int → Int → Option (ByteArray)
  | 0, _, _, _, _ => none
  | k + 1, x0, x5, x7, x8 => if x8 < x7 then (if x5.length + x0.size < 140737488355328 then (spec_Times29.l0 k x0 (x5 ++ bytesOf x0) x7 (wrap64 (x8 + 1))) else (none)) else (some (strOfNums x5))
def spec_Times29.f (k : Nat) (a0 : ByteArray) (a1 : Int) : Option (ByteArray) := spec_Times29.l0 k a0 (([] : List Int)) a1 0
theorem spec_Times29.mono_l : ∀ k, (∀ y0 y1 y2 y3, LeO (spec_Times29.l0 k y0 y1 y2 y3) (spec_Times29.l0 (k + 1) y0 y1 y2 y3))
  | 0 => fun _ _ _ _ r h => by simp [spec_Times29.l0] at h
  | k + 1 => by
    have ih0 := spec_Times29.mono_l k
    · intro y0 y1 y2 y3
      unfold spec_Times29.l0
      repeat' first
      | (with_reducible exact ih0 _ _ _ _)
      | (with_reducible exact LeO.refl _)
      | (with_reducible exact LeO.none _)
      | (with_reducible refine LeO.ite ?_ ?_)
      | (with_reducible refine LeO.bind ?_ (fun _ => ?_))
      | exact ih0 _ _ _ _
      | exact LeO.none _
      | refine LeO.ite ?_ ?_
      | refine LeO.bind ?_ (fun _ => ?_)
theorem spec_Times29.mono : ∀ a0 a1 k, LeO (spec_Times29.f k a0 a1) (spec_Times29.f (k + 1) a0 a1) := by
  intro a0 a1 k
  have ih0 := spec_Times29.mono_l k
  unfold spec_Times29.f
  repeat' first
      | (with_reducible exact ih0 _ _ _ _)
      | (with_reducible exact LeO.refl _)
      | (with_reducible exact LeO.none _)
      | (with_reducible refine LeO.ite ?_ ?_)
      | (with_reducible refine LeO.bind ?_ (fun _ => ?_))
      | exact ih0 _ _ _ _
      | exact LeO.none _
      | refine LeO.ite ?_ ?_
      | refine LeO.bind ?_ (fun _ => ?_)
set_option maxHeartbeats 8000000 in
set_option maxRecDepth 100000 in
theorem spec_Times29.calls (k : Nat) (a0 : ByteArray) (a1 : Int) (r : ByteArray) (w : World) (h : spec_Times29.f k a0 a1 = some r) :
    Calls Try.prog 11 #[.string a0, .int .i64 a1] w fun e w' => e = .returned (.string r) ∧ Below w.heap.size w w' := by
  have HB := Aside0.mk (Below.refl w.heap.size w)
  have H : (spec_Times29.l0 k a0 (([] : List Int)) a1 0) = some r := h
  clear h
  obtain ⟨y106, hy106⟩ : ∃ y_ : List Int, y_ = (([] : List Int)) := ⟨_, rfl⟩
  replace H : (spec_Times29.l0 k a0 y106 a1 0) = some r := by first | (rw [hy106]; with_reducible exact H) | (have H2_ := (Option.bind_some _ _).symm.trans H; rw [hy106]; with_reducible exact H2_) | (have H2_ := (Option.bind_some _ _).symm.trans H; with_reducible exact H2_) | with_reducible exact H | (rw [hy106]; exact H) | exact H
  have Ny106 := Aside0.mk hy106
  clear hy106
  have H' := Aside0.mk H
  clear H
  go_enter Try.func11, Try.ntmps11
  go_wp2_with (first | ((with_reducible refine gate_dst (N := 6) rfl ?_); refine Kd.R_lit (Kd.int .u8) _ 5 ?hg (N := 6) ?hd (xs := ([] : List Int)) (inner := []) (ok := fun _ => True) (okp := fun _ => True) ?hr ?hp (fun _ hk => hk) trivial (Below.refl _ _) (Nat.le_refl _) (by simp) ?_; (case hd => rfl); (case hg => rfl); (case hr => first | (go_simp; done) | (go_simp; rfl)); (case hp => exact (Reps.none _ _)); intro v107 w3 ho4 hb hg_ hnew_; clear hg_ hnew_; (first | rw [← Ny106.out] at ho4 | (simp only [Int.reduceToNat] at ho4; rw [← Ny106.out] at ho4)); have n0_ := Aside0.mk (Kd.R_lower ho4 (below_size (by repeat (first | (with_reducible first | exact HB.out | apply below_alloc | apply pw_below_drewN | apply below_drew1) | exact HB.out)))); have n1_ := Aside0.mk (below_step (by repeat (first | (with_reducible first | exact HB.out | apply below_alloc | apply pw_below_drewN | apply below_drew1) | exact HB.out)) hb); clear HB; have HO108 := n0_; have HB := n1_; clear n0_ n1_; clear hb ho4))
  go_loopg [5, 8] k (fun kq v5 v8 w' => ∃ (x5_1 : List Int) (x8_1 : Int), v8 = .int .i64 x8_1 ∧ Aside0 (spec_Times29.l0 kq a0 x5_1 a1 x8_1 = some r) ∧ Aside0 (kq ≤ k) ∧ Aside0 (Kd.R (Kd.int .u8) 5 w' w.heap.size (fun _ => True) v5 x5_1) ∧ Aside0 (Below w.heap.size w w'))
  case atStart => exact ⟨(y106), (0), (by first | rfl | (simp; done) | (simp [*]; done)), H', ⟨Nat.le_refl _⟩, ⟨by (with_reducible repeat (first | apply Kd.R_alloc | apply Kd.R_drewN | apply Kd.R_drew)); exact HO108.out⟩, ⟨by repeat (first | (with_reducible first | exact HB.out | apply below_alloc | apply pw_below_drewN | apply below_drew1) | exact HB.out)⟩⟩
  case round =>
    clear H'
    try clear c1
    try clear p2
    obtain ⟨x5_1, x8_1, rfl, HA, HK1, HO_5, HB⟩ := hrel
    cases gk with
    | zero => exact absurd HA.out (by simp [spec_Times29.l0])
    | succ k1 =>
      have H := HA.out
      clear HA
      simp only [spec_Times29.l0] at H
      by_cases c5 : x8_1 < a1
      · rw [if_pos c5] at H
        have c5b0 : decide (x8_1 < a1) = true := decide_eq_true c5
        clear c5
        by_cases c6 : x5_1.length + a0.size < 140737488355328
        · rw [if_pos c6] at H
          have LMc6 := Aside0.mk c6
          clear c6
          obtain ⟨y109, hy109⟩ : ∃ y_ : List Int, y_ = (x5_1 ++ bytesOf a0) := ⟨_, rfl⟩
          replace H : (spec_Times29.l0 k1 a0 y109 a1 (wrap64 (x8_1 + 1))) = some r := by first | (rw [hy109]; with_reducible exact H) | (have H2_ := (Option.bind_some _ _).symm.trans H; rw [hy109]; with_reducible exact H2_) | (have H2_ := (Option.bind_some _ _).symm.trans H; with_reducible exact H2_) | with_reducible exact H | (rw [hy109]; exact H) | exact H
          have Ny109 := Aside0.mk hy109
          clear hy109
          have H' := Aside0.mk H
          clear H
          go_wp2_with (first | (at_builtin; refine print_append_str (w0 := w) w.heap.size rfl (.tmp 10) _ 34 9 5 rfl Try.underlying34 Try.underlying9 info5 u5 x5_1 a0 rfl rfl ?aO ?aB ?aS ?aL ?_; (case aB => exact (by repeat (first | (with_reducible first | exact HB.out | apply below_alloc | apply pw_below_drewN | apply below_drew1) | exact HB.out))); (case aO => exact (Kd.own_of_R (by (with_reducible repeat (first | apply Kd.R_alloc | apply Kd.R_drewN | apply Kd.R_drew)); exact HO_5.out))); (case aS => exact (below_size (by repeat (first | (with_reducible first | exact HB.out | apply below_alloc | apply pw_below_drewN | apply below_drew1) | exact HB.out)))); (case aL => have := LMc6.out; omega); intro v110 w7 ho0 hb hg; have ho := Kd.R_of_own (h1 := fun _ => rfl) (ok := fun _ => True) ho0 (fun _ _ => trivial); clear ho0; have hat := True.intro; rw [← Ny109.out] at ho; change Kd.R (Kd.int .u8) 5 w7 w.heap.size (fun _ => True) v110 y109 at ho; have n0_ := Aside0.mk (hb); have n1_ := Aside0.mk (ho); clear HB; clear HO_5; have HB := n0_; have HO111 := n1_; clear n0_ n1_; clear ho hb hg hat))
          go_roundg k1
          case measure => have := HK1.out; omega
          case rel => exact ⟨(y109), (wrap64 (x8_1 + 1)), (by first | rfl | (simp; done) | (simp [*]; done)), H', ⟨by have := HK1.out; omega⟩, ⟨by (with_reducible repeat (first | apply Kd.R_alloc | apply Kd.R_drewN | apply Kd.R_drew)); exact HO111.out⟩, ⟨by repeat (first | (with_reducible first | exact HB.out | apply below_alloc | apply pw_below_drewN | apply below_drew1) | exact HB.out)⟩⟩
        · rw [if_neg c6] at H
          exact absurd H (by simp)
      · rw [if_neg c5] at H
        have c5b0 : decide (x8_1 < a1) = false := decide_eq_false c5
        clear c5
        obtain rfl := Option.some.inj H
        have hcv8 := own_string (P := Try.prog) Try.underlying34 Try.underlying5 Try.underlying9 (Kd.own_of_R HO_5.out)
        go_wp2
        go_ret
        exact ⟨by first | rfl | (simp [errW_none, errW_some] <;> rfl) | (simp [*, errW_none, errW_some] <;> rfl), by repeat (first | (with_reducible first | exact HB.out | apply below_alloc | apply pw_below_drewN | apply below_drew1) | exact HB.out)⟩

-- NOT PRINTED: function 12 (spec_Run29)

-- NOT PRINTED: function 4 (laws_FnFence)

end Go.Proofs.Ytbhcoeabhdangaa.PFnFence
