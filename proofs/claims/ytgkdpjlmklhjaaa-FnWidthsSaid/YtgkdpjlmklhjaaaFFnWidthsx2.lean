/- Printed by the program extprint.py of this session, out of the kit's print and contracts of this session's own; Lean checks it. -/
import Derived.Test.YtgkdpjlmklhjaaaEFnWidthsx0
import Derived.Test.YtgkdpjlmklhjaaaEFnWidthsx1
import Derived.Test.YtgkdpjlmklhjaaaRunesXFnWidths
import Derived.Test.YtgkdpjlmklhjaaaWidthsX
namespace Go.Proofs.Ytgkdpjlmklhjaaa.PFnWidths
open Go.RowKit Go.Proofs.YtgkdpjlmklhjaaaW.PrintWords Go.Proofs.YtgkdpjlmklhjaaaW.PrintLast Go.Proofs.YtgkdpjlmklhjaaaW.PrintMore
attribute [local go_sem] max2_int min2_int max_two min_two max_three min_three max_four min_four   -- for this text's walks alone
set_option linter.unusedVariables false
set_option linter.unusedSimpArgs false

/-! ### laws_FnWidths: function 6 -/
mutual
def laws_FnWidths.l0 : Nat → List (List ByteArray) → List Int → List (List ByteArray) → Int → Int → Option (Bool)
  | 0, _, _, _, _, _ => none
  | k + 1, x0, x3, x13, x14, x15 => if x15 < x14 then (if 0 ≤ x15 then (if x15 < (x13.length : Int) then (laws_FnWidths.l1 k x0 x3 x13 x14 x15 (rd_L1 x13 x15) ((rd_L1 x13 x15).length : Int) 0) else (none)) else (none)) else ((impl_Widths.f k x0).bind fun t134 => (if (t134.length : Int) = (x3.length : Int) then (laws_FnWidths.l2 k x0 x3 t134 (t134.length : Int) 0) else (some false)))
def laws_FnWidths.l1 : Nat → List (List ByteArray) → List Int → List (List ByteArray) → Int → Int → List ByteArray → Int → Int → Option (Bool)
  | 0, _, _, _, _, _, _, _, _ => none
  | k + 1, x0, x3, x13, x14, x15, x19, x20, x21 => if x21 < x20 then (if 0 ≤ x21 then (if x21 < (x19.length : Int) then (if x21 = (x3.length : Int) then (if x3.length < 17592186044416 then ((some (x3 ++ [1] : List Int)).bind fun y125 => (if x21 < (y125.length : Int) then ((spec_Runes29.f (rdOf ByteArray.empty x19 x21)).bind fun t129 => (laws_FnWidths.l1 k x0 (y125.set (x21 : Int).toNat (mx (rd y125 x21) t129)) x13 x14 x15 x19 x20 (wrap64 (x21 + 1)))) else (none))) else (none)) else (if x21 < (x3.length : Int) then ((spec_Runes29.f (rdOf ByteArray.empty x19 x21)).bind fun t132 => (laws_FnWidths.l1 k x0 (x3.set (x21 : Int).toNat (mx (rd x3 x21) t132)) x13 x14 x15 x19 x20 (wrap64 (x21 + 1)))) else (none))) else (none)) else (none)) else (laws_FnWidths.l0 k x0 x3 x13 x14 (wrap64 (x15 + 1)))
def laws_FnWidths.l2 : Nat → List (List ByteArray) → List Int → List Int → Int → Int → Option (Bool)
  | 0, _, _, _, _, _ => none
  | k + 1, x0, x3, x8, x53, x54 => if x54 < x53 then (if 0 ≤ x54 then (if x54 < (x8.length : Int) then (if x54 < (x3.length : Int) then (if (rd x8 x54) = (rd x3 x54) then (laws_FnWidths.l2 k x0 x3 x8 x53 (wrap64 (x54 + 1))) else (some false)) else (none)) else (none)) else (none)) else (if (x0.length : Int) > 0 then (some true) else ((impl_Widths.f k (([(([(⟨#[97]⟩ : ByteArray)] : List ByteArray))] : List (List ByteArray)))).bind fun t145 => (some ((t145.length : Int) == 1))))
end
def laws_FnWidths.f (k : Nat) (l0 : List (List ByteArray)) : Option (Bool) := (laws_zzFits6.f k l0).bind fun t122 => (if t122 = true then (laws_FnWidths.l0 k l0 ([] : List Int) l0 (l0.length : Int) 0) else (some true))
theorem laws_FnWidths.mono_l : ∀ k, (∀ y0 y1 y2 y3 y4, LeO (laws_FnWidths.l0 k y0 y1 y2 y3 y4) (laws_FnWidths.l0 (k + 1) y0 y1 y2 y3 y4)) ∧ (∀ y0 y1 y2 y3 y4 y5 y6 y7, LeO (laws_FnWidths.l1 k y0 y1 y2 y3 y4 y5 y6 y7) (laws_FnWidths.l1 (k + 1) y0 y1 y2 y3 y4 y5 y6 y7)) ∧ (∀ y0 y1 y2 y3 y4, LeO (laws_FnWidths.l2 k y0 y1 y2 y3 y4) (laws_FnWidths.l2 (k + 1) y0 y1 y2 y3 y4))
  | 0 => ⟨fun _ _ _ _ _ r h => by simp [laws_FnWidths.l0] at h, fun _ _ _ _ _ _ _ _ r h => by simp [laws_FnWidths.l1] at h, fun _ _ _ _ _ r h => by simp [laws_FnWidths.l2] at h⟩
  | k + 1 => by
    obtain ⟨ih0, ih1, ih2⟩ := laws_FnWidths.mono_l k
    refine ⟨?_, ?_, ?_⟩
    · intro y0 y1 y2 y3 y4
      unfold laws_FnWidths.l0
      repeat' first
      | (with_reducible exact ih0 _ _ _ _ _)
      | (with_reducible exact ih1 _ _ _ _ _ _ _ _)
      | (with_reducible exact ih2 _ _ _ _ _)
      | (with_reducible exact impl_Widths.mono _ _)
      | (with_reducible exact laws_zzFits6.mono _ _)
      | (with_reducible exact LeO.refl _)
      | (with_reducible exact LeO.none _)
      | (with_reducible refine LeO.ite ?_ ?_)
      | (with_reducible refine LeO.bind ?_ (fun _ => ?_))
      | exact ih0 _ _ _ _ _
      | exact ih1 _ _ _ _ _ _ _ _
      | exact ih2 _ _ _ _ _
      | exact impl_Widths.mono _ _
      | exact laws_zzFits6.mono _ _
      | exact LeO.none _
      | refine LeO.ite ?_ ?_
      | refine LeO.bind ?_ (fun _ => ?_)
    · intro y0 y1 y2 y3 y4 y5 y6 y7
      unfold laws_FnWidths.l1
      repeat' first
      | (with_reducible exact ih0 _ _ _ _ _)
      | (with_reducible exact ih1 _ _ _ _ _ _ _ _)
      | (with_reducible exact ih2 _ _ _ _ _)
      | (with_reducible exact impl_Widths.mono _ _)
      | (with_reducible exact laws_zzFits6.mono _ _)
      | (with_reducible exact LeO.refl _)
      | (with_reducible exact LeO.none _)
      | (with_reducible refine LeO.ite ?_ ?_)
      | (with_reducible refine LeO.bind ?_ (fun _ => ?_))
      | exact ih0 _ _ _ _ _
      | exact ih1 _ _ _ _ _ _ _ _
      | exact ih2 _ _ _ _ _
      | exact impl_Widths.mono _ _
      | exact laws_zzFits6.mono _ _
      | exact LeO.none _
      | refine LeO.ite ?_ ?_
      | refine LeO.bind ?_ (fun _ => ?_)
    · intro y0 y1 y2 y3 y4
      unfold laws_FnWidths.l2
      repeat' first
      | (with_reducible exact ih0 _ _ _ _ _)
      | (with_reducible exact ih1 _ _ _ _ _ _ _ _)
      | (with_reducible exact ih2 _ _ _ _ _)
      | (with_reducible exact impl_Widths.mono _ _)
      | (with_reducible exact laws_zzFits6.mono _ _)
      | (with_reducible exact LeO.refl _)
      | (with_reducible exact LeO.none _)
      | (with_reducible refine LeO.ite ?_ ?_)
      | (with_reducible refine LeO.bind ?_ (fun _ => ?_))
      | exact ih0 _ _ _ _ _
      | exact ih1 _ _ _ _ _ _ _ _
      | exact ih2 _ _ _ _ _
      | exact impl_Widths.mono _ _
      | exact laws_zzFits6.mono _ _
      | exact LeO.none _
      | refine LeO.ite ?_ ?_
      | refine LeO.bind ?_ (fun _ => ?_)
theorem laws_FnWidths.mono : ∀ a0 k, LeO (laws_FnWidths.f k a0) (laws_FnWidths.f (k + 1) a0) := by
  intro a0 k
  obtain ⟨ih0, ih1, ih2⟩ := laws_FnWidths.mono_l k
  unfold laws_FnWidths.f
  repeat' first
      | (with_reducible exact ih0 _ _ _ _ _)
      | (with_reducible exact ih1 _ _ _ _ _ _ _ _)
      | (with_reducible exact ih2 _ _ _ _ _)
      | (with_reducible exact impl_Widths.mono _ _)
      | (with_reducible exact laws_zzFits6.mono _ _)
      | (with_reducible exact LeO.refl _)
      | (with_reducible exact LeO.none _)
      | (with_reducible refine LeO.ite ?_ ?_)
      | (with_reducible refine LeO.bind ?_ (fun _ => ?_))
      | exact ih0 _ _ _ _ _
      | exact ih1 _ _ _ _ _ _ _ _
      | exact ih2 _ _ _ _ _
      | exact impl_Widths.mono _ _
      | exact laws_zzFits6.mono _ _
      | exact LeO.none _
      | refine LeO.ite ?_ ?_
      | refine LeO.bind ?_ (fun _ => ?_)
def laws_FnWidths.T12 : Bool × List (List Nat × List Nat) := (true, [([], []), ([], []), ([], []), ([], []), ([2, 3], [2, 3]), ([4], [4]), ([], []), ([6], [6]), ([5, 7], [5, 7]), ([0, 1, 0, 1, 2, 3, 4, 5, 6, 7, 8], [0, 1]), ([9, 8, 7, 0, 1, 2, 3, 4, 5, 6, 7, 8], [8, 9])])
def laws_FnWidths.B12 : List Nat := [0, 0, 0, 0, 12, 28, 0, 64, 252, 511, 1023]
theorem laws_FnWidths.tab12 : rtab .any (opsOf Try.f6 12) = laws_FnWidths.T12 := by kernel_rfl
theorem laws_FnWidths.bits12 : waitsOk laws_FnWidths.T12.2 laws_FnWidths.B12 = true := by kernel_rfl
def laws_FnWidths.T21 : Bool × List (List Nat × List Nat) := (true, [([], []), ([], []), ([0, 1], [0, 1]), ([2], [2]), ([], []), ([], []), ([4, 5], [4, 5]), ([6], [6]), ([3, 7], [3, 7])])
def laws_FnWidths.B21 : List Nat := [0, 0, 3, 7, 0, 0, 48, 112, 255]
theorem laws_FnWidths.tab21 : rtab .any (opsOf Try.f6 21) = laws_FnWidths.T21 := by kernel_rfl
theorem laws_FnWidths.bits21 : waitsOk laws_FnWidths.T21.2 laws_FnWidths.B21 = true := by kernel_rfl
set_option maxHeartbeats 8000000 in
set_option maxRecDepth 100000 in
theorem laws_FnWidths.calls (k : Nat) (A0 : Option Addr) (c0 : Nat) (l0 : List (List ByteArray)) (r : Bool) (w : World) (hr0 : Kd.C (Kd.slice 9 Kd.string) w A0 l0.length l0) (hc0 : l0.length ≤ c0) (h : laws_FnWidths.f k l0 = some r) :
    Calls Try.prog 6 #[.slice A0 l0.length c0] w fun e w' => e = .returned (.bool r) ∧ Below w.heap.size w w' := by
  have HR0 := Aside0.mk hr0
  have HC0 := Aside0.mk hc0
  clear hr0 hc0
  have HB := Aside0.mk (Below.refl w.heap.size w)
  have H : ((laws_zzFits6.f k l0).bind fun t122 => (if t122 = true then (laws_FnWidths.l0 k l0 ([] : List Int) l0 (l0.length : Int) 0) else (some true))) = some r := h
  clear h
  replace H := Option.bind_eq_some_iff.mp H
  obtain ⟨t122, A20, H⟩ := H
  replace H : (if t122 = true then (laws_FnWidths.l0 k l0 ([] : List Int) l0 (l0.length : Int) 0) else (some true)) = some r := H
  have A2 := Aside0.mk A20
  clear A20
  by_cases c3 : t122 = true
  · subst c3
    have H1 : (laws_FnWidths.l0 k l0 ([] : List Int) l0 (l0.length : Int) 0) = some r := by rw [if_pos rfl] at H; exact H
    clear H
    have H := H1
    clear H1
    have H' := Aside0.mk H
    clear H
    go_enter Try.func6, Try.ntmps6
    go_wp2_with (first | ((with_reducible refine gate_callee (f := 13) rfl ?_); refine goesL_ (some 11) rfl rfl Try.func13 (by kernel_rfl) rfl #[.slice A0 l0.length c0] rfl (by (try simp only [List.map_toArray, List.map_cons, List.map_nil]); first | done | rfl | (simp only [List.length_drop, List.length_take]; rfl)) ?_; (with_reducible refine (laws_zzFits6.calls k _ _ l0 true _ ?side1 ?side2 A2.out).mono ?_); (case side1 => repeat (first | exact HR0.out | (with_reducible refine Kd.C_alloc ?_ _) | (with_reducible refine Kd.C_drewN ?_ _) | (with_reducible refine Kd.C_drew ?_))); (case side2 => exact HC0.out); rintro e w' ⟨rfl, ⟨nd, rfl⟩⟩; refine ⟨_, rfl, ?_⟩))
    go_loopg [3, 15] k (fun kq v3 v15 w' => ∃ (x3_1 : List Int) (x15_1 : Int), v15 = .int .i64 x15_1 ∧ Aside0 (laws_FnWidths.l0 kq l0 x3_1 l0 (l0.length : Int) x15_1 = some r) ∧ Aside0 (kq ≤ k) ∧ Aside0 (Kd.R (Kd.int .i64) 3 w' w.heap.size (fun _ => True) v3 x3_1) ∧ Aside0 (Below w.heap.size w w'))
    case atStart => exact ⟨(([] : List Int)), (0), (by first | rfl | (simp; done) | (simp [*]; done)), H', ⟨Nat.le_refl _⟩, ⟨by first | exact Kd.R_nil _ _ _ _ _ | exact Kd.N_nil _ _ _ _ _ | exact Kd.V_nil _ _ _ _ _ | exact Kd.Q_nil _ _ _ _ _ | exact Kd.S_nil _ _ _ _ _⟩, ⟨by repeat (first | (with_reducible first | exact HB.out | apply below_alloc | apply pw_below_drewN | apply below_drew1) | exact HB.out)⟩⟩
    case round =>
      clear H'
      try clear c1
      try clear p2
      try clear c3
      obtain ⟨x3_1, x15_1, rfl, HA, HK1, HO_3, HB⟩ := hrel
      cases gk with
      | zero => exact absurd HA.out (by simp [laws_FnWidths.l0])
      | succ k1 =>
        have H := HA.out
        clear HA
        simp only [laws_FnWidths.l0] at H
        by_cases c4 : x15_1 < (l0.length : Int)
        · rw [if_pos c4] at H
          have c4b0 : decide (x15_1 < (l0.length : Int)) = true := decide_eq_true c4
          clear c4
          by_cases c5 : 0 ≤ x15_1
          · rw [if_pos c5] at H
            have c5b0 : decide (0 ≤ x15_1) = true := decide_eq_true c5
            clear c5
            by_cases c6 : x15_1 < (l0.length : Int)
            · rw [if_pos c6] at H
              have c6b0 : decide (x15_1 < (l0.length : Int)) = true := decide_eq_true c6
              clear c6
              have H' := Aside0.mk H
              clear H
              have p123 : 0 ≤ (x15_1 : Int) := of_decide_eq_true (by first | (with_reducible assumption) | assumption)
              have q123 : x15_1 < (l0.length : Int) := of_decide_eq_true (by first | (with_reducible assumption) | assumption)
              obtain ⟨ad123, A123_0, c123_0, e123, hx123_0, hl123_0, hi123_0⟩ := at_L1 HR0.out x15_1 p123 q123
              cases e123
              replace hx123_0 := (HB.out.cell (World.block_lt_of_cell? w _ hx123_0)).trans hx123_0
              have HR123_0 := Aside0.mk hi123_0
              have HC123_0 := Aside0.mk hl123_0
              clear hi123_0 hl123_0
              replace p123 := eq_true p123
              replace q123 := eq_true q123
              go_wp2
              go_loopg [3, 21] k1 (fun kq v3 v21 w' => ∃ (x3_2 : List Int) (x21_2 : Int), v21 = .int .i64 x21_2 ∧ Aside0 (laws_FnWidths.l1 kq l0 x3_2 l0 (l0.length : Int) x15_1 (rd_L1 l0 x15_1) ((rd_L1 l0 x15_1).length : Int) x21_2 = some r) ∧ Aside0 (kq ≤ k1) ∧ Aside0 (Kd.R (Kd.int .i64) 3 w' w.heap.size (fun _ => True) v3 x3_2) ∧ Aside0 (Below w.heap.size w w'))
              case atStart => exact ⟨(x3_1), (0), (by first | rfl | (simp; done) | (simp [*]; done)), H', ⟨Nat.le_refl _⟩, ⟨by (with_reducible repeat (first | apply Kd.R_alloc | apply Kd.R_drewN | apply Kd.R_drew)); exact HO_3.out⟩, ⟨by repeat (first | (with_reducible first | exact HB.out | apply below_alloc | apply pw_below_drewN | apply below_drew1) | exact HB.out)⟩⟩
              case round =>
                clear H'
                try clear c1
                try clear p1
                try clear q1
                try clear hx1
                try clear p2
                try clear c3
                try clear c4
                try clear c4b0
                try clear c5
                try clear c5b0
                try clear c6
                try clear c6b0
                try clear hx123_0
                try clear p123
                try clear p2
                try clear q123
                obtain ⟨x3_2, x21_2, rfl, HA, HK2, HO_3, HB⟩ := hrel
                cases gk with
                | zero => exact absurd HA.out (by simp [laws_FnWidths.l1])
                | succ k2 =>
                  have H := HA.out
                  clear HA
                  simp only [laws_FnWidths.l1] at H
                  by_cases c7 : x21_2 < ((rd_L1 l0 x15_1).length : Int)
                  · rw [if_pos c7] at H
                    have c7b0 : decide (x21_2 < ((rd_L1 l0 x15_1).length : Int)) = true := decide_eq_true c7
                    clear c7
                    by_cases c8 : 0 ≤ x21_2
                    · rw [if_pos c8] at H
                      have c8b0 : decide (0 ≤ x21_2) = true := decide_eq_true c8
                      clear c8
                      by_cases c9 : x21_2 < ((rd_L1 l0 x15_1).length : Int)
                      · rw [if_pos c9] at H
                        have c9b0 : decide (x21_2 < ((rd_L1 l0 x15_1).length : Int)) = true := decide_eq_true c9
                        clear c9
                        by_cases c10 : x21_2 = (x3_2.length : Int)
                        · rw [if_pos c10] at H
                          have c10b0 : (x21_2 == (x3_2.length : Int)) = true := beq_iff_eq.mpr c10
                          have c10b1 : (x21_2 != (x3_2.length : Int)) = false := bne_eq_false_iff_eq.mpr c10
                          clear c10
                          by_cases c11 : x3_2.length < 17592186044416
                          · rw [if_pos c11] at H
                            have LMc11 := Aside0.mk c11
                            clear c11
                            obtain ⟨y125, hy125⟩ : ∃ y_ : List Int, y_ = (x3_2 ++ [1]) := ⟨_, rfl⟩
                            replace H : (if x21_2 < (y125.length : Int) then ((spec_Runes29.f (rdOf ByteArray.empty (rd_L1 l0 x15_1) x21_2)).bind fun t129 => (laws_FnWidths.l1 k2 l0 (y125.set (x21_2 : Int).toNat (mx (rd y125 x21_2) t129)) l0 (l0.length : Int) x15_1 (rd_L1 l0 x15_1) ((rd_L1 l0 x15_1).length : Int) (wrap64 (x21_2 + 1)))) else (none)) = some r := by first | (rw [hy125]; with_reducible exact H) | (have H2_ := (Option.bind_some _ _).symm.trans H; rw [hy125]; with_reducible exact H2_) | (have H2_ := (Option.bind_some _ _).symm.trans H; with_reducible exact H2_) | with_reducible exact H | (rw [hy125]; exact H) | exact H
                            have Ny125 := Aside0.mk hy125
                            clear hy125
                            by_cases c12 : x21_2 < (y125.length : Int)
                            · rw [if_pos c12] at H
                              have c12b0 : decide (x21_2 < (y125.length : Int)) = true := decide_eq_true c12
                              clear c12
                              replace H := Option.bind_eq_some_iff.mp H
                              obtain ⟨t129, A130, H⟩ := H
                              replace H : (laws_FnWidths.l1 k2 l0 (y125.set (x21_2 : Int).toNat (mx (rd y125 x21_2) t129)) l0 (l0.length : Int) x15_1 (rd_L1 l0 x15_1) ((rd_L1 l0 x15_1).length : Int) (wrap64 (x21_2 + 1))) = some r := H
                              have A13 := Aside0.mk A130
                              clear A130
                              obtain ⟨ji14, hji14⟩ : ∃ j_ : Int, (mx (rd y125 x21_2) t129) = j_ := ⟨_, rfl⟩
                              replace H : (laws_FnWidths.l1 k2 l0 (y125.set (x21_2 : Int).toNat (ji14)) l0 (l0.length : Int) x15_1 (rd_L1 l0 x15_1) ((rd_L1 l0 x15_1).length : Int) (wrap64 (x21_2 + 1))) = some r := by first | (rw [hji14] at H; exact H) | (simp only [hji14] at H ⊢; exact H)
                              (try rw [hji14] at A13)
                              have hji14_ : (if (rd y125 x21_2) < t129 then t129 else (rd y125 x21_2)) = ji14 := hji14
                              obtain ⟨y130, hy130⟩ : ∃ y_ : List Int, y_ = (y125.set (x21_2 : Int).toNat (ji14)) := ⟨_, rfl⟩
                              replace H : (laws_FnWidths.l1 k2 l0 y130 l0 (l0.length : Int) x15_1 (rd_L1 l0 x15_1) ((rd_L1 l0 x15_1).length : Int) (wrap64 (x21_2 + 1))) = some r := by first | (rw [hy130]; with_reducible exact H) | (have H2_ := (Option.bind_some _ _).symm.trans H; rw [hy130]; with_reducible exact H2_) | (have H2_ := (Option.bind_some _ _).symm.trans H; with_reducible exact H2_) | with_reducible exact H | (rw [hy130]; exact H) | exact H
                              have Ny130 := Aside0.mk hy130
                              clear hy130
                              have H' := Aside0.mk H
                              clear H
                              have p124 : 0 ≤ (x21_2 : Int) := of_decide_eq_true (by first | (with_reducible assumption) | assumption)
                              have q124 : x21_2 < ((rd_L1 l0 x15_1).length : Int) := of_decide_eq_true (by first | (with_reducible assumption) | assumption)
                              obtain ⟨ad124, e124, hx124_0⟩ := Kd.at_string HR123_0.out x21_2 p124 q124
                              cases e124
                              replace hx124_0 := (HB.out.cell (World.block_lt_of_cell? w _ hx124_0)).trans hx124_0
                              replace p124 := eq_true p124
                              replace q124 := eq_true q124
                              obtain ⟨Ao16, co16, eo16⟩ := Kd.R_slice HO_3.out
                              subst eo16
                              try go_wp2_with (first | ((with_reducible refine gate_builtin (b := .append) (xs := #[.tmp 30, .tmp 31]) rfl ?_); (try (refine gate_guard (by rfl) ?_; dsimp only)); at_builtin; refine Kd.R_append (Kd.int .i64) (w0 := w) w.heap.size rfl (.tmp 30) (.tmp 31) 34 3 (.int .i64 0) 8 rfl Try.underlying34 info3 rfl (by decide) (by omega) (.slice Ao16 x3_2.length co16) x3_2 1 [.int .i64 1] (fun _ => True) (fun _ => False) rfl rfl ?aP (fun _ hk => hk.elim) ?aF ?aO ?aB ?aS ?aL ?_; (case aP => exact rfl); (case aB => exact (by repeat (first | (with_reducible first | exact HB.out | apply below_alloc | apply pw_below_drewN | apply below_drew1) | exact HB.out))); (case aF => exact (fun _ _ => trivial)); (case aO => exact (by (with_reducible repeat (first | apply Kd.R_alloc | apply Kd.R_drewN | apply Kd.R_drew)); exact HO_3.out)); (case aS => exact (below_size (by repeat (first | (with_reducible first | exact HB.out | apply below_alloc | apply pw_below_drewN | apply below_drew1) | exact HB.out)))); (case aL => have := LMc11.out; omega); intro v126 w17 ho hb hg hat; rw [← Ny125.out] at ho; have n0_ := Aside0.mk (hb); have n1_ := Aside0.mk (ho); clear HB; clear HO_3; have HB := n0_; have HO127 := n1_; clear n0_ n1_; clear ho hb hg hat))
                              have n0_ := Aside0.mk (Kd.R_drew HO127.out)
                              have n1_ := Aside0.mk (below_drew1 HB.out)
                              clear HO127
                              clear HB
                              have HO127 := n0_
                              have HB := n1_
                              clear n0_ n1_
                              obtain ⟨Ao19, co19, eo19⟩ := Kd.R_slice HO127.out
                              (first | subst eo19 | (injection eo19 with f1_ f2_ f3_; have f4_ := f1_.symm; have f5_ := f3_.symm; clear f1_ f2_ f3_; subst f4_; subst f5_))
                              have p128 : 0 ≤ (x21_2 : Int) := of_decide_eq_true (by first | (with_reducible assumption) | assumption)
                              have q128 : x21_2 < (y125.length : Int) := of_decide_eq_true (by first | (with_reducible assumption) | assumption)
                              obtain ⟨ad128, e128, hx128_0⟩ := Kd.at_int (Kd.R_reads' HO127.out).2.2 x21_2 p128 q128
                              cases e128
                              replace p128 := eq_true p128
                              replace q128 := eq_true q128
                              refine start_ (n := 11) (S := fun w' => w'.cell? (ad128.add (x21_2).toNat) = some (.int .i64 (rd y125 x21_2))) (ds := [10]) #[false, false, false, false, false, false, false, false, false, false, false] (by kernel_rfl) rfl rfl (hx128_0) (fun hHeld => ?_); refine with_tabW laws_FnWidths.tab12 laws_FnWidths.bits12 (fun HT_ HW_ => ?_)
                              generalize w17.drew = w18 at HO127 HB hx128_0 hHeld ⊢
                              refine pure_ (i := 0) (N := some 33) (v := ?_) (a' := ?_) #[true, false, false, false, false, false, false, false, false, false, false] rfl rfl (any_of HT_.out (by kernel_rfl)) (fun _ _ _ h => h) (Or.inl ⟨by rfl, ?_⟩) ?_ ?_
                              rotate_left
                              · intro w'
                                go_simp
                                with_reducible rfl
                              rotate_left
                              · simp only [Act.put, List.setIfInBounds_toArray, List.set_cons_zero, List.set_cons_succ, i64_w, i32_w]
                                rfl
                              refine pure_ (i := 1) (N := some 34) (v := ?_) (a' := ?_) #[true, true, false, false, false, false, false, false, false, false, false] rfl rfl (any_of HT_.out (by kernel_rfl)) (fun _ _ _ h => h) (Or.inl ⟨by rfl, ?_⟩) ?_ ?_
                              rotate_left
                              · intro w'
                                go_simp
                                with_reducible rfl
                              rotate_left
                              · simp only [Act.put, List.setIfInBounds_toArray, List.set_cons_zero, List.set_cons_succ, i64_w, i32_w]
                                rfl
                              refine pure_ (i := 2) (N := some 35) (v := ?_) (a' := ?_) #[true, true, true, false, false, false, false, false, false, false, false] rfl rfl (any_of HT_.out (by kernel_rfl)) (fun _ _ _ h => h) (Or.inl ⟨by rfl, ?_⟩) ?_ ?_
                              rotate_left
                              · intro w'
                                go_simp
                                with_reducible rfl
                              rotate_left
                              · simp only [Act.put, List.setIfInBounds_toArray, List.set_cons_zero, List.set_cons_succ, i64_w, i32_w]
                                rfl
                              refine pure_ (i := 3) (N := some 36) (v := ?_) (a' := ?_) #[true, true, true, true, false, false, false, false, false, false, false] rfl rfl (any_of HT_.out (by kernel_rfl)) (fun _ _ _ h => h) (Or.inl ⟨by rfl, ?_⟩) ?_ ?_
                              rotate_left
                              · intro w'
                                go_simp
                                with_reducible rfl
                              rotate_left
                              · simp only [Act.put, List.setIfInBounds_toArray, List.set_cons_zero, List.set_cons_succ, i64_w, i32_w]
                                rfl
                              refine pure_ (i := 4) (N := some 37) (v := ?_) (a' := ?_) #[true, true, true, true, true, false, false, false, false, false, false] rfl rfl (any_of HT_.out (by kernel_rfl)) (fun _ _ _ h => h) (Or.inl ⟨by rfl, ?_⟩) ?_ ?_
                              rotate_left
                              · intro w'
                                go_simp
                                with_reducible rfl
                              rotate_left
                              · simp only [Act.put, List.setIfInBounds_toArray, List.set_cons_zero, List.set_cons_succ, i64_w, i32_w]
                                rfl
                              refine pure_ (i := 6) (N := some 39) (v := ?_) (a' := ?_) #[true, true, true, true, true, false, true, false, false, false, false] rfl rfl (any_of HT_.out (by kernel_rfl)) (fun _ _ _ h => h) (Or.inl ⟨by rfl, ?_⟩) ?_ ?_
                              rotate_left
                              · intro w'
                                go_simp
                                with_reducible rfl
                              rotate_left
                              · simp only [Act.put, List.setIfInBounds_toArray, List.set_cons_zero, List.set_cons_succ, i64_w, i32_w]
                                rfl
                              refine take_ (i := 5) (N := some 38) (v := ?_) (a' := ?_) #[true, true, true, true, true, true, true, false, false, false, false] rfl rfl (take_ofW HT_.out HW_.out (by kernel_rfl)) (fun _ _ _ h => h) (Or.inl ⟨by rfl, ?_⟩) hHeld ?_ ?_
                              rotate_left
                              · intro w' s0
                                go_simp
                                with_reducible rfl
                              rotate_left
                              · simp only [Act.put, List.setIfInBounds_toArray, List.set_cons_zero, List.set_cons_succ, i64_w, i32_w]
                                rfl
                              refine one_ (i := 7) (N := some 40) #[true, true, true, true, true, true, true, true, false, false, false] rfl rfl (one_of HT_.out (by kernel_rfl)) (by decide) (fun K hK => ?_)
                              refine goes_ Try.func14 (by kernel_rfl) rfl #[.string (rdOf ByteArray.empty (rd_L1 l0 x15_1) x21_2)] (by rfl) rfl rfl (by (try simp only [List.map_toArray, List.map_cons, List.map_nil]); first | done | rfl | (simp only [List.length_drop, List.length_take]; rfl)) ?_
                              with_reducible refine (spec_Runes29.calls (rdOf ByteArray.empty (rd_L1 l0 x15_1) x21_2) t129 _ A13.out).mono ?_
                              rintro e w20 ⟨rfl, hb⟩
                              have HS0_ := (hb.cell (World.block_lt_of_cell? _ _ (hHeld))).trans (hHeld)
                              refine ⟨_, rfl, ?_⟩
                              have n0_ := Aside0.mk (Kd.R_below (by (with_reducible repeat (first | apply Kd.R_alloc | apply Kd.R_drewN | apply Kd.R_drew)); exact HO127.out) hb)
                              have n1_ := Aside0.mk (below_step (by repeat (first | (with_reducible first | exact HB.out | apply below_alloc | apply pw_below_drewN | apply below_drew1) | exact HB.out)) hb)
                              clear HO127
                              clear HB
                              have HO127 := n0_
                              have HB := n1_
                              clear n0_ n1_
                              (try clear hb)
                              (try clear hb2)
                              (try clear hk)
                              (try clear hi)
                              have p15 : 0 ≤ (x21_2 : Int) := of_decide_eq_true (by first | (with_reducible assumption) | assumption)
                              have q15 : (x21_2 : Int) < ((y125.length : Int) : Int) := of_decide_eq_true (by first | (with_reducible assumption) | assumption)
                              obtain ⟨go15, co15, eo15, gb15, gl15, cl15, HG15⟩ := Kd.R_form HO127.out (by omega)
                              (first | cases eo15 | (injection eo15 with ea_ en_ ec_; (first | subst ea_ | (injection ea_ with ea_; subst ea_)); subst ec_; clear en_))
                              have GB15 := Aside0.mk gb15
                              have GG15 := Aside0.mk HG15
                              clear gb15 gl15 HG15
                              (first | simp only [add_plain] at hx128_0 | skip)
                              obtain ⟨hx15_0, hf15_0⟩ := Kd.R_celln 0 HO127.out (x21_2 : Int) p15 q15
                              replace p15 := eq_true p15
                              replace q15 := eq_true q15
                              have HP21 := Kd.R_putn HO127.out (x21_2 : Int) ji14
                              rw [← Ny130.out] at HP21
                              have HQ21 := Aside0.mk HP21
                              clear HP21
                              refine hK.out _ _ (HS0_) (fun hHeld => ?_)
                              clear hK K
                              refine norm_ (a' := ?_) ?_ ?_
                              rotate_left
                              · show Act.put _ (some 40) _ = _
                                simp only [Act.put, List.setIfInBounds_toArray, List.set_cons_zero, List.set_cons_succ, i64_w, i32_w]
                                rfl
                              refine pure_ (i := 8) (N := some 41) (v := ?_) (a' := ?_) #[true, true, true, true, true, true, true, true, true, false, false] rfl rfl (any_of HT_.out (by kernel_rfl)) (fun _ _ _ h => h) (Or.inl ⟨by rfl, ?_⟩) ?_ ?_
                              rotate_left
                              · intro w'
                                go_simp
                                with_reducible rfl
                              rotate_left
                              · simp only [Act.put, List.setIfInBounds_toArray, List.set_cons_zero, List.set_cons_succ, i64_w, i32_w]
                                rfl
                              refine pure_ (i := 9) (N := some 42) (v := ?_) (a' := ?_) #[true, true, true, true, true, true, true, true, true, true, false] rfl rfl (any_of HT_.out (by kernel_rfl)) (fun _ _ _ h => h) (Or.inl ⟨by rfl, ?_⟩) ?_ ?_
                              rotate_left
                              · intro w'
                                go_simp
                                with_reducible rfl
                              rotate_left
                              · simp only [Act.put, List.setIfInBounds_toArray, List.set_cons_zero, List.set_cons_succ, i64_w, i32_w]
                                rfl
                              refine last_ (i := 10) (N := none) #[true, true, true, true, true, true, true, true, true, true, true] rfl rfl (one_of HT_.out (by kernel_rfl)) (by decide) (fun K hK => ?_)
                              refine skip_ (w1 := ?_) (by rfl) rfl ?_ ?_
                              rotate_left
                              · go_simp
                                rfl
                              refine hK.out _ _ ?_
                              clear hK K
                              refine done_ (done_of HT_.out (by kernel_rfl)) ?_
                              try go_wp2
                              go_roundg k2
                              case measure => have := HK1.out; have := HK2.out; omega
                              case rel => exact ⟨(y130), (wrap64 (x21_2 + 1)), (by first | rfl | (simp; done) | (simp [*]; done)), H', ⟨by have := HK1.out; have := HK2.out; omega⟩, ⟨by (with_reducible repeat (first | apply Kd.R_alloc | apply Kd.R_drewN | apply Kd.R_drew)); exact HQ21.out⟩, ⟨by repeat (first | (with_reducible first | exact HB.out | apply below_alloc | apply pw_below_drewN | apply below_drew1 | refine below_set ?_ GB15.out) | exact HB.out)⟩⟩
                            · rw [if_neg c12] at H
                              exact absurd H (by simp)
                          · rw [if_neg c11] at H
                            exact absurd H (by simp)
                        · rw [if_neg c10] at H
                          have c10b0 : (x21_2 == (x3_2.length : Int)) = false := beq_eq_false_iff_ne.mpr c10
                          have c10b1 : (x21_2 != (x3_2.length : Int)) = true := bne_iff_ne.mpr c10
                          by_cases c22 : x21_2 < (x3_2.length : Int)
                          · rw [if_pos c22] at H
                            have c22b0 : decide (x21_2 < (x3_2.length : Int)) = true := decide_eq_true c22
                            clear c22
                            replace H := Option.bind_eq_some_iff.mp H
                            obtain ⟨t132, A230, H⟩ := H
                            replace H : (laws_FnWidths.l1 k2 l0 (x3_2.set (x21_2 : Int).toNat (mx (rd x3_2 x21_2) t132)) l0 (l0.length : Int) x15_1 (rd_L1 l0 x15_1) ((rd_L1 l0 x15_1).length : Int) (wrap64 (x21_2 + 1))) = some r := H
                            have A23 := Aside0.mk A230
                            clear A230
                            obtain ⟨ji24, hji24⟩ : ∃ j_ : Int, (mx (rd x3_2 x21_2) t132) = j_ := ⟨_, rfl⟩
                            replace H : (laws_FnWidths.l1 k2 l0 (x3_2.set (x21_2 : Int).toNat (ji24)) l0 (l0.length : Int) x15_1 (rd_L1 l0 x15_1) ((rd_L1 l0 x15_1).length : Int) (wrap64 (x21_2 + 1))) = some r := by first | (rw [hji24] at H; exact H) | (simp only [hji24] at H ⊢; exact H)
                            (try rw [hji24] at A23)
                            have hji24_ : (if (rd x3_2 x21_2) < t132 then t132 else (rd x3_2 x21_2)) = ji24 := hji24
                            obtain ⟨y133, hy133⟩ : ∃ y_ : List Int, y_ = (x3_2.set (x21_2 : Int).toNat (ji24)) := ⟨_, rfl⟩
                            replace H : (laws_FnWidths.l1 k2 l0 y133 l0 (l0.length : Int) x15_1 (rd_L1 l0 x15_1) ((rd_L1 l0 x15_1).length : Int) (wrap64 (x21_2 + 1))) = some r := by first | (rw [hy133]; with_reducible exact H) | (have H2_ := (Option.bind_some _ _).symm.trans H; rw [hy133]; with_reducible exact H2_) | (have H2_ := (Option.bind_some _ _).symm.trans H; with_reducible exact H2_) | with_reducible exact H | (rw [hy133]; exact H) | exact H
                            have Ny133 := Aside0.mk hy133
                            clear hy133
                            have H' := Aside0.mk H
                            clear H
                            have p124 : 0 ≤ (x21_2 : Int) := of_decide_eq_true (by first | (with_reducible assumption) | assumption)
                            have q124 : x21_2 < ((rd_L1 l0 x15_1).length : Int) := of_decide_eq_true (by first | (with_reducible assumption) | assumption)
                            obtain ⟨ad124, e124, hx124_0⟩ := Kd.at_string HR123_0.out x21_2 p124 q124
                            cases e124
                            replace hx124_0 := (HB.out.cell (World.block_lt_of_cell? w _ hx124_0)).trans hx124_0
                            replace p124 := eq_true p124
                            replace q124 := eq_true q124
                            obtain ⟨Ao26, co26, eo26⟩ := Kd.R_slice HO_3.out
                            subst eo26
                            try go_wp2
                            have n0_ := Aside0.mk (Kd.R_drew HO_3.out)
                            have n1_ := Aside0.mk (below_drew1 HB.out)
                            clear HO_3
                            clear HB
                            have HO_3 := n0_
                            have HB := n1_
                            clear n0_ n1_
                            have p131 : 0 ≤ (x21_2 : Int) := of_decide_eq_true (by first | (with_reducible assumption) | assumption)
                            have q131 : x21_2 < (x3_2.length : Int) := of_decide_eq_true (by first | (with_reducible assumption) | assumption)
                            obtain ⟨ad131, e131, hx131_0⟩ := Kd.at_int (Kd.R_reads' HO_3.out).2.2 x21_2 p131 q131
                            cases e131
                            replace p131 := eq_true p131
                            replace q131 := eq_true q131
                            refine start_ (n := 11) (S := fun w' => w'.cell? (ad131.add (x21_2).toNat) = some (.int .i64 (rd x3_2 x21_2))) (ds := [10]) #[false, false, false, false, false, false, false, false, false, false, false] (by kernel_rfl) rfl rfl (hx131_0) (fun hHeld => ?_); refine with_tabW laws_FnWidths.tab12 laws_FnWidths.bits12 (fun HT_ HW_ => ?_)
                            generalize wr.drew = w27 at HO_3 HB hx131_0 hHeld ⊢
                            refine pure_ (i := 0) (N := some 33) (v := ?_) (a' := ?_) #[true, false, false, false, false, false, false, false, false, false, false] rfl rfl (any_of HT_.out (by kernel_rfl)) (fun _ _ _ h => h) (Or.inl ⟨by rfl, ?_⟩) ?_ ?_
                            rotate_left
                            · intro w'
                              go_simp
                              with_reducible rfl
                            rotate_left
                            · simp only [Act.put, List.setIfInBounds_toArray, List.set_cons_zero, List.set_cons_succ, i64_w, i32_w]
                              rfl
                            refine pure_ (i := 1) (N := some 34) (v := ?_) (a' := ?_) #[true, true, false, false, false, false, false, false, false, false, false] rfl rfl (any_of HT_.out (by kernel_rfl)) (fun _ _ _ h => h) (Or.inl ⟨by rfl, ?_⟩) ?_ ?_
                            rotate_left
                            · intro w'
                              go_simp
                              with_reducible rfl
                            rotate_left
                            · simp only [Act.put, List.setIfInBounds_toArray, List.set_cons_zero, List.set_cons_succ, i64_w, i32_w]
                              rfl
                            refine pure_ (i := 2) (N := some 35) (v := ?_) (a' := ?_) #[true, true, true, false, false, false, false, false, false, false, false] rfl rfl (any_of HT_.out (by kernel_rfl)) (fun _ _ _ h => h) (Or.inl ⟨by rfl, ?_⟩) ?_ ?_
                            rotate_left
                            · intro w'
                              go_simp
                              with_reducible rfl
                            rotate_left
                            · simp only [Act.put, List.setIfInBounds_toArray, List.set_cons_zero, List.set_cons_succ, i64_w, i32_w]
                              rfl
                            refine pure_ (i := 3) (N := some 36) (v := ?_) (a' := ?_) #[true, true, true, true, false, false, false, false, false, false, false] rfl rfl (any_of HT_.out (by kernel_rfl)) (fun _ _ _ h => h) (Or.inl ⟨by rfl, ?_⟩) ?_ ?_
                            rotate_left
                            · intro w'
                              go_simp
                              with_reducible rfl
                            rotate_left
                            · simp only [Act.put, List.setIfInBounds_toArray, List.set_cons_zero, List.set_cons_succ, i64_w, i32_w]
                              rfl
                            refine pure_ (i := 4) (N := some 37) (v := ?_) (a' := ?_) #[true, true, true, true, true, false, false, false, false, false, false] rfl rfl (any_of HT_.out (by kernel_rfl)) (fun _ _ _ h => h) (Or.inl ⟨by rfl, ?_⟩) ?_ ?_
                            rotate_left
                            · intro w'
                              go_simp
                              with_reducible rfl
                            rotate_left
                            · simp only [Act.put, List.setIfInBounds_toArray, List.set_cons_zero, List.set_cons_succ, i64_w, i32_w]
                              rfl
                            refine pure_ (i := 6) (N := some 39) (v := ?_) (a' := ?_) #[true, true, true, true, true, false, true, false, false, false, false] rfl rfl (any_of HT_.out (by kernel_rfl)) (fun _ _ _ h => h) (Or.inl ⟨by rfl, ?_⟩) ?_ ?_
                            rotate_left
                            · intro w'
                              go_simp
                              with_reducible rfl
                            rotate_left
                            · simp only [Act.put, List.setIfInBounds_toArray, List.set_cons_zero, List.set_cons_succ, i64_w, i32_w]
                              rfl
                            refine take_ (i := 5) (N := some 38) (v := ?_) (a' := ?_) #[true, true, true, true, true, true, true, false, false, false, false] rfl rfl (take_ofW HT_.out HW_.out (by kernel_rfl)) (fun _ _ _ h => h) (Or.inl ⟨by rfl, ?_⟩) hHeld ?_ ?_
                            rotate_left
                            · intro w' s0
                              go_simp
                              with_reducible rfl
                            rotate_left
                            · simp only [Act.put, List.setIfInBounds_toArray, List.set_cons_zero, List.set_cons_succ, i64_w, i32_w]
                              rfl
                            refine one_ (i := 7) (N := some 40) #[true, true, true, true, true, true, true, true, false, false, false] rfl rfl (one_of HT_.out (by kernel_rfl)) (by decide) (fun K hK => ?_)
                            refine goes_ Try.func14 (by kernel_rfl) rfl #[.string (rdOf ByteArray.empty (rd_L1 l0 x15_1) x21_2)] (by rfl) rfl rfl (by (try simp only [List.map_toArray, List.map_cons, List.map_nil]); first | done | rfl | (simp only [List.length_drop, List.length_take]; rfl)) ?_
                            with_reducible refine (spec_Runes29.calls (rdOf ByteArray.empty (rd_L1 l0 x15_1) x21_2) t132 _ A23.out).mono ?_
                            rintro e w28 ⟨rfl, hb⟩
                            have HS0_ := (hb.cell (World.block_lt_of_cell? _ _ (hHeld))).trans (hHeld)
                            refine ⟨_, rfl, ?_⟩
                            have n0_ := Aside0.mk (Kd.R_below (by (with_reducible repeat (first | apply Kd.R_alloc | apply Kd.R_drewN | apply Kd.R_drew)); exact HO_3.out) hb)
                            have n1_ := Aside0.mk (below_step (by repeat (first | (with_reducible first | exact HB.out | apply below_alloc | apply pw_below_drewN | apply below_drew1) | exact HB.out)) hb)
                            clear HO_3
                            clear HB
                            have HO_3 := n0_
                            have HB := n1_
                            clear n0_ n1_
                            (try clear hb)
                            (try clear hb2)
                            (try clear hk)
                            (try clear hi)
                            have p25 : 0 ≤ (x21_2 : Int) := of_decide_eq_true (by first | (with_reducible assumption) | assumption)
                            have q25 : (x21_2 : Int) < ((x3_2.length : Int) : Int) := of_decide_eq_true (by first | (with_reducible assumption) | assumption)
                            obtain ⟨go25, co25, eo25, gb25, gl25, cl25, HG25⟩ := Kd.R_form HO_3.out (by omega)
                            (first | cases eo25 | (injection eo25 with ea_ en_ ec_; (first | subst ea_ | (injection ea_ with ea_; subst ea_)); subst ec_; clear en_))
                            have GB25 := Aside0.mk gb25
                            have GG25 := Aside0.mk HG25
                            clear gb25 gl25 HG25
                            (first | simp only [add_plain] at hx131_0 | skip)
                            obtain ⟨hx25_0, hf25_0⟩ := Kd.R_celln 0 HO_3.out (x21_2 : Int) p25 q25
                            replace p25 := eq_true p25
                            replace q25 := eq_true q25
                            have HP29 := Kd.R_putn HO_3.out (x21_2 : Int) ji24
                            rw [← Ny133.out] at HP29
                            have HQ29 := Aside0.mk HP29
                            clear HP29
                            refine hK.out _ _ (HS0_) (fun hHeld => ?_)
                            clear hK K
                            refine norm_ (a' := ?_) ?_ ?_
                            rotate_left
                            · show Act.put _ (some 40) _ = _
                              simp only [Act.put, List.setIfInBounds_toArray, List.set_cons_zero, List.set_cons_succ, i64_w, i32_w]
                              rfl
                            refine pure_ (i := 8) (N := some 41) (v := ?_) (a' := ?_) #[true, true, true, true, true, true, true, true, true, false, false] rfl rfl (any_of HT_.out (by kernel_rfl)) (fun _ _ _ h => h) (Or.inl ⟨by rfl, ?_⟩) ?_ ?_
                            rotate_left
                            · intro w'
                              go_simp
                              with_reducible rfl
                            rotate_left
                            · simp only [Act.put, List.setIfInBounds_toArray, List.set_cons_zero, List.set_cons_succ, i64_w, i32_w]
                              rfl
                            refine pure_ (i := 9) (N := some 42) (v := ?_) (a' := ?_) #[true, true, true, true, true, true, true, true, true, true, false] rfl rfl (any_of HT_.out (by kernel_rfl)) (fun _ _ _ h => h) (Or.inl ⟨by rfl, ?_⟩) ?_ ?_
                            rotate_left
                            · intro w'
                              go_simp
                              with_reducible rfl
                            rotate_left
                            · simp only [Act.put, List.setIfInBounds_toArray, List.set_cons_zero, List.set_cons_succ, i64_w, i32_w]
                              rfl
                            refine last_ (i := 10) (N := none) #[true, true, true, true, true, true, true, true, true, true, true] rfl rfl (one_of HT_.out (by kernel_rfl)) (by decide) (fun K hK => ?_)
                            refine skip_ (w1 := ?_) (by rfl) rfl ?_ ?_
                            rotate_left
                            · go_simp
                              rfl
                            refine hK.out _ _ ?_
                            clear hK K
                            refine done_ (done_of HT_.out (by kernel_rfl)) ?_
                            try go_wp2
                            go_roundg k2
                            case measure => have := HK1.out; have := HK2.out; omega
                            case rel => exact ⟨(y133), (wrap64 (x21_2 + 1)), (by first | rfl | (simp; done) | (simp [*]; done)), H', ⟨by have := HK1.out; have := HK2.out; omega⟩, ⟨by (with_reducible repeat (first | apply Kd.R_alloc | apply Kd.R_drewN | apply Kd.R_drew)); exact HQ29.out⟩, ⟨by repeat (first | (with_reducible first | exact HB.out | apply below_alloc | apply pw_below_drewN | apply below_drew1 | refine below_set ?_ GB25.out) | exact HB.out)⟩⟩
                          · rw [if_neg c22] at H
                            exact absurd H (by simp)
                      · rw [if_neg c9] at H
                        exact absurd H (by simp)
                    · rw [if_neg c8] at H
                      exact absurd H (by simp)
                  · rw [if_neg c7] at H
                    have c7b0 : decide (x21_2 < ((rd_L1 l0 x15_1).length : Int)) = false := decide_eq_false c7
                    clear c7
                    have H' := Aside0.mk H
                    clear H
                    go_wp2
                    go_roundg k2
                    case measure => have := HK1.out; have := HK2.out; omega
                    case rel => exact ⟨(x3_2), (wrap64 (x15_1 + 1)), (by first | rfl | (simp; done) | (simp [*]; done)), H', ⟨by have := HK1.out; have := HK2.out; omega⟩, ⟨by (with_reducible repeat (first | apply Kd.R_alloc | apply Kd.R_drewN | apply Kd.R_drew)); exact HO_3.out⟩, ⟨by repeat (first | (with_reducible first | exact HB.out | apply below_alloc | apply pw_below_drewN | apply below_drew1) | exact HB.out)⟩⟩
            · rw [if_neg c6] at H
              exact absurd H (by simp)
          · rw [if_neg c5] at H
            exact absurd H (by simp)
        · rw [if_neg c4] at H
          have c4b0 : decide (x15_1 < (l0.length : Int)) = false := decide_eq_false c4
          clear c4
          replace H := Option.bind_eq_some_iff.mp H
          obtain ⟨t134, A300, H⟩ := H
          replace H : (if (t134.length : Int) = (x3_1.length : Int) then (laws_FnWidths.l2 k1 l0 x3_1 t134 (t134.length : Int) 0) else (some false)) = some r := H
          have A30 := Aside0.mk A300
          clear A300
          by_cases c31 : (t134.length : Int) = (x3_1.length : Int)
          · rw [if_pos c31] at H
            have c31b0 : ((t134.length : Int) == (x3_1.length : Int)) = true := beq_iff_eq.mpr c31
            have c31b1 : ((t134.length : Int) != (x3_1.length : Int)) = false := bne_eq_false_iff_eq.mpr c31
            have c31b2 : (t134.length == x3_1.length) = true := by first | simpa using c31 | (simp at c31 ⊢; omega)
            clear c31
            have H' := Aside0.mk H
            clear H
            go_wp2_with (first | ((with_reducible refine gate_callee (f := 15) rfl ?_); refine goesL_ (some 46) rfl rfl Try.func15 (by kernel_rfl) rfl #[.slice A0 l0.length c0] rfl (by (try simp only [List.map_toArray, List.map_cons, List.map_nil]); first | done | rfl | (simp only [List.length_drop, List.length_take]; rfl)) ?_; (with_reducible refine (impl_Widths.calls k1 _ _ l0 t134 _ ?side1 ?side2 A30.out).mono ?_); (case side1 => repeat (first | exact (Kd.C_below HR0.out HB.out) | (with_reducible refine Kd.C_alloc ?_ _) | (with_reducible refine Kd.C_drewN ?_ _) | (with_reducible refine Kd.C_drew ?_))); (case side2 => exact HC0.out); rintro e w32 ⟨v135, rfl, ho0, hb⟩; refine ⟨_, rfl, ?_⟩; have n0_ := Aside0.mk (Kd.R_elder' (by (with_reducible repeat (first | apply Kd.R_alloc | apply Kd.R_drewN | apply Kd.R_drew)); exact HO_3.out) (Kd.R_base ho0) hb); have n1_ := Aside0.mk (Kd.R_lower (Kd.R_new' ho0 (Kd.R_lt (by (with_reducible repeat (first | apply Kd.R_alloc | apply Kd.R_drewN | apply Kd.R_drew)); exact HO_3.out))) (below_size (by repeat (first | (with_reducible first | exact HB.out | apply below_alloc | apply pw_below_drewN | apply below_drew1) | exact HB.out)))); have n2_ := Aside0.mk (below_step (by repeat (first | (with_reducible first | exact HB.out | apply below_alloc | apply pw_below_drewN | apply below_drew1) | exact HB.out)) hb); clear HO_3; clear HB; have HO_3 := n0_; have HO136 := n1_; have HB := n2_; clear n0_ n1_ n2_; (try clear hb); (try clear hb2); (try clear hk); (try clear hi); (try clear ho0); obtain ⟨Ao33, co33, eo33⟩ := Kd.R_slice HO136.out; subst eo33; obtain ⟨Ao34, co34, eo34⟩ := Kd.R_slice HO_3.out; subst eo34))
            go_loopg [54] k1 (fun kq v54 w' => ∃ (x54_2 : Int), v54 = .int .i64 x54_2 ∧ Aside0 (laws_FnWidths.l2 kq l0 x3_1 t134 (t134.length : Int) x54_2 = some r) ∧ Aside0 (kq ≤ k1) ∧ Aside0 (Kd.R (Kd.int .i64) 3 w' w.heap.size (fun k_ => some k_ ≠ ((.slice Ao33 t134.length co33) : Value).ownBlock) (.slice Ao34 x3_1.length co34) x3_1) ∧ Aside0 (Kd.R (Kd.int .i64) 3 w' w.heap.size (fun k_ => some k_ ≠ ((.slice Ao34 x3_1.length co34) : Value).ownBlock) (.slice Ao33 t134.length co33) t134) ∧ Aside0 (Below w.heap.size w w'))
            case atStart => exact ⟨(0), (by first | rfl | (simp; done) | (simp [*]; done)), H', ⟨Nat.le_refl _⟩, ⟨by (with_reducible repeat (first | apply Kd.R_alloc | apply Kd.R_drewN | apply Kd.R_drew)); exact Kd.R_mono HO_3.out (fun _ hk => hk.2)⟩, ⟨by (with_reducible repeat (first | apply Kd.R_alloc | apply Kd.R_drewN | apply Kd.R_drew)); exact Kd.R_mono HO136.out (fun _ hk => hk.2)⟩, ⟨by repeat (first | (with_reducible first | exact HB.out | apply below_alloc | apply pw_below_drewN | apply below_drew1) | exact HB.out)⟩⟩
            case round =>
              clear H'
              try clear c1
              try clear p1
              try clear q1
              try clear hx1
              try clear hf1
              try clear c2
              try clear p2
              try clear q2
              try clear hx2
              try clear hf2
              try clear c3
              try clear c4
              try clear c4b0
              try clear c5
              try clear c5b0
              try clear c6
              try clear c6b0
              try clear p6
              try clear c7
              try clear c7b0
              try clear c8
              try clear c8b0
              try clear c9
              try clear c9b0
              try clear c10
              try clear c10b0
              try clear c10b1
              try clear c11
              try clear c12
              try clear c12b0
              try clear p12
              try clear q12
              try clear hx12
              try clear c13
              try clear p13
              try clear q13
              try clear hx13
              try clear c14
              try clear c15
              try clear p15
              try clear q15
              try clear hx15
              try clear hf15
              try clear c22
              try clear c22b0
              try clear p25
              try clear q25
              try clear hx25
              try clear hf25
              try clear c31
              try clear c31b0
              try clear c31b1
              try clear c31b2
              try clear hx123_0
              try clear hx124_0
              try clear hx128_0
              try clear hx131_0
              try clear hx15_0
              try clear hx25_0
              try clear p1
              try clear p123
              try clear p124
              try clear p128
              try clear p131
              try clear p15
              try clear p2
              try clear p25
              try clear q1
              try clear q123
              try clear q124
              try clear q128
              try clear q131
              try clear q15
              try clear q25
              obtain ⟨x54_2, rfl, HA, HK2, HO_3, HO_8, HB⟩ := hrel
              cases gk with
              | zero => exact absurd HA.out (by simp [laws_FnWidths.l2])
              | succ k2 =>
                have H := HA.out
                clear HA
                simp only [laws_FnWidths.l2] at H
                by_cases c35 : x54_2 < (t134.length : Int)
                · rw [if_pos c35] at H
                  have c35b0 : decide (x54_2 < (t134.length : Int)) = true := decide_eq_true c35
                  clear c35
                  by_cases c36 : 0 ≤ x54_2
                  · rw [if_pos c36] at H
                    have c36b0 : decide (0 ≤ x54_2) = true := decide_eq_true c36
                    clear c36
                    by_cases c37 : x54_2 < (t134.length : Int)
                    · rw [if_pos c37] at H
                      have c37b0 : decide (x54_2 < (t134.length : Int)) = true := decide_eq_true c37
                      clear c37
                      by_cases c38 : x54_2 < (x3_1.length : Int)
                      · rw [if_pos c38] at H
                        have c38b0 : decide (x54_2 < (x3_1.length : Int)) = true := decide_eq_true c38
                        clear c38
                        by_cases c39 : (rd t134 x54_2) = (rd x3_1 x54_2)
                        · rw [if_pos c39] at H
                          have c39b0 : ((rd t134 x54_2) == (rd x3_1 x54_2)) = true := beq_iff_eq.mpr c39
                          have c39b1 : ((rd t134 x54_2) != (rd x3_1 x54_2)) = false := bne_eq_false_iff_eq.mpr c39
                          clear c39
                          have H' := Aside0.mk H
                          clear H
                          try go_wp2
                          have n0_ := Aside0.mk (Kd.R_drew HO_3.out)
                          have n1_ := Aside0.mk (Kd.R_drew HO_8.out)
                          have n2_ := Aside0.mk (below_drew1 HB.out)
                          clear HO_3
                          clear HO_8
                          clear HB
                          have HO_3 := n0_
                          have HO_8 := n1_
                          have HB := n2_
                          clear n0_ n1_ n2_
                          have p137 : 0 ≤ (x54_2 : Int) := of_decide_eq_true (by first | (with_reducible assumption) | assumption)
                          have q137 : x54_2 < (t134.length : Int) := of_decide_eq_true (by first | (with_reducible assumption) | assumption)
                          obtain ⟨ad137, e137, hx137_0⟩ := Kd.at_int (Kd.R_reads' HO_8.out).2.2 x54_2 p137 q137
                          cases e137
                          replace p137 := eq_true p137
                          replace q137 := eq_true q137
                          have p138 : 0 ≤ (x54_2 : Int) := of_decide_eq_true (by first | (with_reducible assumption) | assumption)
                          have q138 : x54_2 < (x3_1.length : Int) := of_decide_eq_true (by first | (with_reducible assumption) | assumption)
                          obtain ⟨ad138, e138, hx138_0⟩ := Kd.at_int (Kd.R_reads' HO_3.out).2.2 x54_2 p138 q138
                          cases e138
                          replace p138 := eq_true p138
                          replace q138 := eq_true q138
                          refine start_ (n := 9) (S := fun w' => w'.cell? (ad137.add (x54_2).toNat) = some (.int .i64 (rd t134 x54_2)) ∧ w'.cell? (ad138.add (x54_2).toNat) = some (.int .i64 (rd x3_1 x54_2))) (ds := []) #[false, false, false, false, false, false, false, false, false] (by kernel_rfl) rfl rfl ⟨hx137_0, hx138_0⟩ (fun hHeld => ?_); refine with_tabW laws_FnWidths.tab21 laws_FnWidths.bits21 (fun HT_ HW_ => ?_)
                          generalize wr.drew = w40 at HO_3 HO_8 HB hx137_0 hx138_0 hHeld ⊢
                          refine pure_ (i := 0) (N := some 57) (v := ?_) (a' := ?_) #[true, false, false, false, false, false, false, false, false] rfl rfl (any_of HT_.out (by kernel_rfl)) (fun _ _ _ h => h) (Or.inl ⟨by rfl, ?_⟩) ?_ ?_
                          rotate_left
                          · intro w'
                            go_simp
                            with_reducible rfl
                          rotate_left
                          · simp only [Act.put, List.setIfInBounds_toArray, List.set_cons_zero, List.set_cons_succ, i64_w, i32_w]
                            rfl
                          refine pure_ (i := 1) (N := some 58) (v := ?_) (a' := ?_) #[true, true, false, false, false, false, false, false, false] rfl rfl (any_of HT_.out (by kernel_rfl)) (fun _ _ _ h => h) (Or.inl ⟨by rfl, ?_⟩) ?_ ?_
                          rotate_left
                          · intro w'
                            go_simp
                            with_reducible rfl
                          rotate_left
                          · simp only [Act.put, List.setIfInBounds_toArray, List.set_cons_zero, List.set_cons_succ, i64_w, i32_w]
                            rfl
                          refine pure_ (i := 2) (N := some 59) (v := ?_) (a' := ?_) #[true, true, true, false, false, false, false, false, false] rfl rfl (any_of HT_.out (by kernel_rfl)) (fun _ _ _ h => h) (Or.inl ⟨by rfl, ?_⟩) ?_ ?_
                          rotate_left
                          · intro w'
                            go_simp
                            with_reducible rfl
                          rotate_left
                          · simp only [Act.put, List.setIfInBounds_toArray, List.set_cons_zero, List.set_cons_succ, i64_w, i32_w]
                            rfl
                          refine pure_ (i := 4) (N := some 61) (v := ?_) (a' := ?_) #[true, true, true, false, true, false, false, false, false] rfl rfl (any_of HT_.out (by kernel_rfl)) (fun _ _ _ h => h) (Or.inl ⟨by rfl, ?_⟩) ?_ ?_
                          rotate_left
                          · intro w'
                            go_simp
                            with_reducible rfl
                          rotate_left
                          · simp only [Act.put, List.setIfInBounds_toArray, List.set_cons_zero, List.set_cons_succ, i64_w, i32_w]
                            rfl
                          refine pure_ (i := 5) (N := some 62) (v := ?_) (a' := ?_) #[true, true, true, false, true, true, false, false, false] rfl rfl (any_of HT_.out (by kernel_rfl)) (fun _ _ _ h => h) (Or.inl ⟨by rfl, ?_⟩) ?_ ?_
                          rotate_left
                          · intro w'
                            go_simp
                            with_reducible rfl
                          rotate_left
                          · simp only [Act.put, List.setIfInBounds_toArray, List.set_cons_zero, List.set_cons_succ, i64_w, i32_w]
                            rfl
                          refine pure_ (i := 6) (N := some 63) (v := ?_) (a' := ?_) #[true, true, true, false, true, true, true, false, false] rfl rfl (any_of HT_.out (by kernel_rfl)) (fun _ _ _ h => h) (Or.inl ⟨by rfl, ?_⟩) ?_ ?_
                          rotate_left
                          · intro w'
                            go_simp
                            with_reducible rfl
                          rotate_left
                          · simp only [Act.put, List.setIfInBounds_toArray, List.set_cons_zero, List.set_cons_succ, i64_w, i32_w]
                            rfl
                          refine take_ (i := 3) (N := some 60) (v := ?_) (a' := ?_) #[true, true, true, true, true, true, true, false, false] rfl rfl (take_ofW HT_.out HW_.out (by kernel_rfl)) (fun _ _ _ h => h) (Or.inl ⟨by rfl, ?_⟩) hHeld ?_ ?_
                          rotate_left
                          · rintro w' ⟨s0, s1⟩
                            go_simp
                            with_reducible rfl
                          rotate_left
                          · simp only [Act.put, List.setIfInBounds_toArray, List.set_cons_zero, List.set_cons_succ, i64_w, i32_w]
                            rfl
                          refine take_ (i := 7) (N := some 64) (v := ?_) (a' := ?_) #[true, true, true, true, true, true, true, true, false] rfl rfl (take_ofW HT_.out HW_.out (by kernel_rfl)) (fun _ _ _ h => h) (Or.inl ⟨by rfl, ?_⟩) hHeld ?_ ?_
                          rotate_left
                          · rintro w' ⟨s0, s1⟩
                            go_simp
                            with_reducible rfl
                          rotate_left
                          · simp only [Act.put, List.setIfInBounds_toArray, List.set_cons_zero, List.set_cons_succ, i64_w, i32_w]
                            rfl
                          refine pure_ (i := 8) (N := some 65) (v := ?_) (a' := ?_) #[true, true, true, true, true, true, true, true, true] rfl rfl (any_of HT_.out (by kernel_rfl)) (fun _ _ _ h => h) (Or.inl ⟨by rfl, ?_⟩) ?_ ?_
                          rotate_left
                          · intro w'
                            go_simp
                            with_reducible rfl
                          rotate_left
                          · simp only [Act.put, List.setIfInBounds_toArray, List.set_cons_zero, List.set_cons_succ, i64_w, i32_w]
                            rfl
                          refine done_ (done_of HT_.out (by kernel_rfl)) ?_
                          try go_wp2
                          go_roundg k2
                          case measure => have := HK1.out; have := HK2.out; omega
                          case rel => exact ⟨(wrap64 (x54_2 + 1)), (by first | rfl | (simp; done) | (simp [*]; done)), H', ⟨by have := HK1.out; have := HK2.out; omega⟩, ⟨by (with_reducible repeat (first | apply Kd.R_alloc | apply Kd.R_drewN | apply Kd.R_drew)); exact HO_3.out⟩, ⟨by (with_reducible repeat (first | apply Kd.R_alloc | apply Kd.R_drewN | apply Kd.R_drew)); exact HO_8.out⟩, ⟨by repeat (first | (with_reducible first | exact HB.out | apply below_alloc | apply pw_below_drewN | apply below_drew1) | exact HB.out)⟩⟩
                        · rw [if_neg c39] at H
                          have c39b0 : ((rd t134 x54_2) == (rd x3_1 x54_2)) = false := beq_eq_false_iff_ne.mpr c39
                          have c39b1 : ((rd t134 x54_2) != (rd x3_1 x54_2)) = true := bne_iff_ne.mpr c39
                          obtain rfl := Option.some.inj H
                          try go_wp2
                          have n0_ := Aside0.mk (Kd.R_drew HO_3.out)
                          have n1_ := Aside0.mk (Kd.R_drew HO_8.out)
                          have n2_ := Aside0.mk (below_drew1 HB.out)
                          clear HO_3
                          clear HO_8
                          clear HB
                          have HO_3 := n0_
                          have HO_8 := n1_
                          have HB := n2_
                          clear n0_ n1_ n2_
                          have p137 : 0 ≤ (x54_2 : Int) := of_decide_eq_true (by first | (with_reducible assumption) | assumption)
                          have q137 : x54_2 < (t134.length : Int) := of_decide_eq_true (by first | (with_reducible assumption) | assumption)
                          obtain ⟨ad137, e137, hx137_0⟩ := Kd.at_int (Kd.R_reads' HO_8.out).2.2 x54_2 p137 q137
                          cases e137
                          replace p137 := eq_true p137
                          replace q137 := eq_true q137
                          have p138 : 0 ≤ (x54_2 : Int) := of_decide_eq_true (by first | (with_reducible assumption) | assumption)
                          have q138 : x54_2 < (x3_1.length : Int) := of_decide_eq_true (by first | (with_reducible assumption) | assumption)
                          obtain ⟨ad138, e138, hx138_0⟩ := Kd.at_int (Kd.R_reads' HO_3.out).2.2 x54_2 p138 q138
                          cases e138
                          replace p138 := eq_true p138
                          replace q138 := eq_true q138
                          refine start_ (n := 9) (S := fun w' => w'.cell? (ad137.add (x54_2).toNat) = some (.int .i64 (rd t134 x54_2)) ∧ w'.cell? (ad138.add (x54_2).toNat) = some (.int .i64 (rd x3_1 x54_2))) (ds := []) #[false, false, false, false, false, false, false, false, false] (by kernel_rfl) rfl rfl ⟨hx137_0, hx138_0⟩ (fun hHeld => ?_); refine with_tabW laws_FnWidths.tab21 laws_FnWidths.bits21 (fun HT_ HW_ => ?_)
                          generalize wr.drew = w41 at HO_3 HO_8 HB hx137_0 hx138_0 hHeld ⊢
                          refine pure_ (i := 0) (N := some 57) (v := ?_) (a' := ?_) #[true, false, false, false, false, false, false, false, false] rfl rfl (any_of HT_.out (by kernel_rfl)) (fun _ _ _ h => h) (Or.inl ⟨by rfl, ?_⟩) ?_ ?_
                          rotate_left
                          · intro w'
                            go_simp
                            with_reducible rfl
                          rotate_left
                          · simp only [Act.put, List.setIfInBounds_toArray, List.set_cons_zero, List.set_cons_succ, i64_w, i32_w]
                            rfl
                          refine pure_ (i := 1) (N := some 58) (v := ?_) (a' := ?_) #[true, true, false, false, false, false, false, false, false] rfl rfl (any_of HT_.out (by kernel_rfl)) (fun _ _ _ h => h) (Or.inl ⟨by rfl, ?_⟩) ?_ ?_
                          rotate_left
                          · intro w'
                            go_simp
                            with_reducible rfl
                          rotate_left
                          · simp only [Act.put, List.setIfInBounds_toArray, List.set_cons_zero, List.set_cons_succ, i64_w, i32_w]
                            rfl
                          refine pure_ (i := 2) (N := some 59) (v := ?_) (a' := ?_) #[true, true, true, false, false, false, false, false, false] rfl rfl (any_of HT_.out (by kernel_rfl)) (fun _ _ _ h => h) (Or.inl ⟨by rfl, ?_⟩) ?_ ?_
                          rotate_left
                          · intro w'
                            go_simp
                            with_reducible rfl
                          rotate_left
                          · simp only [Act.put, List.setIfInBounds_toArray, List.set_cons_zero, List.set_cons_succ, i64_w, i32_w]
                            rfl
                          refine pure_ (i := 4) (N := some 61) (v := ?_) (a' := ?_) #[true, true, true, false, true, false, false, false, false] rfl rfl (any_of HT_.out (by kernel_rfl)) (fun _ _ _ h => h) (Or.inl ⟨by rfl, ?_⟩) ?_ ?_
                          rotate_left
                          · intro w'
                            go_simp
                            with_reducible rfl
                          rotate_left
                          · simp only [Act.put, List.setIfInBounds_toArray, List.set_cons_zero, List.set_cons_succ, i64_w, i32_w]
                            rfl
                          refine pure_ (i := 5) (N := some 62) (v := ?_) (a' := ?_) #[true, true, true, false, true, true, false, false, false] rfl rfl (any_of HT_.out (by kernel_rfl)) (fun _ _ _ h => h) (Or.inl ⟨by rfl, ?_⟩) ?_ ?_
                          rotate_left
                          · intro w'
                            go_simp
                            with_reducible rfl
                          rotate_left
                          · simp only [Act.put, List.setIfInBounds_toArray, List.set_cons_zero, List.set_cons_succ, i64_w, i32_w]
                            rfl
                          refine pure_ (i := 6) (N := some 63) (v := ?_) (a' := ?_) #[true, true, true, false, true, true, true, false, false] rfl rfl (any_of HT_.out (by kernel_rfl)) (fun _ _ _ h => h) (Or.inl ⟨by rfl, ?_⟩) ?_ ?_
                          rotate_left
                          · intro w'
                            go_simp
                            with_reducible rfl
                          rotate_left
                          · simp only [Act.put, List.setIfInBounds_toArray, List.set_cons_zero, List.set_cons_succ, i64_w, i32_w]
                            rfl
                          refine take_ (i := 3) (N := some 60) (v := ?_) (a' := ?_) #[true, true, true, true, true, true, true, false, false] rfl rfl (take_ofW HT_.out HW_.out (by kernel_rfl)) (fun _ _ _ h => h) (Or.inl ⟨by rfl, ?_⟩) hHeld ?_ ?_
                          rotate_left
                          · rintro w' ⟨s0, s1⟩
                            go_simp
                            with_reducible rfl
                          rotate_left
                          · simp only [Act.put, List.setIfInBounds_toArray, List.set_cons_zero, List.set_cons_succ, i64_w, i32_w]
                            rfl
                          refine take_ (i := 7) (N := some 64) (v := ?_) (a' := ?_) #[true, true, true, true, true, true, true, true, false] rfl rfl (take_ofW HT_.out HW_.out (by kernel_rfl)) (fun _ _ _ h => h) (Or.inl ⟨by rfl, ?_⟩) hHeld ?_ ?_
                          rotate_left
                          · rintro w' ⟨s0, s1⟩
                            go_simp
                            with_reducible rfl
                          rotate_left
                          · simp only [Act.put, List.setIfInBounds_toArray, List.set_cons_zero, List.set_cons_succ, i64_w, i32_w]
                            rfl
                          refine pure_ (i := 8) (N := some 65) (v := ?_) (a' := ?_) #[true, true, true, true, true, true, true, true, true] rfl rfl (any_of HT_.out (by kernel_rfl)) (fun _ _ _ h => h) (Or.inl ⟨by rfl, ?_⟩) ?_ ?_
                          rotate_left
                          · intro w'
                            go_simp
                            with_reducible rfl
                          rotate_left
                          · simp only [Act.put, List.setIfInBounds_toArray, List.set_cons_zero, List.set_cons_succ, i64_w, i32_w]
                            rfl
                          refine done_ (done_of HT_.out (by kernel_rfl)) ?_
                          try go_wp2
                          go_ret
                          exact ⟨by first | rfl | (simp [errW_none, errW_some] <;> rfl) | (simp [*, errW_none, errW_some] <;> rfl), by repeat (first | (with_reducible first | exact HB.out | apply below_alloc | apply pw_below_drewN | apply below_drew1) | exact HB.out)⟩
                      · rw [if_neg c38] at H
                        exact absurd H (by simp)
                    · rw [if_neg c37] at H
                      exact absurd H (by simp)
                  · rw [if_neg c36] at H
                    exact absurd H (by simp)
                · rw [if_neg c35] at H
                  have c35b0 : decide (x54_2 < (t134.length : Int)) = false := decide_eq_false c35
                  clear c35
                  by_cases c42 : (l0.length : Int) > 0
                  · rw [if_pos c42] at H
                    have c42b0 : decide (0 < (l0.length : Int)) = true := decide_eq_true c42
                    have c42b1 : decide (0 < l0.length) = true := decide_eq_true (by omega)
                    clear c42
                    obtain rfl := Option.some.inj H
                    go_wp2
                    go_ret
                    exact ⟨by first | rfl | (simp [errW_none, errW_some] <;> rfl) | (simp [*, errW_none, errW_some] <;> rfl), by repeat (first | (with_reducible first | exact HB.out | apply below_alloc | apply pw_below_drewN | apply below_drew1) | exact HB.out)⟩
                  · rw [if_neg c42] at H
                    have c42b0 : decide (0 < (l0.length : Int)) = false := decide_eq_false c42
                    have c42b1 : decide (0 < l0.length) = false := decide_eq_false (by omega)
                    clear c42
                    obtain ⟨y139, hy139⟩ : ∃ y_ : List ByteArray, y_ = (([(⟨#[97]⟩ : ByteArray)] : List ByteArray)) := ⟨_, rfl⟩
                    replace H : ((impl_Widths.f k2 (([y139] : List (List ByteArray)))).bind fun t145 => (some ((t145.length : Int) == 1))) = some r := by first | (rw [hy139]; with_reducible exact H) | (have H2_ := (Option.bind_some _ _).symm.trans H; rw [hy139]; with_reducible exact H2_) | (have H2_ := (Option.bind_some _ _).symm.trans H; with_reducible exact H2_) | with_reducible exact H | (rw [hy139]; exact H) | exact H
                    have Ny139 := Aside0.mk hy139
                    clear hy139
                    obtain ⟨y142, hy142⟩ : ∃ y_ : List (List ByteArray), y_ = (([y139] : List (List ByteArray))) := ⟨_, rfl⟩
                    replace H : ((impl_Widths.f k2 y142).bind fun t145 => (some ((t145.length : Int) == 1))) = some r := by first | (rw [hy142]; with_reducible exact H) | (have H2_ := (Option.bind_some _ _).symm.trans H; rw [hy142]; with_reducible exact H2_) | (have H2_ := (Option.bind_some _ _).symm.trans H; with_reducible exact H2_) | with_reducible exact H | (rw [hy142]; exact H) | exact H
                    have Ny142 := Aside0.mk hy142
                    clear hy142
                    replace H := Option.bind_eq_some_iff.mp H
                    obtain ⟨t145, A430, H⟩ := H
                    replace H : (some ((t145.length : Int) == 1)) = some r := H
                    have A43 := Aside0.mk A430
                    clear A430
                    obtain rfl := Option.some.inj H
                    go_wp2_with (first | ((with_reducible refine gate_dst (N := 71) rfl ?_); (try (refine gate_guard (by rfl) ?_; dsimp only)); refine Kd.R_lit Kd.string _ 9 ?hg (N := 71) ?hd (xs := ([(⟨#[97]⟩ : ByteArray)] : List ByteArray)) (inner := [.string (⟨#[97]⟩ : ByteArray)]) (ok := fun _ => True) (okp := fun _ => True) ?hr ?hp (fun _ hk => hk) trivial (Below.refl _ _) (Nat.le_refl _) (by simp) ?_; (case hd => rfl); (case hg => rfl); (case hr => first | (go_simp; done) | (go_simp; rfl)); (case hp => exact (Reps.one (show Kd.M Kd.string _ _ _ (⟨#[97]⟩ : ByteArray) [.string (⟨#[97]⟩ : ByteArray)] from rfl) (Reps.none _ _))); intro v140 w44 ho45 hb hg_ hnew_; clear hg_ hnew_; (first | rw [← Ny139.out] at ho45 | (simp only [Int.reduceToNat] at ho45; rw [← Ny139.out] at ho45)); have n0_ := Aside0.mk (Kd.R_below (by (with_reducible repeat (first | apply Kd.R_alloc | apply Kd.R_drewN | apply Kd.R_drew)); exact HO_3.out) hb); have n1_ := Aside0.mk (Kd.R_below (by (with_reducible repeat (first | apply Kd.R_alloc | apply Kd.R_drewN | apply Kd.R_drew)); exact HO_8.out) hb); have n2_ := Aside0.mk (Kd.R_lower ho45 (below_size (by repeat (first | (with_reducible first | exact HB.out | apply below_alloc | apply pw_below_drewN | apply below_drew1) | exact HB.out)))); have n3_ := Aside0.mk (below_step (by repeat (first | (with_reducible first | exact HB.out | apply below_alloc | apply pw_below_drewN | apply below_drew1) | exact HB.out)) hb); clear HO_3; clear HO_8; clear HB; have HO_3 := n0_; have HO_8 := n1_; have HO141 := n2_; have HB := n3_; clear n0_ n1_ n2_ n3_; clear hb ho45; obtain ⟨Ao46, co46, eo46⟩ := Kd.R_slice HO141.out; subst eo46) | ((with_reducible refine gate_dst (N := 72) rfl ?_); (try (refine gate_guard (by rfl) ?_; dsimp only)); refine Kd.N_lit (Kd.slice 9 Kd.string) _ 35 ?hg (N' := 72) ?hd (xs := ([y139] : List (List ByteArray))) (inner := [.slice Ao46 y139.length co46]) (ok := (fun k_ => some k_ ≠ (.slice Ao34 x3_1.length co34 : Value).ownBlock ∧ some k_ ≠ (.slice Ao33 t134.length co33 : Value).ownBlock)) (okp := (fun k_ => some k_ ≠ (.slice Ao34 x3_1.length co34 : Value).ownBlock ∧ some k_ ≠ (.slice Ao33 t134.length co33 : Value).ownBlock)) ?hr ?hp (fun _ hk => hk) ((show ∀ k_, w44.heap.size ≤ k_ → (fun k_ => some k_ ≠ (.slice Ao34 x3_1.length co34 : Value).ownBlock ∧ some k_ ≠ (.slice Ao33 t134.length co33 : Value).ownBlock) k_ from fun k_ hk => ⟨Kd.fresh' (Kd.R_lt (by (with_reducible repeat (first | apply Kd.R_alloc | apply Kd.R_drewN | apply Kd.R_drew)); exact HO_3.out)) k_ hk, Kd.fresh' (Kd.R_lt (by (with_reducible repeat (first | apply Kd.R_alloc | apply Kd.R_drewN | apply Kd.R_drew)); exact HO_8.out)) k_ hk⟩) _ (Nat.le_refl _)) (Below.refl _ _) (Nat.le_refl _) (by simp) ?_; (case hd => rfl); (case hg => rfl); (case hr => first | (go_simp; done) | (go_simp; rfl)); (case hp => exact (Reps.one (show Kd.FK (Kd.slice 9 Kd.string) _ _ y139 [.slice Ao46 y139.length co46] from (Kd.FK_slice_mk (Kd.R_reads' (Kd.R_mono (ok' := (fun k_ => some k_ ≠ (.slice Ao34 x3_1.length co34 : Value).ownBlock ∧ some k_ ≠ (.slice Ao33 t134.length co33 : Value).ownBlock)) (Kd.R_apart' (Kd.R_apart' (HO141.out) (Kd.R_typed HO_3.out) (by decide)) (Kd.R_typed HO_8.out) (by decide)) (fun k_ hk => ⟨hk.1.2, hk.2⟩))).2.1 (Kd.R_F (Kd.R_mono (ok' := (fun k_ => some k_ ≠ (.slice Ao34 x3_1.length co34 : Value).ownBlock ∧ some k_ ≠ (.slice Ao33 t134.length co33 : Value).ownBlock)) (Kd.R_apart' (Kd.R_apart' (HO141.out) (Kd.R_typed HO_3.out) (by decide)) (Kd.R_typed HO_8.out) (by decide)) (fun k_ hk => ⟨hk.1.2, hk.2⟩))))) (Reps.none _ _))); intro v143 w47 ho48 hb hg_ hnew_; clear hg_ hnew_; (first | rw [← Ny142.out] at ho48 | (simp only [Int.reduceToNat] at ho48; rw [← Ny142.out] at ho48)); have n0_ := Aside0.mk (Kd.R_below (by (with_reducible repeat (first | apply Kd.R_alloc | apply Kd.R_drewN | apply Kd.R_drew)); exact HO_3.out) hb); have n1_ := Aside0.mk (Kd.R_below (by (with_reducible repeat (first | apply Kd.R_alloc | apply Kd.R_drewN | apply Kd.R_drew)); exact HO_8.out) hb); have n2_ := Aside0.mk (Kd.N_lower ho48 (below_size (by repeat (first | (with_reducible first | exact HB.out | apply below_alloc | apply pw_below_drewN | apply below_drew1) | exact HB.out)))); have n3_ := Aside0.mk (below_step (by repeat (first | (with_reducible first | exact HB.out | apply below_alloc | apply pw_below_drewN | apply below_drew1) | exact HB.out)) hb); clear HO_3; clear HO_8; clear HB; clear HO141; have HO_3 := n0_; have HO_8 := n1_; have HO144 := n2_; have HB := n3_; clear n0_ n1_ n2_ n3_; clear hb ho48; obtain ⟨Ao49, co49, eo49⟩ := Kd.N_slice HO144.out; subst eo49) | (go_at_call 15; (with_reducible refine (impl_Widths.calls k2 _ _ y142 t145 _ ?side1 ?side2 A43.out).mono ?_); (case side1 => repeat (first | exact (Kd.N_reads' HO144.out).2.2 | (with_reducible refine Kd.C_alloc ?_ _) | (with_reducible refine Kd.C_drewN ?_ _) | (with_reducible refine Kd.C_drew ?_))); (case side2 => exact (Kd.N_reads' HO144.out).2.1); rintro e w50 ⟨v146, rfl, ho0, hb⟩; have n0_ := Aside0.mk (Kd.R_elder' (by (with_reducible repeat (first | apply Kd.R_alloc | apply Kd.R_drewN | apply Kd.R_drew)); exact HO_3.out) (Kd.R_base ho0) hb); have n1_ := Aside0.mk (Kd.R_elder' (by (with_reducible repeat (first | apply Kd.R_alloc | apply Kd.R_drewN | apply Kd.R_drew)); exact HO_8.out) (Kd.R_base ho0) hb); have n2_ := Aside0.mk (Kd.N_elder' (by (with_reducible repeat (first | apply Kd.N_alloc | apply Kd.N_drewN | apply Kd.N_drew)); exact HO144.out) (Kd.R_base ho0) hb); have n3_ := Aside0.mk (Kd.R_lower (Kd.R_new' (Kd.R_new' ho0 (Kd.R_lt (by (with_reducible repeat (first | apply Kd.R_alloc | apply Kd.R_drewN | apply Kd.R_drew)); exact HO_3.out))) (Kd.R_lt (by (with_reducible repeat (first | apply Kd.R_alloc | apply Kd.R_drewN | apply Kd.R_drew)); exact HO_8.out))) (below_size (by repeat (first | (with_reducible first | exact HB.out | apply below_alloc | apply pw_below_drewN | apply below_drew1) | exact HB.out)))); have n4_ := Aside0.mk (below_step (by repeat (first | (with_reducible first | exact HB.out | apply below_alloc | apply pw_below_drewN | apply below_drew1) | exact HB.out)) hb); clear HO_3; clear HO_8; clear HO144; clear HB; have HO_3 := n0_; have HO_8 := n1_; have HO144 := n2_; have HO147 := n3_; have HB := n4_; clear n0_ n1_ n2_ n3_ n4_; (try clear hb); (try clear hb2); (try clear hk); (try clear hi); (try clear ho0); obtain ⟨Ao51, co51, eo51⟩ := Kd.R_slice HO147.out; subst eo51))
                    go_ret
                    exact ⟨by first | rfl | (simp [errW_none, errW_some] <;> rfl) | (simp [*, errW_none, errW_some] <;> rfl), by repeat (first | (with_reducible first | exact HB.out | apply below_alloc | apply pw_below_drewN | apply below_drew1) | exact HB.out)⟩
          · rw [if_neg c31] at H
            have c31b0 : ((t134.length : Int) == (x3_1.length : Int)) = false := beq_eq_false_iff_ne.mpr c31
            have c31b1 : ((t134.length : Int) != (x3_1.length : Int)) = true := bne_iff_ne.mpr c31
            have c31b2 : (t134.length == x3_1.length) = false := by first | simpa using c31 | (simp at c31 ⊢; omega)
            obtain rfl := Option.some.inj H
            go_wp2_with (first | ((with_reducible refine gate_callee (f := 15) rfl ?_); refine goesL_ (some 46) rfl rfl Try.func15 (by kernel_rfl) rfl #[.slice A0 l0.length c0] rfl (by (try simp only [List.map_toArray, List.map_cons, List.map_nil]); first | done | rfl | (simp only [List.length_drop, List.length_take]; rfl)) ?_; (with_reducible refine (impl_Widths.calls k1 _ _ l0 t134 _ ?side1 ?side2 A30.out).mono ?_); (case side1 => repeat (first | exact (Kd.C_below HR0.out HB.out) | (with_reducible refine Kd.C_alloc ?_ _) | (with_reducible refine Kd.C_drewN ?_ _) | (with_reducible refine Kd.C_drew ?_))); (case side2 => exact HC0.out); rintro e w52 ⟨v135, rfl, ho0, hb⟩; refine ⟨_, rfl, ?_⟩; have n0_ := Aside0.mk (Kd.R_elder' (by (with_reducible repeat (first | apply Kd.R_alloc | apply Kd.R_drewN | apply Kd.R_drew)); exact HO_3.out) (Kd.R_base ho0) hb); have n1_ := Aside0.mk (Kd.R_lower (Kd.R_new' ho0 (Kd.R_lt (by (with_reducible repeat (first | apply Kd.R_alloc | apply Kd.R_drewN | apply Kd.R_drew)); exact HO_3.out))) (below_size (by repeat (first | (with_reducible first | exact HB.out | apply below_alloc | apply pw_below_drewN | apply below_drew1) | exact HB.out)))); have n2_ := Aside0.mk (below_step (by repeat (first | (with_reducible first | exact HB.out | apply below_alloc | apply pw_below_drewN | apply below_drew1) | exact HB.out)) hb); clear HO_3; clear HB; have HO_3 := n0_; have HO136 := n1_; have HB := n2_; clear n0_ n1_ n2_; (try clear hb); (try clear hb2); (try clear hk); (try clear hi); (try clear ho0); obtain ⟨Ao53, co53, eo53⟩ := Kd.R_slice HO136.out; subst eo53; obtain ⟨Ao54, co54, eo54⟩ := Kd.R_slice HO_3.out; subst eo54))
            go_ret
            exact ⟨by first | rfl | (simp [errW_none, errW_some] <;> rfl) | (simp [*, errW_none, errW_some] <;> rfl), by repeat (first | (with_reducible first | exact HB.out | apply below_alloc | apply pw_below_drewN | apply below_drew1) | exact HB.out)⟩
  · replace c3 := Bool.eq_false_iff.mpr c3
    subst c3
    have H1 : (some true) = some r := by rw [if_neg (show ¬ (false = true) by decide)] at H; exact H
    clear H
    have H := H1
    clear H1
    obtain rfl := Option.some.inj H
    go_enter Try.func6, Try.ntmps6
    go_wp2_with (first | ((with_reducible refine gate_callee (f := 13) rfl ?_); refine goesL_ (some 11) rfl rfl Try.func13 (by kernel_rfl) rfl #[.slice A0 l0.length c0] rfl (by (try simp only [List.map_toArray, List.map_cons, List.map_nil]); first | done | rfl | (simp only [List.length_drop, List.length_take]; rfl)) ?_; (with_reducible refine (laws_zzFits6.calls k _ _ l0 false _ ?side1 ?side2 A2.out).mono ?_); (case side1 => repeat (first | exact HR0.out | (with_reducible refine Kd.C_alloc ?_ _) | (with_reducible refine Kd.C_drewN ?_ _) | (with_reducible refine Kd.C_drew ?_))); (case side2 => exact HC0.out); rintro e w' ⟨rfl, ⟨nd, rfl⟩⟩; refine ⟨_, rfl, ?_⟩))
    go_ret
    exact ⟨by first | rfl | (simp [errW_none, errW_some] <;> rfl) | (simp [*, errW_none, errW_some] <;> rfl), by repeat (first | (with_reducible first | exact HB.out | apply below_alloc | apply pw_below_drewN | apply below_drew1) | exact HB.out)⟩

end Go.Proofs.Ytgkdpjlmklhjaaa.PFnWidths
