/- A part of the proof of FnEmptyCode: EDomx6, HasE, NextX, HasX, EmpP, RedY, EmpX, EmpZ, one behind the other. -/
import Derived.Test.YtmfjbljdbkmkgaaMFnEmptyCode2
import Derived.Test.YtmfjbljdbkmkgaaMFnEmptyCode4
import Derived.Test.YtmfjbljdbkmkgaaMFnEmptyCode3
import Derived.Deep.DeepMust
import Derived.Deep.LoopGhost
import Derived.Laws.EntriesVeiled
/- Printed by the program extprint.py of this session, out of the kit's print and contracts of this session's own; Lean checks it. -/
namespace Go.Proofs.Ytmfjbljdbkmkgaa.PDom
open Go.RowKit Go.Proofs.YtmfjbljdbkmkgaaW.PrintWords Go.Proofs.YtmfjbljdbkmkgaaW.PrintLast Go.Proofs.YtmfjbljdbkmkgaaW.PrintMore
attribute [local go_sem] max2_int min2_int max_two min_two max_three min_three max_four min_four   -- for this text's walks alone
set_option linter.unusedVariables false
set_option linter.unusedSimpArgs false


/-! ### laws_inlineHas: function 18 -/
mutual
def laws_inlineHas.j0 : Nat → List ByteArray → Bool → Int → ByteArray → ByteArray → List (S53) → List (S25) → Option (Bool)
  | 0, _, _, _, _, _, _, _ => none
  | k + 1, x1, x15, x212000, x212001, x212002, x212003, x212004 => if x15 = true then (some true) else (laws_inlineHas.l0 k x1 x212004 (x212004.length : Int) 0)
def laws_inlineHas.l0 : Nat → List ByteArray → List (S25) → Int → Int → Option (Bool)
  | 0, _, _, _, _ => none
  | k + 1, x1, x17, x18, x19 => if x19 < x18 then (if 0 ≤ x19 then (if x19 < (x17.length : Int) then ((laws_inlineHas.f k ((rd_T25 x17 x19).f0) ((rd_T25 x17 x19).f1) ((rd_T25 x17 x19).f2) ((rd_T25 x17 x19).f3) ((rd_T25 x17 x19).f4) x1).bind fun t215 => (if t215 = true then (some true) else (laws_inlineHas.l0 k x1 x17 x18 (wrap64 (x19 + 1))))) else (none)) else (none)) else (some false)
def laws_inlineHas.f : Nat → Int → ByteArray → ByteArray → List (S53) → List (S25) → List ByteArray → Option (Bool)
  | 0, _, _, _, _, _, _ => none
  | k + 1, a0_0, a0_1, a0_2, l0_3, l0_4, l1 => if a0_0 = 0 then ((spec_Named.f k l1 a0_1).bind fun t212 => (laws_inlineHas.j0 k l1 t212 a0_0 a0_1 a0_2 l0_3 l0_4)) else (laws_inlineHas.j0 k l1 false a0_0 a0_1 a0_2 l0_3 l0_4)
end
theorem laws_inlineHas.mono_l : ∀ k, (∀ y0 y1 y2 y3 y4 y5, LeO (laws_inlineHas.f k y0 y1 y2 y3 y4 y5) (laws_inlineHas.f (k + 1) y0 y1 y2 y3 y4 y5)) ∧ (∀ y0 y1 y2 y3 y4 y5 y6, LeO (laws_inlineHas.j0 k y0 y1 y2 y3 y4 y5 y6) (laws_inlineHas.j0 (k + 1) y0 y1 y2 y3 y4 y5 y6)) ∧ (∀ y0 y1 y2 y3, LeO (laws_inlineHas.l0 k y0 y1 y2 y3) (laws_inlineHas.l0 (k + 1) y0 y1 y2 y3))
  | 0 => ⟨fun _ _ _ _ _ _ r h => by simp [laws_inlineHas.f] at h, fun _ _ _ _ _ _ _ r h => by simp [laws_inlineHas.j0] at h, fun _ _ _ _ r h => by simp [laws_inlineHas.l0] at h⟩
  | k + 1 => by
    obtain ⟨ih0, ih1, ih2⟩ := laws_inlineHas.mono_l k
    refine ⟨?_, ?_, ?_⟩
    · intro y0 y1 y2 y3 y4 y5
      unfold laws_inlineHas.f
      repeat' first
      | (with_reducible exact ih0 _ _ _ _ _ _)
      | (with_reducible exact ih1 _ _ _ _ _ _ _)
      | (with_reducible exact ih2 _ _ _ _)
      | (with_reducible exact spec_Named.mono _ _ _)
      | (with_reducible exact LeO.refl _)
      | (with_reducible exact LeO.none _)
      | (with_reducible refine LeO.ite ?_ ?_)
      | (with_reducible refine LeO.bind ?_ (fun _ => ?_))
      | exact ih0 _ _ _ _ _ _
      | exact ih1 _ _ _ _ _ _ _
      | exact ih2 _ _ _ _
      | exact spec_Named.mono _ _ _
      | exact LeO.none _
      | refine LeO.ite ?_ ?_
      | refine LeO.bind ?_ (fun _ => ?_)
    · intro y0 y1 y2 y3 y4 y5 y6
      unfold laws_inlineHas.j0
      repeat' first
      | (with_reducible exact ih0 _ _ _ _ _ _)
      | (with_reducible exact ih1 _ _ _ _ _ _ _)
      | (with_reducible exact ih2 _ _ _ _)
      | (with_reducible exact spec_Named.mono _ _ _)
      | (with_reducible exact LeO.refl _)
      | (with_reducible exact LeO.none _)
      | (with_reducible refine LeO.ite ?_ ?_)
      | (with_reducible refine LeO.bind ?_ (fun _ => ?_))
      | exact ih0 _ _ _ _ _ _
      | exact ih1 _ _ _ _ _ _ _
      | exact ih2 _ _ _ _
      | exact spec_Named.mono _ _ _
      | exact LeO.none _
      | refine LeO.ite ?_ ?_
      | refine LeO.bind ?_ (fun _ => ?_)
    · intro y0 y1 y2 y3
      unfold laws_inlineHas.l0
      repeat' first
      | (with_reducible exact ih0 _ _ _ _ _ _)
      | (with_reducible exact ih1 _ _ _ _ _ _ _)
      | (with_reducible exact ih2 _ _ _ _)
      | (with_reducible exact spec_Named.mono _ _ _)
      | (with_reducible exact LeO.refl _)
      | (with_reducible exact LeO.none _)
      | (with_reducible refine LeO.ite ?_ ?_)
      | (with_reducible refine LeO.bind ?_ (fun _ => ?_))
      | exact ih0 _ _ _ _ _ _
      | exact ih1 _ _ _ _ _ _ _
      | exact ih2 _ _ _ _
      | exact spec_Named.mono _ _ _
      | exact LeO.none _
      | refine LeO.ite ?_ ?_
      | refine LeO.bind ?_ (fun _ => ?_)
theorem laws_inlineHas.mono : ∀ a0 a1 a2 a3 a4 a5 k, LeO (laws_inlineHas.f k a0 a1 a2 a3 a4 a5) (laws_inlineHas.f (k + 1) a0 a1 a2 a3 a4 a5) := by
  intro a0 a1 a2 a3 a4 a5 k
  obtain ⟨ih0, ih1, ih2⟩ := laws_inlineHas.mono_l k
  exact ih0 a0 a1 a2 a3 a4 a5
set_option maxHeartbeats 8000000 in
set_option maxRecDepth 100000 in
theorem laws_inlineHas.calls (k : Nat) : ∀ (a0_0 : Int) (a0_1 : ByteArray) (a0_2 : ByteArray) (A0_3 : Option Addr) (c0_3 : Nat) (l0_3 : List (S53)) (A0_4 : Option Addr) (c0_4 : Nat) (l0_4 : List (S25)) (A1 : Option Addr) (c1 : Nat) (l1 : List ByteArray) (r : Bool) (w : World) (hr0_3 : Kd.C k53 w A0_3 l0_3.length l0_3) (hc0_3 : l0_3.length ≤ c0_3) (hr0_4 : Kd.C k25 w A0_4 l0_4.length l0_4) (hc0_4 : l0_4.length ≤ c0_4) (hr1 : Kd.C Kd.string w A1 l1.length l1) (hc1 : l1.length ≤ c1) (h : laws_inlineHas.f k a0_0 a0_1 a0_2 l0_3 l0_4 l1 = some r),
    Calls Try.prog 18 #[.agg #[.int .i64 a0_0, .string a0_1, .string a0_2, .slice A0_3 l0_3.length c0_3, .slice A0_4 l0_4.length c0_4], .slice A1 l1.length c1] w fun e w' => e = .returned (.bool r) ∧ Below w.heap.size w w' := by
  induction k using Nat.strongRecOn with
  | _ k ih =>
  intro a0_0 a0_1 a0_2 A0_3 c0_3 l0_3 A0_4 c0_4 l0_4 A1 c1 l1 r w hr0_3 hc0_3 hr0_4 hc0_4 hr1 hc1 h
  cases k with
  | zero => exact absurd h (by simp [laws_inlineHas.f])
  | succ k =>
  simp only [laws_inlineHas.f] at h
  have hu25 := Try.underlying25
  have HR0_3 := Aside0.mk hr0_3
  have HC0_3 := Aside0.mk hc0_3
  clear hr0_3 hc0_3
  have HR0_4 := Aside0.mk hr0_4
  have HC0_4 := Aside0.mk hc0_4
  clear hr0_4 hc0_4
  have HR1 := Aside0.mk hr1
  have HC1 := Aside0.mk hc1
  clear hr1 hc1
  have HB := Aside0.mk (Below.refl w.heap.size w)
  have H : (if a0_0 = 0 then ((spec_Named.f k l1 a0_1).bind fun t212 => (laws_inlineHas.j0 k l1 t212 a0_0 a0_1 a0_2 l0_3 l0_4)) else (laws_inlineHas.j0 k l1 false a0_0 a0_1 a0_2 l0_3 l0_4)) = some r := h
  clear h
  have HC3 := Aside0.mk H
  clear H
  go_enter Try.func18, Try.ntmps18
  go_upto_region 1 with (first | ((with_reducible refine gate_dst (N := 2) rfl ?_); refine box_event ?hg (N := 2) ?hd (cs := #[.int .i64 a0_0, .string a0_1, .string a0_2, .slice A0_3 l0_3.length c0_3, .slice A0_4 l0_4.length c0_4]) (t := 25) ?hr ?_; (case hd => rfl); (case hg => rfl); (case hr => first | (go_simp; done) | (go_simp; rfl)); intro gb211 hg w4 hbox hb; have n0_ := Aside0.mk (below_step (by repeat (first | (with_reducible first | exact HB.out | apply below_alloc | apply pw_below_drewN | apply below_drew1) | exact HB.out)) hb); have n1_ := Aside0.mk (hbox); have n2_ := Aside0.mk ((by rw [hg]; exact (below_size (by repeat (first | (with_reducible first | exact HB.out | apply below_alloc | apply pw_below_drewN | apply below_drew1) | exact HB.out))) : w.heap.size ≤ gb211)); have n3_ := Aside0.mk ((by rw [hg]; exact (below_size (by repeat (first | (with_reducible first | exact HB.out | apply below_alloc | apply pw_below_drewN | apply below_drew1) | exact HB.out))) : w.heap.size ≤ gb211)); clear HB; have HB := n0_; have BK211 := n1_; have GW211 := n2_; have GE211 := n3_; clear n0_ n1_ n2_ n3_; clear hb hbox hg))
  (try simp only [Act.put, List.setIfInBounds_toArray, List.set_cons_zero, List.set_cons_succ])
  go_cut [15] (fun v15 wc => ∃ (kq : Nat) (x15_2 : Bool), v15 = .bool x15_2 ∧ Aside0 (laws_inlineHas.j0 kq l1 x15_2 a0_0 a0_1 a0_2 l0_3 l0_4 = some r) ∧ Aside0 (kq ≤ k) ∧ Aside0 (wc.heap[gb211]? = some (.cells #[.int .i64 a0_0, .string a0_1, .string a0_2, (.slice A0_3 l0_3.length c0_3), (.slice A0_4 l0_4.length c0_4)] 25 (0, 0))) ∧ Aside0 (Below w.heap.size w wc))
  case first =>
    have H := HC3.out
    clear HC3
    by_cases c5 : a0_0 = 0
    · rw [if_pos c5] at H
      have c5b0 : (a0_0 == 0) = true := beq_iff_eq.mpr c5
      have c5b1 : (a0_0 != 0) = false := bne_eq_false_iff_eq.mpr c5
      clear c5
      (first | rw [c5b0] | (simp only [i64_w, i32_w]; rw [c5b0]) | skip)
      replace H := Option.bind_eq_some_iff.mp H
      obtain ⟨t212, A60, H⟩ := H
      replace H : (laws_inlineHas.j0 k l1 t212 a0_0 a0_1 a0_2 l0_3 l0_4) = some r := H
      have A6 := Aside0.mk A60
      clear A60
      have H' := Aside0.mk H
      clear H
      have hcz7_0 : w4.cell? ⟨gb211, 0, none⟩ = some (.int .i64 a0_0) := (blk_cell BK211.out 0).trans rfl
      have hcz7_1 : w4.cell? ⟨gb211, 1, none⟩ = some (.string a0_1) := (blk_cell BK211.out 1).trans rfl
      have hcz7_2 : w4.cell? ⟨gb211, 2, none⟩ = some (.string a0_2) := (blk_cell BK211.out 2).trans rfl
      have hcz7_3 : w4.cell? ⟨gb211, 3, none⟩ = some (.slice A0_3 l0_3.length c0_3) := (blk_cell BK211.out 3).trans rfl
      have hcz7_4 : w4.cell? ⟨gb211, 4, none⟩ = some (.slice A0_4 l0_4.length c0_4) := (blk_cell BK211.out 4).trans rfl
      have hfz7_0 := blk_frozen BK211.out 0
      have hfz7_1 := blk_frozen BK211.out 1
      have hfz7_2 := blk_frozen BK211.out 2
      have hfz7_3 := blk_frozen BK211.out 3
      have hfz7_4 := blk_frozen BK211.out 4
      go_wp2_with (first | (go_at_call 37; (with_reducible refine (spec_Named.calls k _ _ l1 a0_1 t212 _ ?side1 ?side2 A6.out).mono ?_); (case side1 => repeat (first | exact (Kd.C_below HR1.out HB.out) | (with_reducible refine Kd.C_alloc ?_ _) | (with_reducible refine Kd.C_drewN ?_ _) | (with_reducible refine Kd.C_drew ?_))); (case side2 => exact HC1.out); rintro e w' ⟨rfl, ⟨nd, rfl⟩⟩))
      go_meet
      case rel => exact ⟨_, (t212), (by first | rfl | (simp; done) | (simp [*]; done)), H', ⟨by first | omega | exact Nat.le_refl _⟩, ⟨by (with_reducible repeat (first | refine blk_drewN ?_ _ | refine blk_drew ?_ | refine blk_alloc ?_ _)); exact BK211.out⟩, ⟨by repeat (first | (with_reducible first | exact HB.out | apply below_alloc | apply pw_below_drewN | apply below_drew1 | refine below_set ?_ GE211.out) | exact HB.out)⟩⟩
    · rw [if_neg c5] at H
      have c5b0 : (a0_0 == 0) = false := beq_eq_false_iff_ne.mpr c5
      have c5b1 : (a0_0 != 0) = true := bne_iff_ne.mpr c5
      (first | rw [c5b0] | (simp only [i64_w, i32_w]; rw [c5b0]) | skip)
      have H' := Aside0.mk H
      clear H
      have hcz8_0 : w4.cell? ⟨gb211, 0, none⟩ = some (.int .i64 a0_0) := (blk_cell BK211.out 0).trans rfl
      have hcz8_1 : w4.cell? ⟨gb211, 1, none⟩ = some (.string a0_1) := (blk_cell BK211.out 1).trans rfl
      have hcz8_2 : w4.cell? ⟨gb211, 2, none⟩ = some (.string a0_2) := (blk_cell BK211.out 2).trans rfl
      have hcz8_3 : w4.cell? ⟨gb211, 3, none⟩ = some (.slice A0_3 l0_3.length c0_3) := (blk_cell BK211.out 3).trans rfl
      have hcz8_4 : w4.cell? ⟨gb211, 4, none⟩ = some (.slice A0_4 l0_4.length c0_4) := (blk_cell BK211.out 4).trans rfl
      have hfz8_0 := blk_frozen BK211.out 0
      have hfz8_1 := blk_frozen BK211.out 1
      have hfz8_2 := blk_frozen BK211.out 2
      have hfz8_3 := blk_frozen BK211.out 3
      have hfz8_4 := blk_frozen BK211.out 4
      go_wp2
      go_meet
      case rel => exact ⟨_, (false), (by first | rfl | (simp; done) | (simp [*]; done)), H', ⟨by first | omega | exact Nat.le_refl _⟩, ⟨by (with_reducible repeat (first | refine blk_drewN ?_ _ | refine blk_drew ?_ | refine blk_alloc ?_ _)); exact BK211.out⟩, ⟨by repeat (first | (with_reducible first | exact HB.out | apply below_alloc | apply pw_below_drewN | apply below_drew1 | refine below_set ?_ GE211.out) | exact HB.out)⟩⟩
  case rest =>
    clear HC3
    try clear c1
    try clear p2
    try clear c5
    try clear c5b0
    try clear c5b1
    try clear hcz7_0
    try clear hcz7_1
    try clear hcz7_2
    try clear hcz7_3
    try clear hcz7_4
    try clear hcz8_0
    try clear hcz8_1
    try clear hcz8_2
    try clear hcz8_3
    try clear hcz8_4
    try clear hfz7_0
    try clear hfz7_1
    try clear hfz7_2
    try clear hfz7_3
    try clear hfz7_4
    try clear hfz8_0
    try clear hfz8_1
    try clear hfz8_2
    try clear hfz8_3
    try clear hfz8_4
    obtain ⟨kq, x15_2, rfl, HA, HJ2, BK211, HB⟩ := hcut
    cases kq with
    | zero => exact absurd HA.out (by simp [laws_inlineHas.j0])
    | succ kj2 =>
      have H := HA.out
      clear HA
      simp only [laws_inlineHas.j0] at H
      by_cases c9 : x15_2 = true
      · subst c9
        have H1 : (some true) = some r := by rw [if_pos rfl] at H; exact H
        clear H
        have H := H1
        clear H1
        obtain rfl := Option.some.inj H
        go_wp2
        go_ret
        exact ⟨by first | rfl | (simp [errW_none, errW_some] <;> rfl) | (simp [*, errW_none, errW_some] <;> rfl), by repeat (first | (with_reducible first | exact HB.out | apply below_alloc | apply pw_below_drewN | apply below_drew1 | refine below_set ?_ GE211.out) | exact HB.out)⟩
      · replace c9 := Bool.eq_false_iff.mpr c9
        subst c9
        have H1 : (laws_inlineHas.l0 kj2 l1 l0_4 (l0_4.length : Int) 0) = some r := by rw [if_neg (show ¬ (false = true) by decide)] at H; exact H
        clear H
        have H := H1
        clear H1
        have H' := Aside0.mk H
        clear H
        have hcz10_0 : wc.cell? ⟨gb211, 0, none⟩ = some (.int .i64 a0_0) := (blk_cell BK211.out 0).trans rfl
        have hcz10_1 : wc.cell? ⟨gb211, 1, none⟩ = some (.string a0_1) := (blk_cell BK211.out 1).trans rfl
        have hcz10_2 : wc.cell? ⟨gb211, 2, none⟩ = some (.string a0_2) := (blk_cell BK211.out 2).trans rfl
        have hcz10_3 : wc.cell? ⟨gb211, 3, none⟩ = some (.slice A0_3 l0_3.length c0_3) := (blk_cell BK211.out 3).trans rfl
        have hcz10_4 : wc.cell? ⟨gb211, 4, none⟩ = some (.slice A0_4 l0_4.length c0_4) := (blk_cell BK211.out 4).trans rfl
        have hfz10_0 := blk_frozen BK211.out 0
        have hfz10_1 := blk_frozen BK211.out 1
        have hfz10_2 := blk_frozen BK211.out 2
        have hfz10_3 := blk_frozen BK211.out 3
        have hfz10_4 := blk_frozen BK211.out 4
        go_wp2
        go_loopg [19] kj2 (fun kq v19 w' => ∃ (x19_2 : Int), v19 = .int .i64 x19_2 ∧ Aside0 (laws_inlineHas.l0 kq l1 l0_4 (l0_4.length : Int) x19_2 = some r) ∧ Aside0 (kq ≤ kj2) ∧ Aside0 (w'.heap[gb211]? = some (.cells #[.int .i64 a0_0, .string a0_1, .string a0_2, (.slice A0_3 l0_3.length c0_3), (.slice A0_4 l0_4.length c0_4)] 25 (0, 0))) ∧ Aside0 (Below w.heap.size w w'))
        case atStart => exact ⟨(0), (by first | rfl | (simp; done) | (simp [*]; done)), H', ⟨Nat.le_refl _⟩, ⟨by (with_reducible repeat (first | refine blk_drewN ?_ _ | refine blk_drew ?_ | refine blk_alloc ?_ _)); exact BK211.out⟩, ⟨by repeat (first | (with_reducible first | exact HB.out | apply below_alloc | apply pw_below_drewN | apply below_drew1 | refine below_set ?_ GE211.out) | exact HB.out)⟩⟩
        case round =>
          clear H'
          try clear c1
          try clear p2
          try clear c5
          try clear c5b0
          try clear c5b1
          try clear c9
          try clear hcz10_0
          try clear hcz10_1
          try clear hcz10_2
          try clear hcz10_3
          try clear hcz10_4
          try clear hcz7_0
          try clear hcz7_1
          try clear hcz7_2
          try clear hcz7_3
          try clear hcz7_4
          try clear hcz8_0
          try clear hcz8_1
          try clear hcz8_2
          try clear hcz8_3
          try clear hcz8_4
          try clear hfz10_0
          try clear hfz10_1
          try clear hfz10_2
          try clear hfz10_3
          try clear hfz10_4
          try clear hfz7_0
          try clear hfz7_1
          try clear hfz7_2
          try clear hfz7_3
          try clear hfz7_4
          try clear hfz8_0
          try clear hfz8_1
          try clear hfz8_2
          try clear hfz8_3
          try clear hfz8_4
          try clear p2
          obtain ⟨x19_2, rfl, HA, HK2, BK211, HB⟩ := hrel
          cases gk with
          | zero => exact absurd HA.out (by simp [laws_inlineHas.l0])
          | succ k2 =>
            have H := HA.out
            clear HA
            simp only [laws_inlineHas.l0] at H
            by_cases c11 : x19_2 < (l0_4.length : Int)
            · rw [if_pos c11] at H
              have c11b0 : decide (x19_2 < (l0_4.length : Int)) = true := decide_eq_true c11
              clear c11
              by_cases c12 : 0 ≤ x19_2
              · rw [if_pos c12] at H
                have c12b0 : decide (0 ≤ x19_2) = true := decide_eq_true c12
                clear c12
                by_cases c13 : x19_2 < (l0_4.length : Int)
                · rw [if_pos c13] at H
                  have c13b0 : decide (x19_2 < (l0_4.length : Int)) = true := decide_eq_true c13
                  clear c13
                  replace H := Option.bind_eq_some_iff.mp H
                  obtain ⟨t215, A140, H⟩ := H
                  replace H : (if t215 = true then (some true) else (laws_inlineHas.l0 k2 l1 l0_4 (l0_4.length : Int) (wrap64 (x19_2 + 1)))) = some r := H
                  have A14 := Aside0.mk A140
                  clear A140
                  by_cases c15 : t215 = true
                  · subst c15
                    have H1 : (some true) = some r := by rw [if_pos rfl] at H; exact H
                    clear H
                    have H := H1
                    clear H1
                    obtain rfl := Option.some.inj H
                    have p213 : 0 ≤ (x19_2 : Int) := of_decide_eq_true (by first | (with_reducible assumption) | assumption)
                    have q213 : x19_2 < (l0_4.length : Int) := of_decide_eq_true (by first | (with_reducible assumption) | assumption)
                    obtain ⟨ad213, A213_3, c213_3, A213_4, c213_4, e213, hx213_0, hx213_1, hx213_2, hx213_3, hx213_4, hl213_3, hi213_3, hl213_4, hi213_4⟩ := at_T25 HR0_4.out x19_2 p213 q213
                    cases e213
                    replace hx213_0 := (HB.out.cell (World.block_lt_of_cell? w _ hx213_0)).trans hx213_0
                    replace hx213_1 := (HB.out.cell (World.block_lt_of_cell? w _ hx213_1)).trans hx213_1
                    replace hx213_2 := (HB.out.cell (World.block_lt_of_cell? w _ hx213_2)).trans hx213_2
                    replace hx213_3 := (HB.out.cell (World.block_lt_of_cell? w _ hx213_3)).trans hx213_3
                    replace hx213_4 := (HB.out.cell (World.block_lt_of_cell? w _ hx213_4)).trans hx213_4
                    have HR213_3 := Aside0.mk hi213_3
                    have HC213_3 := Aside0.mk hl213_3
                    clear hi213_3 hl213_3
                    have HR213_4 := Aside0.mk hi213_4
                    have HC213_4 := Aside0.mk hl213_4
                    clear hi213_4 hl213_4
                    replace p213 := eq_true p213
                    replace q213 := eq_true q213
                    go_wp2_with (first | ((with_reducible refine gate_dst (N := 6) rfl ?_); refine box_event ?hg (N := 6) ?hd (cs := #[.int .i64 0, .string (⟨#[]⟩ : ByteArray), .string (⟨#[]⟩ : ByteArray), .slice none 0 0, .slice none 0 0]) (t := 25) ?hr ?_; (case hd => rfl); (case hg => rfl); (case hr => first | (go_simp; done) | (go_simp; rfl)); intro gb214 hg w16 hbox hb; have n0_ := Aside0.mk (blk_below (g := gb211) (o := .cells #[.int .i64 a0_0, .string a0_1, .string a0_2, .slice A0_3 l0_3.length c0_3, .slice (some ad213) l0_4.length c0_4] 25 (0, 0)) (by (with_reducible repeat (first | refine blk_drewN ?_ _ | refine blk_drew ?_ | refine blk_alloc ?_ _)); exact BK211.out) hb); have n1_ := Aside0.mk (below_step (by repeat (first | (with_reducible first | exact HB.out | apply below_alloc | apply pw_below_drewN | apply below_drew1 | refine below_set ?_ GE211.out) | exact HB.out)) hb); have n2_ := Aside0.mk (hbox); have n3_ := Aside0.mk ((by rw [hg]; exact (below_size (by repeat (first | (with_reducible first | exact HB.out | apply below_alloc | apply pw_below_drewN | apply below_drew1 | refine below_set ?_ GE211.out) | exact HB.out))) : w.heap.size ≤ gb214)); have n4_ := Aside0.mk ((by rw [hg]; exact (below_size (by repeat (first | (with_reducible first | exact HB.out | apply below_alloc | apply pw_below_drewN | apply below_drew1 | refine below_set ?_ GE211.out) | exact HB.out))) : w.heap.size ≤ gb214)); have n5_ := Aside0.mk ((by rw [hg]; exact Nat.ne_of_lt (blk_lt (g := gb211) (o := .cells #[.int .i64 a0_0, .string a0_1, .string a0_2, .slice A0_3 l0_3.length c0_3, .slice (some ad213) l0_4.length c0_4] 25 (0, 0)) (by (with_reducible repeat (first | refine blk_drewN ?_ _ | refine blk_drew ?_ | refine blk_alloc ?_ _)); exact BK211.out)) : gb211 ≠ gb214)); have n6_ := Aside0.mk ((by rw [hg]; exact Nat.ne_of_gt (blk_lt (g := gb211) (o := .cells #[.int .i64 a0_0, .string a0_1, .string a0_2, .slice A0_3 l0_3.length c0_3, .slice (some ad213) l0_4.length c0_4] 25 (0, 0)) (by (with_reducible repeat (first | refine blk_drewN ?_ _ | refine blk_drew ?_ | refine blk_alloc ?_ _)); exact BK211.out)) : gb214 ≠ gb211)); clear BK211; clear HB; have BK211 := n0_; have HB := n1_; have BK214 := n2_; have GW214 := n3_; have GE214 := n4_; have NB211_214 := n5_; have NB214_211 := n6_; clear n0_ n1_ n2_ n3_ n4_ n5_ n6_; clear hb hbox hg; have hnb17 := NB214_211.out; have hnc17 := NB211_214.out; have hcz18_0 : w16.cell? ⟨gb214, 0, none⟩ = some (.int .i64 0) := (blk_cell BK214.out 0).trans rfl; have hcz18_1 : w16.cell? ⟨gb214, 1, none⟩ = some (.string (⟨#[]⟩ : ByteArray)) := (blk_cell BK214.out 1).trans rfl; have hcz18_2 : w16.cell? ⟨gb214, 2, none⟩ = some (.string (⟨#[]⟩ : ByteArray)) := (blk_cell BK214.out 2).trans rfl; have hcz18_3 : w16.cell? ⟨gb214, 3, none⟩ = some (.slice none 0 0) := (blk_cell BK214.out 3).trans rfl; have hcz18_4 : w16.cell? ⟨gb214, 4, none⟩ = some (.slice none 0 0) := (blk_cell BK214.out 4).trans rfl; have hfz18_0 := blk_frozen BK214.out 0; have hfz18_1 := blk_frozen BK214.out 1; have hfz18_2 := blk_frozen BK214.out 2; have hfz18_3 := blk_frozen BK214.out 3; have hfz18_4 := blk_frozen BK214.out 4) | ((with_reducible refine gate_callee (f := 18) rfl ?_); refine goesL_ (some 25) rfl rfl Try.func18 (by kernel_rfl) rfl #[.agg #[.int .i64 ((rd_T25 l0_4 x19_2).f0), .string ((rd_T25 l0_4 x19_2).f1), .string ((rd_T25 l0_4 x19_2).f2), .slice A213_3 ((rd_T25 l0_4 x19_2).f3).length c213_3, .slice A213_4 ((rd_T25 l0_4 x19_2).f4).length c213_4], .slice A1 l1.length c1] rfl (by (try simp only [List.map_toArray, List.map_cons, List.map_nil]); first | done | rfl | (simp only [List.length_drop, List.length_take]; rfl)) ?_; (with_reducible refine (ih k2 (by have := HJ2.out; have := HK2.out; omega) ((rd_T25 l0_4 x19_2).f0) ((rd_T25 l0_4 x19_2).f1) ((rd_T25 l0_4 x19_2).f2) _ _ ((rd_T25 l0_4 x19_2).f3) _ _ ((rd_T25 l0_4 x19_2).f4) _ _ l1 true _ ?side1 ?side2 ?side3 ?side4 ?side5 ?side6 A14.out).mono ?_); (case side1 => exact Kd.C_below HR213_3.out (by repeat (first | (with_reducible first | exact HB.out | apply below_alloc | apply pw_below_drewN | apply below_drew1 | refine below_set ?_ GE211.out | refine below_set ?_ GE214.out) | exact HB.out))); (case side2 => exact HC213_3.out); (case side3 => exact Kd.C_below HR213_4.out (by repeat (first | (with_reducible first | exact HB.out | apply below_alloc | apply pw_below_drewN | apply below_drew1 | refine below_set ?_ GE211.out | refine below_set ?_ GE214.out) | exact HB.out))); (case side4 => exact HC213_4.out); (case side5 => exact Kd.C_below HR1.out (by repeat (first | (with_reducible first | exact HB.out | apply below_alloc | apply pw_below_drewN | apply below_drew1 | refine below_set ?_ GE211.out | refine below_set ?_ GE214.out) | exact HB.out))); (case side6 => exact HC1.out); rintro e w19 ⟨rfl, hb⟩; refine ⟨_, rfl, ?_⟩; have n0_ := Aside0.mk (blk_below (g := gb211) (o := .cells #[.int .i64 a0_0, .string a0_1, .string a0_2, .slice A0_3 l0_3.length c0_3, .slice (some ad213) l0_4.length c0_4] 25 (0, 0)) (by (with_reducible repeat (first | refine blk_drewN ?_ _ | refine blk_drew ?_ | refine blk_alloc ?_ _)); refine blk_far ?_ NB211_214.out _; (with_reducible repeat (first | refine blk_drewN ?_ _ | refine blk_drew ?_ | refine blk_alloc ?_ _)); refine blk_far ?_ NB211_214.out _; (with_reducible repeat (first | refine blk_drewN ?_ _ | refine blk_drew ?_ | refine blk_alloc ?_ _)); refine blk_far ?_ NB211_214.out _; (with_reducible repeat (first | refine blk_drewN ?_ _ | refine blk_drew ?_ | refine blk_alloc ?_ _)); refine blk_far ?_ NB211_214.out _; (with_reducible repeat (first | refine blk_drewN ?_ _ | refine blk_drew ?_ | refine blk_alloc ?_ _)); refine blk_far ?_ NB211_214.out _; (with_reducible repeat (first | refine blk_drewN ?_ _ | refine blk_drew ?_ | refine blk_alloc ?_ _)); exact BK211.out) hb); have n1_ := Aside0.mk (blk_below (g := gb214) (o := .cells #[.int .i64 ((rd_T25 l0_4 x19_2).f0), .string ((rd_T25 l0_4 x19_2).f1), .string ((rd_T25 l0_4 x19_2).f2), .slice A213_3 ((rd_T25 l0_4 x19_2).f3).length c213_3, .slice A213_4 ((rd_T25 l0_4 x19_2).f4).length c213_4] 25 (0, 0)) (by (with_reducible repeat (first | refine blk_drewN ?_ _ | refine blk_drew ?_ | refine blk_alloc ?_ _)); refine blk_put (cs := #[.int .i64 ((rd_T25 l0_4 x19_2).f0), .string ((rd_T25 l0_4 x19_2).f1), .string ((rd_T25 l0_4 x19_2).f2), .slice A213_3 ((rd_T25 l0_4 x19_2).f3).length c213_3, .slice none 0 0]) ?_ 4 _ rfl; (with_reducible repeat (first | refine blk_drewN ?_ _ | refine blk_drew ?_ | refine blk_alloc ?_ _)); refine blk_put (cs := #[.int .i64 ((rd_T25 l0_4 x19_2).f0), .string ((rd_T25 l0_4 x19_2).f1), .string ((rd_T25 l0_4 x19_2).f2), .slice none 0 0, .slice none 0 0]) ?_ 3 _ rfl; (with_reducible repeat (first | refine blk_drewN ?_ _ | refine blk_drew ?_ | refine blk_alloc ?_ _)); refine blk_put (cs := #[.int .i64 ((rd_T25 l0_4 x19_2).f0), .string ((rd_T25 l0_4 x19_2).f1), .string (⟨#[]⟩ : ByteArray), .slice none 0 0, .slice none 0 0]) ?_ 2 _ rfl; (with_reducible repeat (first | refine blk_drewN ?_ _ | refine blk_drew ?_ | refine blk_alloc ?_ _)); refine blk_put (cs := #[.int .i64 ((rd_T25 l0_4 x19_2).f0), .string (⟨#[]⟩ : ByteArray), .string (⟨#[]⟩ : ByteArray), .slice none 0 0, .slice none 0 0]) ?_ 1 _ rfl; (with_reducible repeat (first | refine blk_drewN ?_ _ | refine blk_drew ?_ | refine blk_alloc ?_ _)); refine blk_put (cs := #[.int .i64 0, .string (⟨#[]⟩ : ByteArray), .string (⟨#[]⟩ : ByteArray), .slice none 0 0, .slice none 0 0]) ?_ 0 _ rfl; (with_reducible repeat (first | refine blk_drewN ?_ _ | refine blk_drew ?_ | refine blk_alloc ?_ _)); exact BK214.out) hb); have n2_ := Aside0.mk (below_step (by repeat (first | (with_reducible first | exact HB.out | apply below_alloc | apply pw_below_drewN | apply below_drew1 | refine below_set ?_ GE211.out | refine below_set ?_ GE214.out) | exact HB.out)) hb); clear BK211; clear BK214; clear HB; have BK211 := n0_; have BK214 := n1_; have HB := n2_; clear n0_ n1_ n2_; (try clear hb); (try clear hb2); (try clear hk); (try clear hi)))
                    go_ret
                    exact ⟨by first | rfl | (simp [errW_none, errW_some] <;> rfl) | (simp [*, errW_none, errW_some] <;> rfl), by repeat (first | (with_reducible first | exact HB.out | apply below_alloc | apply pw_below_drewN | apply below_drew1 | refine below_set ?_ GE211.out | refine below_set ?_ GE214.out) | exact HB.out)⟩
                  · replace c15 := Bool.eq_false_iff.mpr c15
                    subst c15
                    have H1 : (laws_inlineHas.l0 k2 l1 l0_4 (l0_4.length : Int) (wrap64 (x19_2 + 1))) = some r := by rw [if_neg (show ¬ (false = true) by decide)] at H; exact H
                    clear H
                    have H := H1
                    clear H1
                    have H' := Aside0.mk H
                    clear H
                    have p213 : 0 ≤ (x19_2 : Int) := of_decide_eq_true (by first | (with_reducible assumption) | assumption)
                    have q213 : x19_2 < (l0_4.length : Int) := of_decide_eq_true (by first | (with_reducible assumption) | assumption)
                    obtain ⟨ad213, A213_3, c213_3, A213_4, c213_4, e213, hx213_0, hx213_1, hx213_2, hx213_3, hx213_4, hl213_3, hi213_3, hl213_4, hi213_4⟩ := at_T25 HR0_4.out x19_2 p213 q213
                    cases e213
                    replace hx213_0 := (HB.out.cell (World.block_lt_of_cell? w _ hx213_0)).trans hx213_0
                    replace hx213_1 := (HB.out.cell (World.block_lt_of_cell? w _ hx213_1)).trans hx213_1
                    replace hx213_2 := (HB.out.cell (World.block_lt_of_cell? w _ hx213_2)).trans hx213_2
                    replace hx213_3 := (HB.out.cell (World.block_lt_of_cell? w _ hx213_3)).trans hx213_3
                    replace hx213_4 := (HB.out.cell (World.block_lt_of_cell? w _ hx213_4)).trans hx213_4
                    have HR213_3 := Aside0.mk hi213_3
                    have HC213_3 := Aside0.mk hl213_3
                    clear hi213_3 hl213_3
                    have HR213_4 := Aside0.mk hi213_4
                    have HC213_4 := Aside0.mk hl213_4
                    clear hi213_4 hl213_4
                    replace p213 := eq_true p213
                    replace q213 := eq_true q213
                    go_wp2_with (first | ((with_reducible refine gate_dst (N := 6) rfl ?_); refine box_event ?hg (N := 6) ?hd (cs := #[.int .i64 0, .string (⟨#[]⟩ : ByteArray), .string (⟨#[]⟩ : ByteArray), .slice none 0 0, .slice none 0 0]) (t := 25) ?hr ?_; (case hd => rfl); (case hg => rfl); (case hr => first | (go_simp; done) | (go_simp; rfl)); intro gb214 hg w20 hbox hb; have n0_ := Aside0.mk (blk_below (g := gb211) (o := .cells #[.int .i64 a0_0, .string a0_1, .string a0_2, .slice A0_3 l0_3.length c0_3, .slice (some ad213) l0_4.length c0_4] 25 (0, 0)) (by (with_reducible repeat (first | refine blk_drewN ?_ _ | refine blk_drew ?_ | refine blk_alloc ?_ _)); exact BK211.out) hb); have n1_ := Aside0.mk (below_step (by repeat (first | (with_reducible first | exact HB.out | apply below_alloc | apply pw_below_drewN | apply below_drew1 | refine below_set ?_ GE211.out) | exact HB.out)) hb); have n2_ := Aside0.mk (hbox); have n3_ := Aside0.mk ((by rw [hg]; exact (below_size (by repeat (first | (with_reducible first | exact HB.out | apply below_alloc | apply pw_below_drewN | apply below_drew1 | refine below_set ?_ GE211.out) | exact HB.out))) : w.heap.size ≤ gb214)); have n4_ := Aside0.mk ((by rw [hg]; exact (below_size (by repeat (first | (with_reducible first | exact HB.out | apply below_alloc | apply pw_below_drewN | apply below_drew1 | refine below_set ?_ GE211.out) | exact HB.out))) : w.heap.size ≤ gb214)); have n5_ := Aside0.mk ((by rw [hg]; exact Nat.ne_of_lt (blk_lt (g := gb211) (o := .cells #[.int .i64 a0_0, .string a0_1, .string a0_2, .slice A0_3 l0_3.length c0_3, .slice (some ad213) l0_4.length c0_4] 25 (0, 0)) (by (with_reducible repeat (first | refine blk_drewN ?_ _ | refine blk_drew ?_ | refine blk_alloc ?_ _)); exact BK211.out)) : gb211 ≠ gb214)); have n6_ := Aside0.mk ((by rw [hg]; exact Nat.ne_of_gt (blk_lt (g := gb211) (o := .cells #[.int .i64 a0_0, .string a0_1, .string a0_2, .slice A0_3 l0_3.length c0_3, .slice (some ad213) l0_4.length c0_4] 25 (0, 0)) (by (with_reducible repeat (first | refine blk_drewN ?_ _ | refine blk_drew ?_ | refine blk_alloc ?_ _)); exact BK211.out)) : gb214 ≠ gb211)); clear BK211; clear HB; have BK211 := n0_; have HB := n1_; have BK214 := n2_; have GW214 := n3_; have GE214 := n4_; have NB211_214 := n5_; have NB214_211 := n6_; clear n0_ n1_ n2_ n3_ n4_ n5_ n6_; clear hb hbox hg; have hnb21 := NB214_211.out; have hnc21 := NB211_214.out; have hcz22_0 : w20.cell? ⟨gb214, 0, none⟩ = some (.int .i64 0) := (blk_cell BK214.out 0).trans rfl; have hcz22_1 : w20.cell? ⟨gb214, 1, none⟩ = some (.string (⟨#[]⟩ : ByteArray)) := (blk_cell BK214.out 1).trans rfl; have hcz22_2 : w20.cell? ⟨gb214, 2, none⟩ = some (.string (⟨#[]⟩ : ByteArray)) := (blk_cell BK214.out 2).trans rfl; have hcz22_3 : w20.cell? ⟨gb214, 3, none⟩ = some (.slice none 0 0) := (blk_cell BK214.out 3).trans rfl; have hcz22_4 : w20.cell? ⟨gb214, 4, none⟩ = some (.slice none 0 0) := (blk_cell BK214.out 4).trans rfl; have hfz22_0 := blk_frozen BK214.out 0; have hfz22_1 := blk_frozen BK214.out 1; have hfz22_2 := blk_frozen BK214.out 2; have hfz22_3 := blk_frozen BK214.out 3; have hfz22_4 := blk_frozen BK214.out 4) | ((with_reducible refine gate_callee (f := 18) rfl ?_); refine goesL_ (some 25) rfl rfl Try.func18 (by kernel_rfl) rfl #[.agg #[.int .i64 ((rd_T25 l0_4 x19_2).f0), .string ((rd_T25 l0_4 x19_2).f1), .string ((rd_T25 l0_4 x19_2).f2), .slice A213_3 ((rd_T25 l0_4 x19_2).f3).length c213_3, .slice A213_4 ((rd_T25 l0_4 x19_2).f4).length c213_4], .slice A1 l1.length c1] rfl (by (try simp only [List.map_toArray, List.map_cons, List.map_nil]); first | done | rfl | (simp only [List.length_drop, List.length_take]; rfl)) ?_; (with_reducible refine (ih k2 (by have := HJ2.out; have := HK2.out; omega) ((rd_T25 l0_4 x19_2).f0) ((rd_T25 l0_4 x19_2).f1) ((rd_T25 l0_4 x19_2).f2) _ _ ((rd_T25 l0_4 x19_2).f3) _ _ ((rd_T25 l0_4 x19_2).f4) _ _ l1 false _ ?side1 ?side2 ?side3 ?side4 ?side5 ?side6 A14.out).mono ?_); (case side1 => exact Kd.C_below HR213_3.out (by repeat (first | (with_reducible first | exact HB.out | apply below_alloc | apply pw_below_drewN | apply below_drew1 | refine below_set ?_ GE211.out | refine below_set ?_ GE214.out) | exact HB.out))); (case side2 => exact HC213_3.out); (case side3 => exact Kd.C_below HR213_4.out (by repeat (first | (with_reducible first | exact HB.out | apply below_alloc | apply pw_below_drewN | apply below_drew1 | refine below_set ?_ GE211.out | refine below_set ?_ GE214.out) | exact HB.out))); (case side4 => exact HC213_4.out); (case side5 => exact Kd.C_below HR1.out (by repeat (first | (with_reducible first | exact HB.out | apply below_alloc | apply pw_below_drewN | apply below_drew1 | refine below_set ?_ GE211.out | refine below_set ?_ GE214.out) | exact HB.out))); (case side6 => exact HC1.out); rintro e w23 ⟨rfl, hb⟩; refine ⟨_, rfl, ?_⟩; have n0_ := Aside0.mk (blk_below (g := gb211) (o := .cells #[.int .i64 a0_0, .string a0_1, .string a0_2, .slice A0_3 l0_3.length c0_3, .slice (some ad213) l0_4.length c0_4] 25 (0, 0)) (by (with_reducible repeat (first | refine blk_drewN ?_ _ | refine blk_drew ?_ | refine blk_alloc ?_ _)); refine blk_far ?_ NB211_214.out _; (with_reducible repeat (first | refine blk_drewN ?_ _ | refine blk_drew ?_ | refine blk_alloc ?_ _)); refine blk_far ?_ NB211_214.out _; (with_reducible repeat (first | refine blk_drewN ?_ _ | refine blk_drew ?_ | refine blk_alloc ?_ _)); refine blk_far ?_ NB211_214.out _; (with_reducible repeat (first | refine blk_drewN ?_ _ | refine blk_drew ?_ | refine blk_alloc ?_ _)); refine blk_far ?_ NB211_214.out _; (with_reducible repeat (first | refine blk_drewN ?_ _ | refine blk_drew ?_ | refine blk_alloc ?_ _)); refine blk_far ?_ NB211_214.out _; (with_reducible repeat (first | refine blk_drewN ?_ _ | refine blk_drew ?_ | refine blk_alloc ?_ _)); exact BK211.out) hb); have n1_ := Aside0.mk (blk_below (g := gb214) (o := .cells #[.int .i64 ((rd_T25 l0_4 x19_2).f0), .string ((rd_T25 l0_4 x19_2).f1), .string ((rd_T25 l0_4 x19_2).f2), .slice A213_3 ((rd_T25 l0_4 x19_2).f3).length c213_3, .slice A213_4 ((rd_T25 l0_4 x19_2).f4).length c213_4] 25 (0, 0)) (by (with_reducible repeat (first | refine blk_drewN ?_ _ | refine blk_drew ?_ | refine blk_alloc ?_ _)); refine blk_put (cs := #[.int .i64 ((rd_T25 l0_4 x19_2).f0), .string ((rd_T25 l0_4 x19_2).f1), .string ((rd_T25 l0_4 x19_2).f2), .slice A213_3 ((rd_T25 l0_4 x19_2).f3).length c213_3, .slice none 0 0]) ?_ 4 _ rfl; (with_reducible repeat (first | refine blk_drewN ?_ _ | refine blk_drew ?_ | refine blk_alloc ?_ _)); refine blk_put (cs := #[.int .i64 ((rd_T25 l0_4 x19_2).f0), .string ((rd_T25 l0_4 x19_2).f1), .string ((rd_T25 l0_4 x19_2).f2), .slice none 0 0, .slice none 0 0]) ?_ 3 _ rfl; (with_reducible repeat (first | refine blk_drewN ?_ _ | refine blk_drew ?_ | refine blk_alloc ?_ _)); refine blk_put (cs := #[.int .i64 ((rd_T25 l0_4 x19_2).f0), .string ((rd_T25 l0_4 x19_2).f1), .string (⟨#[]⟩ : ByteArray), .slice none 0 0, .slice none 0 0]) ?_ 2 _ rfl; (with_reducible repeat (first | refine blk_drewN ?_ _ | refine blk_drew ?_ | refine blk_alloc ?_ _)); refine blk_put (cs := #[.int .i64 ((rd_T25 l0_4 x19_2).f0), .string (⟨#[]⟩ : ByteArray), .string (⟨#[]⟩ : ByteArray), .slice none 0 0, .slice none 0 0]) ?_ 1 _ rfl; (with_reducible repeat (first | refine blk_drewN ?_ _ | refine blk_drew ?_ | refine blk_alloc ?_ _)); refine blk_put (cs := #[.int .i64 0, .string (⟨#[]⟩ : ByteArray), .string (⟨#[]⟩ : ByteArray), .slice none 0 0, .slice none 0 0]) ?_ 0 _ rfl; (with_reducible repeat (first | refine blk_drewN ?_ _ | refine blk_drew ?_ | refine blk_alloc ?_ _)); exact BK214.out) hb); have n2_ := Aside0.mk (below_step (by repeat (first | (with_reducible first | exact HB.out | apply below_alloc | apply pw_below_drewN | apply below_drew1 | refine below_set ?_ GE211.out | refine below_set ?_ GE214.out) | exact HB.out)) hb); clear BK211; clear BK214; clear HB; have BK211 := n0_; have BK214 := n1_; have HB := n2_; clear n0_ n1_ n2_; (try clear hb); (try clear hb2); (try clear hk); (try clear hi)))
                    go_roundg k2
                    case measure => have := HJ2.out; have := HK2.out; omega
                    case rel => exact ⟨(wrap64 (x19_2 + 1)), (by first | rfl | (simp; done) | (simp [*]; done)), H', ⟨by have := HJ2.out; have := HK2.out; omega⟩, ⟨by (with_reducible repeat (first | refine blk_drewN ?_ _ | refine blk_drew ?_ | refine blk_alloc ?_ _)); exact BK211.out⟩, ⟨by repeat (first | (with_reducible first | exact HB.out | apply below_alloc | apply pw_below_drewN | apply below_drew1 | refine below_set ?_ GE211.out | refine below_set ?_ GE214.out) | exact HB.out)⟩⟩
                · rw [if_neg c13] at H
                  exact absurd H (by simp)
              · rw [if_neg c12] at H
                exact absurd H (by simp)
            · rw [if_neg c11] at H
              have c11b0 : decide (x19_2 < (l0_4.length : Int)) = false := decide_eq_false c11
              clear c11
              obtain rfl := Option.some.inj H
              go_wp2
              go_ret
              exact ⟨by first | rfl | (simp [errW_none, errW_some] <;> rfl) | (simp [*, errW_none, errW_some] <;> rfl), by repeat (first | (with_reducible first | exact HB.out | apply below_alloc | apply pw_below_drewN | apply below_drew1 | refine below_set ?_ GE211.out) | exact HB.out)⟩

-- NOT PRINTED: function 4 (laws_FnEmptyCode)

-- NOT PRINTED: function 19 (impl_MergeAdjacent)
end Go.Proofs.Ytmfjbljdbkmkgaa.PDom

/- What inlineHas and Solid tell. Plain facts. -/
namespace Go.Proofs.Ytmfjbljdbkmkgaa.PDom
open Go.RowKit Go.Proofs.YtmfjbljdbkmkgaaW.PrintWords Go.Proofs.YtmfjbljdbkmkgaaW.PrintLast Go.Proofs.YtmfjbljdbkmkgaaW.PrintMore Go.Proofs.Ytmfjbljdbkmkgaa.Dom Go.Proofs.Ytmfjbljdbkmkgaa.Txt
set_option linter.unusedVariables false
set_option linter.unusedSimpArgs false

mutual
/-- An element of some names stands in it, or is it. -/
def hasNm (names : List ByteArray) : T → Bool
  | ⟨k, n, x, as_, ks⟩ => isT names ⟨k, n, x, as_, []⟩ || hasNmL names ks
def hasNmL (names : List ByteArray) : List T → Bool
  | [] => false
  | k :: ks => hasNm names k || hasNmL names ks
end
theorem hasNm_eq (names : List ByteArray) (t : T) : hasNm names t = (isT names t || hasNmL names t.f4) := by
  cases t with
  | mk k n x as_ ks => rw [hasNm, isT_node names k n x as_ as_ [] ks]
theorem has_l0 (names : List ByteArray) (ks : List T) (hk : ks.length ≤ 4398046510976) (ih : ∀ y ∈ ks, Ev (fun k => laws_inlineHas.f k y.f0 y.f1 y.f2 y.f3 y.f4 names) (hasNm names y)) : ∀ (n j : Nat), j + n = ks.length →
    Ev (fun k => laws_inlineHas.l0 k names ks (ks.length : Int) (j : Int)) (hasNmL names (ks.drop j))
  | 0, j, hj => by
    rw [List.drop_eq_nil_of_le (by omega)]
    refine Ev.step (f := fun _ => some false) (fun k => ?_) (Ev.now _)
    simp only [laws_inlineHas.l0]
    rw [if_neg (by omega)]
  | n + 1, j, hj => by
    have hlt : j < ks.length := by omega
    rw [List.drop_eq_getElem_cons hlt, hasNmL]
    refine Ev.step (f := fun k => (laws_inlineHas.f k ks[j].f0 ks[j].f1 ks[j].f2 ks[j].f3 ks[j].f4 names).bind fun t => if t = true then some true else laws_inlineHas.l0 k names ks (ks.length : Int) ((j + 1 : Nat) : Int)) (fun k => ?_) ?_
    · simp only [laws_inlineHas.l0]
      rw [if_pos (by omega), if_pos (by omega), if_pos (by omega), rd_at ks hlt, succ_wrap j (by omega)]
    · refine Ev.bind (ih _ (List.getElem_mem hlt)) ?_
      cases hasNm names ks[j] with
      | true => exact Ev.now _
      | false => simpa using has_l0 names ks hk ih n (j + 1) (by omega)
theorem has_ev (names : List ByteArray) (hl : names.length ≤ 4611686018427387904) (t : T) : Fit t → Ev (fun k => laws_inlineHas.f k t.f0 t.f1 t.f2 t.f3 t.f4 names) (hasNm names t) := by
  induction t using T_induct with
  | h t ih =>
    intro hf
    have h0 := has_l0 names t.f4 (fit_len hf) (fun y hy => ih y hy (fit_kid hf hy)) t.f4.length 0 (by omega)
    refine Ev.step (f := fun k => if t.f0 = 0 then (spec_Named.f k names t.f1).bind fun m => laws_inlineHas.j0 k names m t.f0 t.f1 t.f2 t.f3 t.f4 else laws_inlineHas.j0 k names false t.f0 t.f1 t.f2 t.f3 t.f4) (fun k => by rw [laws_inlineHas.f]) ?_
    refine isT_ev names hl t (fun k m => laws_inlineHas.j0 k names m t.f0 t.f1 t.f2 t.f3 t.f4) _ ?_
    rw [hasNm_eq]
    cases isT names t with
    | true =>
      refine Ev.step (f := fun _ => some true) (fun k => ?_) (Ev.now _)
      simp only [laws_inlineHas.j0]
      rw [if_pos trivial]
    | false =>
      rw [Bool.false_or]
      refine Ev.step (f := fun k => laws_inlineHas.l0 k names t.f4 (t.f4.length : Int) ((0 : Nat) : Int)) (fun k => ?_) h0
      simp only [laws_inlineHas.j0]
      rw [if_neg (by simp)]
      rfl
theorem solid_l0 (s : ByteArray) (hs : s.size ≤ 1099511627776) : ∀ (n j : Nat) (acc : List Int), j + n = s.size → acc.length ≤ j → ∃ r, Ev (fun k => spec_Solid.l0 k s acc (s.size : Int) (j : Int)) r
  | 0, j, acc, hj, ha => by
    refine ⟨strOfNums acc, Ev.step (f := fun _ => some (strOfNums acc)) (fun k => ?_) (Ev.now _)⟩
    rw [spec_Solid.l0, if_neg (by omega)]
  | n + 1, j, acc, hj, ha => by
    have key : ∃ b, spec_Blank.f (bt s (j : Int)) = some b := by
      unfold spec_Blank.f
      repeat' split
      all_goals exact ⟨_, rfl⟩
    obtain ⟨b, hb⟩ := key
    cases b with
    | true =>
      obtain ⟨r, hr⟩ := solid_l0 s hs n (j + 1) acc (by omega) (by omega)
      refine ⟨r, Ev.step (f := fun k => spec_Solid.l0 k s acc (s.size : Int) ((j + 1 : Nat) : Int)) (fun k => ?_) hr⟩
      rw [spec_Solid.l0, if_pos (by omega), if_pos (by omega), if_pos (by omega), hb, Option.bind_some, if_pos rfl, succ_wrap j (by omega)]
    | false =>
      obtain ⟨r, hr⟩ := solid_l0 s hs n (j + 1) (acc ++ [bt s (j : Int)]) (by omega) (by simp; omega)
      refine ⟨r, Ev.step (f := fun k => spec_Solid.l0 k s (acc ++ [bt s (j : Int)]) (s.size : Int) ((j + 1 : Nat) : Int)) (fun k => ?_) hr⟩
      rw [spec_Solid.l0, if_pos (by omega), if_pos (by omega), if_pos (by omega), hb, Option.bind_some, if_neg (by simp), if_pos (by omega), succ_wrap j (by omega)]
theorem solid_ev (s : ByteArray) (hs : s.size ≤ 1099511627776) : ∃ r, Ev (fun k => spec_Solid.f k s) r := solid_l0 s hs s.size 0 [] (by omega) (Nat.le_refl _)
end Go.Proofs.Ytmfjbljdbkmkgaa.PDom

/- dom's next neighbours: the contracts of the functions themselves. -/
namespace Go.Proofs.Ytmfjbljdbkmkgaa.Dom
open Go.RowKit Go.Proofs.YtmfjbljdbkmkgaaW.PrintWords Go.Proofs.YtmfjbljdbkmkgaaW.PrintLast Go.Proofs.YtmfjbljdbkmkgaaW.PrintMore Go.Proofs.Ytmfjbljdbkmkgaa.PDom
set_option linter.unusedVariables false
set_option linter.unusedSimpArgs false

def noFirst : Nat → Option Nat := fun _ => none
def never : Nat → Bool := fun _ => false
theorem enters_skip : Enters 105 := fun _ _ => by kernel_rfl
theorem enters_ever : Enters 107 := fun _ _ => by kernel_rfl
theorem tells_skip (w : World) (D : Tab) : TellsN w D 105 noFirst := by
  intro x hx
  simp only [ptr_some, noFirst, ptr_none]
  clear hx
  go_enter Try.func105, Try.ntmps105
  go_wp2
  go_ret
  exact ⟨rfl, rfl⟩
theorem tells_ever (w : World) (D : Tab) : TellsB w D 107 #[] never := by
  intro x hx
  show Calls _ _ #[ptr (some x)] _ _
  simp only [ptr_some, never]
  clear hx
  go_enter Try.func107, Try.ntmps107
  go_wp2
  go_ret
  exact ⟨rfl, rfl⟩
theorem nextnode_calls (w : World) (D : Tab) (hdom : Dom w D) (x : Nat) (hx : D x ≠ none) (res : Option Nat) (h : Nbr D (firstD D) (nextD D) never x res) :
    Calls Try.prog 75 #[ptr (some x)] w fun e w' => e = .returned (ptr res) ∧ Below w.heap.size w w' := by
  have HB := Aside0.mk (boxes_below w (.func (Fn.func 108) #[] #[]) (.func (Fn.func 106) #[] #[]) (.func (Fn.func 107) #[] #[]))
  obtain ⟨k1, k2, k3⟩ := boxes_at w (.func (Fn.func 108) #[] #[]) (.func (Fn.func 106) #[] #[]) (.func (Fn.func 107) #[] #[])
  have HI := Aside0.mk (init_calls w 108 106 107 #[])
  have hd2 := hdom.below HB.out
  have HN := Aside0.mk (nbr_fn _ D hd2 108 106 107 #[] (firstD D) (nextD D) never w.heap.size (w.heap.size + 1) (w.heap.size + 2) k1 k2 k3 enters_first enters_next enters_ever (tells_first hd2) (tells_next hd2) (tells_ever _ D) x hx res h)
  clear k1 k2 k3 hd2 hx h hdom
  simp only [ptr_some] at HN ⊢
  go_enter Try.func75, Try.ntmps75
  go_wp2_with fail
  refine HI.out.mono ?_
  rintro e w1 ⟨rfl, rfl⟩
  simp only [nbrFn]
  generalize boxes3 w (.func (Fn.func 108) #[] #[]) (.func (Fn.func 106) #[] #[]) (.func (Fn.func 107) #[] #[]) = w2 at HN HB ⊢
  go_wp2_with fail
  refine HN.out.mono ?_
  rintro e w3 ⟨rfl, rfl⟩
  go_wp2
  go_ret
  exact ⟨rfl, HB.out⟩
theorem nextskip_calls (w : World) (D : Tab) (hdom : Dom w D) (x : Nat) (hx : D x ≠ none) (res : Option Nat) (h : Nbr D noFirst (nextD D) never x res) :
    Calls Try.prog 73 #[ptr (some x)] w fun e w' => e = .returned (ptr res) ∧ Below w.heap.size w w' := by
  have HB := Aside0.mk (boxes_below w (.func (Fn.func 105) #[] #[]) (.func (Fn.func 106) #[] #[]) (.func (Fn.func 107) #[] #[]))
  obtain ⟨k1, k2, k3⟩ := boxes_at w (.func (Fn.func 105) #[] #[]) (.func (Fn.func 106) #[] #[]) (.func (Fn.func 107) #[] #[])
  have HI := Aside0.mk (init_calls w 105 106 107 #[])
  have hd2 := hdom.below HB.out
  have HN := Aside0.mk (nbr_fn _ D hd2 105 106 107 #[] noFirst (nextD D) never w.heap.size (w.heap.size + 1) (w.heap.size + 2) k1 k2 k3 enters_skip enters_next enters_ever (tells_skip _ D) (tells_next hd2) (tells_ever _ D) x hx res h)
  clear k1 k2 k3 hd2 hx h hdom
  simp only [ptr_some] at HN ⊢
  go_enter Try.func73, Try.ntmps73
  go_wp2_with fail
  refine HI.out.mono ?_
  rintro e w1 ⟨rfl, rfl⟩
  simp only [nbrFn]
  generalize boxes3 w (.func (Fn.func 105) #[] #[]) (.func (Fn.func 106) #[] #[]) (.func (Fn.func 107) #[] #[]) = w2 at HN HB ⊢
  go_wp2_with fail
  refine HN.out.mono ?_
  rintro e w3 ⟨rfl, rfl⟩
  go_wp2
  go_ret
  exact ⟨rfl, HB.out⟩
/-! ### What comes behind a node of a tree -/
/-- In the order of the tree: the next one. -/
theorem pre_next {D : Tab} (wf : WF D) {r : RT} (hr : Is D none r) (i : Nat) (hi : i < r.pre.length) : Nbr D (firstD D) (nextD D) never r.pre[i] r.pre[i + 1]? := by
  obtain ⟨h1, h2⟩ := succ_pre (until_ := never) (nav_all wf) r none hr (fun _ _ _ _ => rfl)
  rw [preS_true] at h1 h2
  by_cases hl : i + 1 < r.pre.length
  · rw [List.getElem?_eq_getElem hl]
    exact lk_at h1 i hl
  · rw [List.getElem?_eq_none (by omega)]
    have hnone : nextD D r.id = none := by
      unfold nextD
      rw [hr.root]
      show nextIn (sibs D (r.info none)) r.id = none
      rw [sibs_none (by cases r; rfl)]
      rfl
    have hA : After D (nextD D) never r.id none := .up 0 none hnone (.top 0 r.id _ hr.root (by cases r; rfl))
    refine h2 none (fun _ => hA) (fun _ => .inr ⟨rfl, hA⟩) _ ?_
    have hlast : i = r.pre.length - 1 := by omega
    subst hlast
    rw [List.getLast?_eq_getElem?, List.getElem?_eq_getElem hi]
/-- Behind a node and all that is in it. -/
theorem after_next {D : Tab} (wf : WF D) : ∀ (l : List Int) (r y : RT) (q : Option Nat) (res : Option Nat), Is D q r → After D (nextD D) never r.id res → r.at_ l = some y → ∃ a b, r.pre = a ++ (y.pre ++ b) ∧ After D (nextD D) never y.id (b.head?.or res) ∧ (l ≠ [] → ∀ up k1 k2, r.at_ l.dropLast = some up → up.kids = k1 ++ y :: k2 → k1.length = (l.getLast?.getD 0).toNat → (r.mapAt (fun _ => k1 ++ k2) l.dropLast).pre = a ++ b) := by
  intro l
  induction l with
  | nil =>
    intro r y q res hr ha h
    obtain rfl : r = y := by simpa [RT.at_] using h
    exact ⟨[], [], by simp, by simpa using ha, fun e => absurd rfl e⟩
  | cons j l ih =>
    intro r y q res hr ha h
    obtain ⟨h0, k, hk, e⟩ := at_cons h
    cases r with
    | node i t a d at_ ks =>
      have hk' : ks[j.toNat]? = some k := hk
      obtain ⟨hlt, hke⟩ := List.getElem?_eq_some_iff.1 hk'
      have hsp : ks = ks.take j.toNat ++ k :: ks.drop (j.toNat + 1) := by
        have e1 : ks.drop j.toNat = ks[j.toNat] :: ks.drop (j.toNat + 1) := List.drop_eq_getElem_cons hlt
        have e2 : ks = ks.take j.toNat ++ ks.drop j.toNat := (List.take_append_drop j.toNat ks).symm
        rw [e1, hke] at e2
        exact e2
      generalize hA : ks.take j.toNat = ka at hsp
      generalize hB : ks.drop (j.toNat + 1) = kb at hsp
      have hal : ka.length = j.toNat := by rw [← hA, List.length_take]; omega
      subst hsp
      have hkid : Is D (some i) k := hr.kid (by show k ∈ ka ++ k :: kb; simp)
      have hnx : nextD D k.id = (kb.map RT.id).find? (fun _ => true) := (nav_all wf).next q i t a d at_ ka k kb hr
      have hak : After D (nextD D) never k.id ((RT.preL kb).head?.or res) := by
        cases kb with
        | cons z kb =>
          have : (RT.preL (z :: kb)).head? = some z.id := by rw [RT.preL]; cases z; rfl
          rw [this, Option.some_or]
          exact .side z.id (by rw [hnx]; rfl)
        | nil =>
          have hn : nextD D k.id = none := by rw [hnx]; rfl
          have hp := hkid.root
          have hpar : (k.info (some i)).parent = some i := by cases k; rfl
          have hD : D i ≠ none := by have := hr.root; rw [show (RT.node i t a d at_ (ka ++ [k])).id = i from rfl] at this; rw [this]; simp
          show After D (nextD D) never k.id res
          cases ha with
          | side s h => exact .up 0 _ hn (.side 0 k.id i s _ hp hpar hD rfl h)
          | up n _ h hg => exact .up (n + 1) _ hn (.up n k.id i _ res hp hpar hD rfl h hg)
      obtain ⟨a1, b1, g1, g2, g3⟩ := ih k y (some i) _ hkid hak e
      refine ⟨i :: (RT.preL ka ++ a1), b1 ++ RT.preL kb, ?_, ?_, fun _ up k1 k2 hu hkk hl => ?_⟩
      · show i :: RT.preL (ka ++ k :: kb) = _
        rw [RT.preL_append, RT.preL, g1]
        simp
      · rw [List.head?_append, Option.or_assoc]
        exact g2
      · cases l with
        | nil =>
          obtain rfl : k = y := by simpa [RT.at_] using e
          obtain rfl : RT.node i t a d at_ (ka ++ k :: kb) = up := by simpa [RT.at_] using hu
          have hkl : k1.length = ka.length := by rw [hl, hal]; rfl
          have hkk' : ka ++ k :: kb = k1 ++ k :: k2 := hkk
          obtain ⟨e1, e2⟩ := List.append_inj hkk' hkl.symm
          injection e2 with _ e2
          subst e1 e2
          have hpre : k.pre = a1 ++ (k.pre ++ b1) := g1
          have hl0 : a1.length + b1.length = 0 := by have := congrArg List.length hpre; simp at this; omega
          have ha0 : a1 = [] := List.length_eq_zero_iff.1 (by omega)
          have hb0 : b1 = [] := List.length_eq_zero_iff.1 (by omega)
          subst ha0 hb0
          show i :: RT.preL (ka ++ kb) = _
          rw [RT.preL_append]
          simp
        | cons j2 l2 =>
          have hdl : (j :: j2 :: l2).dropLast = j :: (j2 :: l2).dropLast := rfl
          rw [hdl] at hu ⊢
          obtain ⟨_, k', hk2, hu2⟩ := at_cons hu
          have : k' = k := by
            have h3 : (RT.node i t a d at_ (ka ++ k :: kb)).kids[j.toNat]? = some k := hk
            rw [hk2] at h3
            exact Option.some.inj h3
          subst this
          have g4 := g3 (by simp) up k1 k2 hu2 hkk (by rw [hl]; rfl)
          rw [RT.mapAt_cons _ _ _ _ _ _ _ _ _ (show (ka ++ k' :: kb)[j.toNat]? = some k' from hk)]
          show i :: RT.preL ((ka ++ k' :: kb).set j.toNat _) = _
          rw [← hal, List.set_append_right _ _ (Nat.le_refl _), Nat.sub_self, List.set_cons_zero, RT.preL_append, RT.preL, g4]
          simp
end Go.Proofs.Ytmfjbljdbkmkgaa.Dom

/- domutils.hasTextChildNodes over a tree; dom.RemoveNode. -/
namespace Go.Proofs.Ytmfjbljdbkmkgaa.Dom
open Go.RowKit Go.Proofs.YtmfjbljdbkmkgaaW.PrintWords Go.Proofs.YtmfjbljdbkmkgaaW.PrintLast Go.Proofs.YtmfjbljdbkmkgaaW.PrintMore Go.Proofs.Ytmfjbljdbkmkgaa.PDom
set_option linter.unusedVariables false
set_option linter.unusedSimpArgs false

mutual
/-- A text that is not empty stands in it. -/
def RT.hasTx : RT → Bool
  | .node _ t _ d _ ks => (t == 1 && !d.toList.isEmpty) || RT.hasTxL ks
def RT.hasTxL : List RT → Bool
  | [] => false
  | k :: ks => k.hasTx || RT.hasTxL ks
end
theorem hasTxL_append (a b : List RT) : RT.hasTxL (a ++ b) = (RT.hasTxL a || RT.hasTxL b) := by
  induction a with
  | nil => rfl
  | cons k a ih => rw [List.cons_append, RT.hasTxL, RT.hasTxL, ih, Bool.or_assoc]
def funcTx (g f : Nat) : Value := .func (Fn.func 103) #[] #[.pointer (some ⟨g, 0, none⟩), .pointer (some ⟨f, 0, none⟩)]
structure TxI (w0 : World) (g f : Nat) (w : World) (b : Bool) : Prop where
  box : w.heap[g]? = some (.cells #[.bool b] 4 (0, 0))
  fn : w.heap[f]? = some (.cells #[funcTx g f] 50 (0, 0))
  below : Below w0.heap.size w0 w
theorem TxI.set {w0 w : World} {g f : Nat} {b : Bool} (h : TxI w0 g f w b) (hg : w0.heap.size ≤ g) (hne : f ≠ g) (c : Bool) : TxI w0 g f (w.setCell ⟨g, 0, none⟩ (.bool c)) c :=
  ⟨blk_set h.box 0 _, (Below.heap_setCell w ⟨g, 0, none⟩ _ f hne).trans h.fn, h.below.setCell (p := ⟨g, 0, none⟩) hg _⟩
set_option maxHeartbeats 4000000 in
set_option maxRecDepth 100000 in
theorem txfinder_calls (w0 : World) (D : Tab) (hdom : Dom w0 D) (g f : Nat) (hgb : w0.heap.size ≤ g) (hne : f ≠ g) (r : RT) : ∀ (p : Option Nat) (hr : Is D p r) (w : World) (b : Bool) (h : TxI w0 g f w b),
    Calls Try.prog 103 #[ptr (some r.id), .pointer (some ⟨g, 0, none⟩), .pointer (some ⟨f, 0, none⟩)] w fun e w' => e = .returned (.tuple #[]) ∧ TxI w0 g f w' (b || r.hasTx) := by
  induction r using RT.induct with
  | h i t a d at_ ks ih =>
    intro p hr w b h
    have IH := Aside0.mk ih
    clear ih
    have HR := Aside0.mk hr
    have HD := Aside0.mk hdom
    have HI0 := Aside0.mk h
    obtain ⟨v, hv, _⟩ := (hdom.below h.below).has hr.root
    have c1 := Is.first (hdom.below h.below) hr
    have c5 := hv.cells10.2.2.2.2.2.1
    have c7 := hv.cells10.2.2.2.2.2.2.2.1
    have cg := blk_cell h.box 0
    have fg := blk_frozen h.box 0
    have HS := Aside0.mk (h.set hgb hne true)
    clear hr hdom h hv
    show Calls _ _ #[ptr (some i), _, _] _ _
    simp only [show (RT.node i t a d at_ ks).id = i from rfl, show (RT.node i t a d at_ ks).kids = ks from rfl] at c1
    have c5' : w.cell? ⟨i, 5, none⟩ = some (.int .u32 t) := c5
    have c7' : w.cell? ⟨i, 7, none⟩ = some (.string d) := c7
    clear c5 c7
    simp only [ptr_some]
    by_cases htx : t = 1 ∧ d.toList ≠ []
    · obtain ⟨rfl, hd⟩ := htx
      have hd2 : d.toList.isEmpty = false := by cases hdd : d.toList with | nil => exact absurd hdd hd | cons _ _ => rfl
      have hd3 : (d.toList == ([] : List UInt8)) = false := beq_eq_false_iff_ne.2 hd
      have hd4 : (d.toList != ([] : List UInt8)) = true := bne_iff_ne.2 hd
      have hres : (b || (RT.node i 1 a d at_ ks).hasTx) = true := by rw [RT.hasTx, hd2]; simp
      rw [hres]
      clear IH HI0 c1
      go_enter Try.func103, Try.ntmps103
      go_wp2_with fail
      refine bodyPost_ret (v := .tuple #[]) (by simp [results, Try.results103, go_sem]) rfl ?_
      exact ⟨rfl, HS.out⟩
    · have hres : (RT.node i t a d at_ ks).hasTx = RT.hasTxL ks := by
        rw [RT.hasTx]
        have : (t == 1 && !d.toList.isEmpty) = false := by
          by_cases h1 : t = 1
          · have h2 : d.toList = [] := by
              by_cases h3 : d.toList = []
              · exact h3
              · exact absurd ⟨h1, h3⟩ htx
            rw [h2]
            simp
          · rw [beq_eq_false_iff_ne.2 h1]
            rfl
        rw [this, Bool.false_or]
      rw [hres]
      have key : ∀ {G : Prop}, (t = 1 → d = ⟨#[]⟩ → G) → (t ≠ 1 → G) → G := fun h1 h2 => by
        by_cases h : t = 1
        · refine h1 h (empty_of ?_)
          by_cases h3 : d.toList = []
          · exact h3
          · exact absurd ⟨h, h3⟩ htx
        · exact h2 h
      clear hres HS htx
      refine key (fun h1 h2 => ?_) (fun h1 => ?_)
      · subst h1
        subst h2
        clear key
        go_enter Try.func103, Try.ntmps103
        go_wp2_with fail
        go_loopg [4] ks.length (fun n vc wr => ∃ j, n = ks.length - j ∧ j ≤ ks.length ∧ vc = ptr (ks[j]?.map RT.id) ∧ Aside0 (TxI w0 g f wr (b || RT.hasTxL (ks.take j))))
        case atStart => exact ⟨0, rfl, Nat.zero_le _, rfl, ⟨by simpa [RT.hasTxL] using HI0.out⟩⟩
        case round =>
          clear c1 cg fg c5' c7'
          obtain ⟨j, rfl, hj, rfl, HI⟩ := hrel
          by_cases hlt : j < ks.length
          · rw [List.getElem?_eq_getElem hlt]
            have hkm := Aside0.mk (List.getElem_mem hlt)
            have HNX := Aside0.mk (fun wx (hb : Below w0.heap.size w0 wx) => Is.next (HD.out.below hb) HR.out (j := j) hlt)
            have cf0 : wr.cell? ⟨f, 0, none⟩ = some (funcTx g f) := by rw [blk_cell HI.out.fn]; rfl
            have HPL := Aside0.mk (show (b || RT.hasTxL (ks.take (j + 1))) = ((b || RT.hasTxL (ks.take j)) || ks[j].hasTx) from by rw [List.take_succ_eq_append_getElem hlt, hasTxL_append, RT.hasTxL, RT.hasTxL, Bool.or_false, Bool.or_assoc])
            have HC := Aside0.mk (IH.out ks[j] hkm.out (some i) (HR.out.kid hkm.out) wr _ HI.out)
            simp only [Option.map_some, ptr_some, funcTx] at HC cf0 ⊢
            simp only [show ∀ h2, (RT.node i 1 a ⟨#[]⟩ at_ ks).kids[j]'h2 = ks[j] from fun _ => rfl, show (RT.node i 1 a ⟨#[]⟩ at_ ks).kids = ks from rfl] at HNX
            generalize ks[j].id = x at *
            go_wp2_with (go_at_call 103; refine HC.out.mono ?_; rintro e w2 ⟨rfl, hi2⟩; have HI2 := Aside0.mk hi2; have nx2 := HNX.out w2 hi2.below; clear hi2)
            go_roundg (ks.length - (j + 1))
            case rel => exact ⟨j + 1, rfl, by omega, rfl, ⟨by rw [HPL.out]; exact HI2.out⟩⟩
            case measure => omega
          · have hje : j = ks.length := by omega
            subst hje
            rw [List.getElem?_eq_none (Nat.le_refl _)]
            simp only [Option.map_none, ptr_none]
            go_wp2_with fail
            go_end0
            refine ⟨rfl, ?_⟩
            have := HI.out
            rw [List.take_length] at this
            exact this
      · have b1 : (t == 1) = false := beq_eq_false_iff_ne.2 h1
        have d1 : decide (t = 1) = false := decide_eq_false h1
        clear key
        go_enter Try.func103, Try.ntmps103
        go_wp2_with fail
        go_loopg [4] ks.length (fun n vc wr => ∃ j, n = ks.length - j ∧ j ≤ ks.length ∧ vc = ptr (ks[j]?.map RT.id) ∧ Aside0 (TxI w0 g f wr (b || RT.hasTxL (ks.take j))))
        case atStart => exact ⟨0, rfl, Nat.zero_le _, rfl, ⟨by simpa [RT.hasTxL] using HI0.out⟩⟩
        case round =>
          clear c1 cg fg c5' c7'
          obtain ⟨j, rfl, hj, rfl, HI⟩ := hrel
          by_cases hlt : j < ks.length
          · rw [List.getElem?_eq_getElem hlt]
            have hkm := Aside0.mk (List.getElem_mem hlt)
            have HNX := Aside0.mk (fun wx (hb : Below w0.heap.size w0 wx) => Is.next (HD.out.below hb) HR.out (j := j) hlt)
            have cf0 : wr.cell? ⟨f, 0, none⟩ = some (funcTx g f) := by rw [blk_cell HI.out.fn]; rfl
            have HPL := Aside0.mk (show (b || RT.hasTxL (ks.take (j + 1))) = ((b || RT.hasTxL (ks.take j)) || ks[j].hasTx) from by rw [List.take_succ_eq_append_getElem hlt, hasTxL_append, RT.hasTxL, RT.hasTxL, Bool.or_false, Bool.or_assoc])
            have HC := Aside0.mk (IH.out ks[j] hkm.out (some i) (HR.out.kid hkm.out) wr _ HI.out)
            simp only [Option.map_some, ptr_some, funcTx] at HC cf0 ⊢
            simp only [show ∀ h2, (RT.node i t a d at_ ks).kids[j]'h2 = ks[j] from fun _ => rfl, show (RT.node i t a d at_ ks).kids = ks from rfl] at HNX
            generalize ks[j].id = x at *
            go_wp2_with (go_at_call 103; refine HC.out.mono ?_; rintro e w2 ⟨rfl, hi2⟩; have HI2 := Aside0.mk hi2; have nx2 := HNX.out w2 hi2.below; clear hi2)
            go_roundg (ks.length - (j + 1))
            case rel => exact ⟨j + 1, rfl, by omega, rfl, ⟨by rw [HPL.out]; exact HI2.out⟩⟩
            case measure => omega
          · have hje : j = ks.length := by omega
            subst hje
            rw [List.getElem?_eq_none (Nat.le_refl _)]
            simp only [Option.map_none, ptr_none]
            go_wp2_with fail
            go_end0
            refine ⟨rfl, ?_⟩
            have := HI.out
            rw [List.take_length] at this
            exact this
theorem hastx_calls (w : World) (D : Tab) (hdom : Dom w D) (p : Option Nat) (r : RT) (hr : Is D p r) :
    Calls Try.prog 72 #[ptr (some r.id)] w fun e w' => e = .returned (.bool r.hasTx) ∧ Below w.heap.size w w' := by
  have h0 : TxI w w.heap.size (w.heap.size + 1) ((w.alloc (.cells #[.bool false] 4)).alloc (.cells #[funcTx w.heap.size (w.heap.size + 1)] 50)) false :=
    ⟨two_old w _ _, two_new w _ _, below_alloc (below_alloc (Below.refl _ _) _) _⟩
  have HC := Aside0.mk (txfinder_calls w D hdom w.heap.size (w.heap.size + 1) (Nat.le_refl _) (by omega) r p hr _ false h0)
  clear h0 hr hdom
  have hmf : ∀ (fn : Fn) (first cap : Array Value) (w : World), (Instr.makeFunc fn first cap).run Try.prog w = .ok (.func fn first cap) w := fun _ _ _ _ => rfl
  generalize r.id = x at *
  simp only [ptr_some, funcTx, Bool.false_or] at HC ⊢
  go_enter Try.func72, Try.ntmps72
  go_wp2_with (go_at_call 103; go_must (refine HC.out.mono ?_; rintro e w2 ⟨rfl, hi2⟩; have cg2 := blk_cell hi2.box 0; have HI2 := Aside0.mk hi2; clear hi2))
  go_ret
  exact ⟨rfl, HI2.out.below⟩
theorem removenode_calls (w : World) (D : Tab) (hdom : Dom w D) (r up x : RT) (l : List Int) (k1 k2 : List RT) (hr : Is D none r) (hu : r.at_ l = some up) (hk : up.kids = k1 ++ x :: k2) :
    Calls Try.prog 74 #[ptr (some x.id)] w fun e w' => Left w w' D (r.mapAt (fun _ => k1 ++ k2) l) e := by
  obtain ⟨D1, c1, R1, _, _, s1⟩ := remove_step hdom hr hu hk
  have p0 := kid_cell hdom hr hu (x := x) (by rw [hk]; simp)
  have C1 := Aside0.mk c1
  have HR1 := Aside0.mk R1
  have S1 := Aside0.mk s1
  clear c1 R1 s1 hr hu hk hdom
  simp only [ptr_some] at C1 ⊢
  generalize x.id = xi at *
  generalize up.id = ui at *
  go_enter Try.func74, Try.ntmps74
  go_wp2_with (go_at_call 98; go_must (refine C1.out.mono ?_; rintro e w1 ⟨rfl, hd1, ho1⟩; have HO1 := Aside0.mk ho1; have HD1 := Aside0.mk hd1; clear hd1 ho1))
  go_end0
  exact ⟨rfl, D1, HD1.out, HR1.out, HO1.out, S1.out⟩
end Go.Proofs.Ytmfjbljdbkmkgaa.Dom

/- Empty code, taken out of a tree of nodes. Plain facts. -/
namespace Go.Proofs.Ytmfjbljdbkmkgaa.Dom
open Go.RowKit Go.Proofs.YtmfjbljdbkmkgaaW.PrintWords Go.Proofs.YtmfjbljdbkmkgaaW.PrintLast Go.Proofs.YtmfjbljdbkmkgaaW.PrintMore Go.Proofs.Ytmfjbljdbkmkgaa.PDom
set_option linter.unusedVariables false
set_option linter.unusedSimpArgs false

def codeN : ByteArray := ⟨#[99, 111, 100, 101]⟩
/-- Its name is code. -/
def RT.cd (r : RT) : Bool := (nameOf (r.info none)).toList == codeN.toList
def RT.prune (r : RT) : Bool := r.cd && !r.hasTx
theorem name_info (r : RT) (p : Option Nat) : nameOf (r.info p) = nameOf (r.info none) := by cases r; rfl
mutual
def RT.emp : RT → RT
  | .node i t a d at_ ks => .node i t a d at_ (RT.empL ks)
def RT.empL : List RT → List RT
  | [] => []
  | k :: ks => if k.prune = true then RT.empL ks else k.emp :: RT.empL ks
end
theorem empL_append (a b : List RT) : RT.empL (a ++ b) = RT.empL a ++ RT.empL b := by
  induction a with
  | nil => rfl
  | cons k a ih =>
    rw [List.cons_append, RT.empL, RT.empL, ih]
    split <;> rfl
theorem hasTx_eq (r : RT) : r.hasTx = ((r.ty == 1 && !r.data.toList.isEmpty) || RT.hasTxL r.kids) := by cases r; rfl
theorem hasTx_withKids (r : RT) (K : List RT) (h : RT.hasTxL K = RT.hasTxL r.kids) : (r.withKids K).hasTx = r.hasTx := by
  rw [hasTx_eq, hasTx_eq, withKids_kids, h]
  cases r
  rfl
theorem hasTxL_set : ∀ (ks : List RT) (j : Nat) (k k' : RT), ks[j]? = some k → k'.hasTx = k.hasTx → RT.hasTxL (ks.set j k') = RT.hasTxL ks
  | [], j, k, k', h, e => by simp at h
  | c :: ks, 0, k, k', h, e => by
    obtain rfl : c = k := by simpa using h
    show (k'.hasTx || RT.hasTxL ks) = (c.hasTx || RT.hasTxL ks)
    rw [e]
  | c :: ks, j + 1, k, k', h, e => by
    show (c.hasTx || RT.hasTxL (ks.set j k')) = (c.hasTx || RT.hasTxL ks)
    rw [hasTxL_set ks j k k' (by simpa using h) e]
theorem hasTx_mapAt {f : List RT → List RT} : ∀ (l : List Int) (r up : RT), r.at_ l = some up → RT.hasTxL (f up.kids) = RT.hasTxL up.kids → (r.mapAt f l).hasTx = r.hasTx := by
  intro l
  induction l with
  | nil =>
    intro r up h hf
    obtain rfl : r = up := by simpa [RT.at_] using h
    cases r with
    | node i t a d at_ ks => exact hasTx_withKids (.node i t a d at_ ks) (f ks) hf
  | cons j l ih =>
    intro r up h hf
    obtain ⟨_, k, hk, e⟩ := at_cons h
    cases r with
    | node i t a d at_ ks =>
      rw [RT.mapAt_cons _ _ _ _ _ _ _ _ _ (show ks[j.toNat]? = some k from hk)]
      exact hasTx_withKids (.node i t a d at_ ks) _ (hasTxL_set ks _ k _ hk (ih k up e hf))
theorem cd_mapAt {f : List RT → List RT} (l : List Int) (r : RT) : (r.mapAt f l).cd = r.cd := by
  cases r with
  | node i t a d at_ ks =>
    cases l with
    | nil => rfl
    | cons j l =>
      simp only [RT.mapAt]
      rfl
theorem prune_mapAt {f : List RT → List RT} (l : List Int) (r up : RT) (h : r.at_ l = some up) (hf : RT.hasTxL (f up.kids) = RT.hasTxL up.kids) : (r.mapAt f l).prune = r.prune := by
  unfold RT.prune
  rw [cd_mapAt, hasTx_mapAt l r up h hf]
theorem empL_set : ∀ (ks : List RT) (j : Nat) (k k' : RT), ks[j]? = some k → k'.prune = k.prune → k'.emp = k.emp → RT.empL (ks.set j k') = RT.empL ks
  | [], j, k, k', h, e, e2 => by simp at h
  | c :: ks, 0, k, k', h, e, e2 => by
    obtain rfl : c = k := by simpa using h
    show (if k'.prune = true then RT.empL ks else k'.emp :: RT.empL ks) = (if c.prune = true then RT.empL ks else c.emp :: RT.empL ks)
    rw [e, e2]
  | c :: ks, j + 1, k, k', h, e, e2 => by
    show (if c.prune = true then RT.empL (ks.set j k') else c.emp :: RT.empL (ks.set j k')) = (if c.prune = true then RT.empL ks else c.emp :: RT.empL ks)
    rw [empL_set ks j k k' (by simpa using h) e e2]
/-- One that is taken out first is taken out all the same. -/
theorem emp_mapAt {y : RT} {k1 k2 : List RT} (hy : y.prune = true) : ∀ (l : List Int) (r up : RT), r.at_ l = some up → up.kids = k1 ++ y :: k2 → (r.mapAt (fun _ => k1 ++ k2) l).emp = r.emp := by
  have hx : y.hasTx = false := by
    unfold RT.prune at hy
    rw [Bool.and_eq_true] at hy
    simpa using hy.2
  intro l
  induction l with
  | nil =>
    intro r up h hk
    obtain rfl : r = up := by simpa [RT.at_] using h
    cases r with
    | node i t a d at_ ks =>
      obtain rfl : ks = k1 ++ y :: k2 := hk
      show RT.node i t a d at_ (RT.empL (k1 ++ k2)) = RT.node i t a d at_ (RT.empL (k1 ++ y :: k2))
      rw [empL_append, empL_append, RT.empL, if_pos hy]
  | cons j l ih =>
    intro r up h hk
    obtain ⟨_, k, hkk, e⟩ := at_cons h
    cases r with
    | node i t a d at_ ks =>
      rw [RT.mapAt_cons _ _ _ _ _ _ _ _ _ (show ks[j.toNat]? = some k from hkk)]
      show RT.node i t a d at_ _ = RT.node i t a d at_ _
      rw [empL_set ks _ k _ hkk (prune_mapAt l k up e (by rw [hk, hasTxL_append, hasTxL_append, RT.hasTxL, hx, Bool.false_or])) (ih k up e hk)]
theorem emp_none (r : RT) : (∀ l y, l ≠ [] → r.at_ l = some y → y.prune = false) → r.emp = r := by
  induction r using RT.induct with
  | h i t a d at_ ks ih =>
    intro h
    have hL : ∀ c : List RT, (∀ k ∈ c, k ∈ ks) → RT.empL c = c := by
      intro c
      induction c with
      | nil => intro _; rfl
      | cons k c ih2 =>
        intro hm
        obtain ⟨n, hn, hnk⟩ := List.mem_iff_getElem.1 (hm k (by simp))
        have hg : ks[n]? = some k := by rw [List.getElem?_eq_getElem hn, hnk]
        have h1 := h [(n : Int)] k (by simp) (at_cons_mk (l := []) hg rfl)
        rw [RT.empL, if_neg (by rw [h1]; simp), ih k (hm k (by simp)) (fun l y hl hy => h ((n : Int) :: l) y (by simp) (at_cons_mk hg hy)), ih2 (fun z hz => hm z (by simp [hz]))]
    show RT.node i t a d at_ (RT.empL ks) = _
    rw [hL ks (fun k hk => hk)]
/-- Each node of the one tree is one of the other, as empty as that. -/
structure Sim (r' r : RT) : Prop where
  idd : r'.id = r.id
  pr : r'.prune = r.prune
  way : ∀ l' y', r'.at_ l' = some y' → ∃ l y, r.at_ l = some y ∧ y.id = y'.id ∧ y.prune = y'.prune ∧ (l' ≠ [] → l ≠ [])
theorem Sim.refl (r : RT) : Sim r r := ⟨rfl, rfl, fun l y h => ⟨l, y, h, rfl, rfl, fun h => h⟩⟩
theorem Sim.node {r' r : RT} (hid : r'.id = r.id) (hp : r'.prune = r.prune) (h : ∀ (j : Nat) k', r'.kids[j]? = some k' → ∃ (j0 : Nat) (k : RT), r.kids[j0]? = some k ∧ Sim k' k) : Sim r' r := by
  refine ⟨hid, hp, fun l' y' hy => ?_⟩
  cases l' with
  | nil =>
    obtain rfl : r' = y' := by simpa [RT.at_] using hy
    exact ⟨[], r, rfl, hid.symm, hp.symm, fun h => absurd rfl h⟩
  | cons j l' =>
    obtain ⟨_, k', hk', e⟩ := at_cons hy
    obtain ⟨j0, k, hk, S⟩ := h _ _ hk'
    obtain ⟨l, y, h1, h2, h3, _⟩ := S.way _ _ e
    exact ⟨(j0 : Int) :: l, y, at_cons_mk hk h1, h2, h3, fun _ => by simp⟩
theorem sim_remove {y : RT} {k1 k2 : List RT} (hx : y.hasTx = false) : ∀ (l : List Int) (r up : RT), r.at_ l = some up → up.kids = k1 ++ y :: k2 → Sim (r.mapAt (fun _ => k1 ++ k2) l) r := by
  intro l
  induction l with
  | nil =>
    intro r up h hk
    have hp := prune_mapAt (f := fun _ => k1 ++ k2) [] r up h (by rw [hk, hasTxL_append, hasTxL_append, RT.hasTxL, hx, Bool.false_or])
    obtain rfl : r = up := by simpa [RT.at_] using h
    refine Sim.node (RT.mapAt_id _ _ _) hp (fun j k' hj => ?_)
    cases r with
    | node i t a d at_ ks =>
      obtain rfl : ks = k1 ++ y :: k2 := hk
      have hj' : (k1 ++ k2)[j]? = some k' := hj
      by_cases h1 : j < k1.length
      · rw [List.getElem?_append_left h1] at hj'
        exact ⟨j, k', by show (k1 ++ y :: k2)[j]? = _; rw [List.getElem?_append_left h1]; exact hj', Sim.refl _⟩
      · rw [List.getElem?_append_right (by omega)] at hj'
        refine ⟨j + 1, k', ?_, Sim.refl _⟩
        show (k1 ++ y :: k2)[j + 1]? = _
        rw [List.getElem?_append_right (by omega), show j + 1 - k1.length = (j - k1.length) + 1 from by omega]
        exact hj'
  | cons j l ih =>
    intro r up h hk
    have hp := prune_mapAt (f := fun _ => k1 ++ k2) (j :: l) r up h (by rw [hk, hasTxL_append, hasTxL_append, RT.hasTxL, hx, Bool.false_or])
    obtain ⟨_, k, hkk, e⟩ := at_cons h
    cases r with
    | node i t a d at_ ks =>
      have hkk' : ks[j.toNat]? = some k := hkk
      rw [RT.mapAt_cons _ _ _ _ _ _ _ _ _ hkk'] at hp ⊢
      refine Sim.node rfl hp (fun i' k' h' => ?_)
      have h'' : (ks.set j.toNat (k.mapAt (fun _ => k1 ++ k2) l))[i']? = some k' := h'
      by_cases hi : j.toNat = i'
      · subst hi
        rw [List.getElem?_set_self (List.getElem?_eq_some_iff.1 hkk').1] at h''
        obtain rfl := Option.some.inj h''
        exact ⟨j.toNat, k, hkk', ih k up e hk⟩
      · rw [List.getElem?_set_ne hi] at h''
        exact ⟨i', k', h'', Sim.refl _⟩
/-! ### What stands while the nodes are gone through -/
structure Em (r0 r : RT) (i : Nat) : Prop where
  idd : r.id = r0.id
  root : r.cd = false
  done : ∀ l y, l ≠ [] → r.at_ l = some y → y.id ∈ r.pre.take i → y.prune = false
  eq : r.emp = r0.emp
  len : r.pre.length ≤ r0.pre.length
  le : i ≤ r.pre.length
theorem Em.start (r : RT) (h : r.cd = false) : Em r r 0 := ⟨rfl, h, fun l y _ _ h => by simp at h, rfl, Nat.le_refl _, Nat.zero_le _⟩
theorem Em.keep {r0 r : RT} {i : Nat} (h : Em r0 r i) (hi : i < r.pre.length) (hn : r.pre.Nodup) {l : List Int} {y : RT} (hy : r.at_ l = some y) (hid : y.id = r.pre[i]) (hb : l ≠ [] → y.prune = false) : Em r0 r (i + 1) :=
  ⟨h.idd, h.root, fun l' y' hl' hy' hm => by
    rcases take_mem hi hm with h1 | h1
    · exact h.done l' y' hl' hy' h1
    · obtain rfl := place_one l' l r y' y hn hy' hy (h1.trans hid.symm)
      rw [hy] at hy'
      obtain rfl := Option.some.inj hy'
      exact hb hl', h.eq, h.len, hi⟩
theorem Em.finish {r0 r : RT} (h : Em r0 r r.pre.length) : r = r0.emp := by
  rw [← h.eq]
  exact (emp_none r (fun l y hl hy => h.done l y hl hy (by rw [List.take_length]; exact at_mem hy))).symm
theorem mem_index {a b : List Nat} {x : Nat} {i : Nat} (hn : (a ++ x :: b).Nodup) (hi : i < (a ++ x :: b).length) (h : (a ++ x :: b)[i] = x) : i = a.length := by
  obtain ⟨g1, g2, _⟩ := nodup_split hn
  by_cases h1 : i < a.length
  · rw [List.getElem_append_left h1] at h
    exact absurd (h ▸ List.getElem_mem h1) g1
  · by_cases h2 : i = a.length
    · exact h2
    · rw [List.getElem_append_right (by omega)] at h
      obtain ⟨m, hm⟩ : ∃ m, i - a.length = m + 1 := ⟨i - a.length - 1, by omega⟩
      simp only [hm, List.getElem_cons_succ] at h
      exact absurd (h ▸ List.getElem_mem _) g2
theorem Em.drop {r0 r : RT} {i : Nat} (h : Em r0 r i) (hi : i < r.pre.length) (hn : r.pre.Nodup) {l : List Int} {y up : RT} {k1 k2 : List RT} {a b : List Nat} (hu : r.at_ l = some up) (hk : up.kids = k1 ++ y :: k2) (hid : y.id = r.pre[i]) (hp : y.prune = true)
    (hpre : r.pre = a ++ (y.pre ++ b)) (hpre2 : (r.mapAt (fun _ => k1 ++ k2) l).pre = a ++ b) : Em r0 (r.mapAt (fun _ => k1 ++ k2) l) i ∧ (r.mapAt (fun _ => k1 ++ k2) l).pre[i]? = b.head? ∧ (r.mapAt (fun _ => k1 ++ k2) l).pre.length < r.pre.length := by
  have hyp : y.pre = y.id :: RT.preL y.kids := by cases y; rfl
  have hx : y.hasTx = false := by
    unfold RT.prune at hp
    rw [Bool.and_eq_true] at hp
    simpa using hp.2
  have hia : i = a.length := by
    have h1 : r.pre = a ++ (y.id :: (RT.preL y.kids ++ b)) := by rw [hpre, hyp]; rfl
    refine mem_index (x := y.id) (b := RT.preL y.kids ++ b) (by rw [← h1]; exact hn) (by rw [← h1]; exact hi) ?_
    simp only [← h1]
    exact hid.symm
  have S := sim_remove (k1 := k1) (k2 := k2) hx l r up hu hk
  refine ⟨⟨(RT.mapAt_id _ _ _).trans h.idd, by rw [cd_mapAt]; exact h.root, fun l' y' hl' hy' hm => ?_, by rw [emp_mapAt hp l r up hu hk]; exact h.eq, ?_, ?_⟩, ?_, ?_⟩
  · obtain ⟨l2, y2, e1, e2, e3, e4⟩ := S.way l' y' hy'
    rw [← e3]
    refine h.done l2 y2 (e4 hl') e1 ?_
    rw [hpre2, hia, List.take_left] at hm
    rw [hpre, hia, List.take_left, e2]
    exact hm
  · rw [hpre2]
    have := h.len
    rw [hpre] at this
    simp only [List.length_append] at this ⊢
    omega
  · rw [hpre2, hia]
    simp
  · rw [hpre2, hia, List.getElem?_append_right (Nat.le_refl _), Nat.sub_self, List.head?_eq_getElem?]
  · rw [hpre2, hpre, hyp]
    simp only [List.length_append, List.length_cons]
    omega
end Go.Proofs.Ytmfjbljdbkmkgaa.Dom

/- domutils.RemoveRedundant: its contract over a tree; impl.Redundant. -/
namespace Go.Proofs.Ytmfjbljdbkmkgaa.Dom
open Go.RowKit Go.Proofs.YtmfjbljdbkmkgaaW.PrintWords Go.Proofs.YtmfjbljdbkmkgaaW.PrintLast Go.Proofs.YtmfjbljdbkmkgaaW.PrintMore Go.Proofs.Ytmfjbljdbkmkgaa.PDom
set_option linter.unusedVariables false
set_option linter.unusedSimpArgs false

theorem at_D {D : Tab} {r y : RT} {l : List Int} (hr : Is D none r) (h : r.at_ l = some y) : D y.id ≠ none := by
  obtain ⟨q, hq⟩ := at_is l r y none hr h
  rw [hq.root]
  simp
theorem last_of {l : List Int} (h : l ≠ []) : ∃ n, l.getLast? = some n ∧ l = l.dropLast ++ [n] := by
  refine ⟨l.getLast h, List.getLast?_eq_some_getLast h, (List.dropLast_concat_getLast h).symm⟩
/-! ### impl.Redundant -/
end Go.Proofs.Ytmfjbljdbkmkgaa.Dom

/- domutils.RemoveEmptyCode over a tree. -/
namespace Go.Proofs.Ytmfjbljdbkmkgaa.Dom
open Go.RowKit Go.Proofs.YtmfjbljdbkmkgaaW.PrintWords Go.Proofs.YtmfjbljdbkmkgaaW.PrintLast Go.Proofs.YtmfjbljdbkmkgaaW.PrintMore Go.Proofs.Ytmfjbljdbkmkgaa.PDom Go.Proofs.Ytmfjbljdbkmkgaa.Txt
set_option linter.unusedVariables false
set_option linter.unusedSimpArgs false

structure EmI (w : World) (D : Tab) (r0 : RT) (wr : World) (Dr : Tab) (r : RT) (i : Nat) : Prop where
  d : Dom wr Dr
  o : Only D w wr
  s : ∀ k, D k = none ↔ Dr k = none
  is : Is Dr none r
  all : RT.All okN r
  em : Em r0 r i
theorem EmI.moved {w : World} {D : Tab} {r0 : RT} {wr : World} {Dr : Tab} {r : RT} {i : Nat} (h : EmI w D r0 wr Dr r i) {wx : World} (hb : Below wr.heap.size wr wx) : EmI w D r0 wx Dr r i :=
  ⟨h.d.below hb, ⟨hb.os.trans h.o.os, hb.tape.trans h.o.tape, hb.output.trans h.o.output, Nat.le_trans h.o.size hb.size, fun k hk hd => (hb.block k (Nat.lt_of_lt_of_le hk h.o.size)).trans (h.o.block k hk hd)⟩, h.s, h.is, h.all, h.em⟩
/-- What a round calls. -/
structure EmRd (w : World) (D : Tab) (r0 : RT) (wr : World) (Dr : Tab) (r : RT) (i x : Nat) (nm : ByteArray) (cd hx : Bool) : Prop where
  name : Calls Try.prog 62 #[ptr (some x)] wr fun e w' => e = .returned (.string nm) ∧ w' = wr
  cdn : (nm.toList == codeN.toList) = cd
  has : Calls Try.prog 72 #[ptr (some x)] wr fun e w' => e = .returned (.bool hx) ∧ Below wr.heap.size wr w'
  next : ∀ wx, Below wr.heap.size wr wx → (cd && !hx) = false → Calls Try.prog 75 #[ptr (some x)] wx fun e w' => e = .returned (ptr r.pre[i + 1]?) ∧ EmI w D r0 w' Dr r (i + 1)
  drop : ∀ wx, Below wr.heap.size wr wx → (cd && !hx) = true → ∃ nx r', (Calls Try.prog 73 #[ptr (some x)] wx fun e w' => e = .returned (ptr nx) ∧ Below wx.heap.size wx w') ∧
    r'.pre[i]? = nx ∧ r'.pre.length < r.pre.length ∧ ∀ wy, Below wx.heap.size wx wy → Calls Try.prog 74 #[ptr (some x)] wy fun e w' => e = .returned (.tuple #[]) ∧ ∃ D', EmI w D r0 w' D' r' i
theorem em_round {w : World} {D : Tab} {r0 : RT} {wr : World} {Dr : Tab} {r : RT} {i : Nat} (h : EmI w D r0 wr Dr r i) (hi : i < r.pre.length) : ∃ nm cd hx, EmRd w D r0 wr Dr r i r.pre[i] nm cd hx := by
  obtain ⟨l, y, hy, hid⟩ := place_of r _ (List.getElem_mem hi)
  obtain ⟨q, hq⟩ := at_is l r y none h.is hy
  have hn := Is.nodup h.d.wf r h.is
  have hD : Dr y.id ≠ none := at_D h.is hy
  refine ⟨nameOf (y.info q), y.cd, y.hasTx, ?_, ?_, ?_, ?_, ?_⟩
  · have := node_calls wr Dr y.id _ h.d hq.root
    rw [hid] at this
    exact this
  · rw [name_info]
    rfl
  · have := hastx_calls wr Dr h.d q y hq
    rw [hid] at this
    exact this
  · intro wx hb hp
    have hwf := h.d.wf
    have h1 := nextnode_calls wx Dr (h.d.below hb) r.pre[i] (by rw [← hid]; exact hD) _ (pre_next hwf h.is i hi)
    refine h1.mono ?_
    rintro e w' ⟨rfl, hb2⟩
    have hm := (h.moved hb).moved hb2
    exact ⟨rfl, hm.d, hm.o, hm.s, hm.is, hm.all, h.em.keep hi hn hy hid (fun _ => hp)⟩
  · intro wx hb hp
    have hl : l ≠ [] := fun e => by
      rw [e] at hy
      obtain rfl : r = y := by simpa [RT.at_] using hy
      rw [h.em.root] at hp
      cases hp
    obtain ⟨n, hn1, hn2⟩ := last_of hl
    obtain ⟨up, k1, k2, hu, hk, hkl⟩ := place_parts hy hn1
    have hnone : nextD Dr r.id = none := by
      unfold nextD
      rw [h.is.root]
      show nextIn (sibs Dr (r.info none)) r.id = none
      rw [sibs_none (by cases r; rfl)]
      rfl
    have hA : After Dr (nextD Dr) never r.id none := .up 0 none hnone (.top 0 r.id _ h.is.root (by cases r; rfl))
    obtain ⟨a, b, g1, g2, g3⟩ := after_next h.d.wf l r y none none h.is hA hy
    have g4 := g3 hl up k1 k2 hu hk (by rw [hn1]; exact hkl)
    rw [Option.or_none] at g2
    obtain ⟨e1, e2, e3⟩ := h.em.drop hi hn hu hk hid hp g1 g4
    refine ⟨b.head?, r.mapAt (fun _ => k1 ++ k2) l.dropLast, ?_, e2, e3, fun wy hb2 => ?_⟩
    · have := nextskip_calls wx Dr (h.d.below hb) y.id hD _ (.after _ rfl g2)
      rw [hid] at this
      exact this
    · have hm := (h.moved hb).moved hb2
      have h2 := removenode_calls wy Dr hm.d r up y l.dropLast k1 k2 hm.is hu hk
      rw [hid] at h2
      refine h2.mono ?_
      rintro e w' ⟨rfl, D', f1, f2, f3, f4⟩
      refine ⟨rfl, D', f1, hm.o.trans' f3 hm.s, fun k => (hm.s k).trans (f4 k), f2, RT.All.mapAt okN_own _ _ _ hu h.all (fun k hk2 => ?_), e1⟩
      cases RT.All.at hu h.all with
      | mk _ _ hks =>
        refine hks k ?_
        rw [hk]
        rcases List.mem_append.1 hk2 with hk3 | hk3
        · simp [hk3]
        · simp [hk3]
set_option maxHeartbeats 1000000 in
set_option maxRecDepth 100000 in
theorem remempty_calls (w : World) (D : Tab) (hdom : Dom w D) (r0 : RT) (hr : Is D none r0) (hall : RT.All okN r0) (hcd : r0.cd = false) (ctx : Value) :
    Calls Try.prog 41 #[ctx, ptr (some r0.id)] w fun e w' => e = .returned (.tuple #[]) ∧ ∃ D' r', EmI w D r0 w' D' r' r'.pre.length := by
  have H0 := Aside0.mk (show EmI w D r0 w D r0 0 from ⟨hdom, Only.refl _ _, fun _ => Iff.rfl, hr, hall, Em.start r0 hcd⟩)
  have HP0 := Aside0.mk (show some r0.id = r0.pre[0]? from by cases r0; rfl)
  clear hdom hr hall hcd
  generalize r0.id = x0 at *
  simp only [ptr_some]
  go_enter Try.func41, Try.ntmps41
  go_wp2_with fail
  go_loopg [4] r0.pre.length (fun n v4 wr => ∃ (Dr : Tab) (r : RT) (i : Nat), n = r.pre.length - i ∧ i ≤ r.pre.length ∧ v4 = ptr r.pre[i]? ∧ Aside0 (EmI w D r0 wr Dr r i))
  case atStart => exact ⟨D, r0, 0, rfl, Nat.zero_le _, by rw [← HP0.out]; rfl, H0⟩
  case round =>
    clear H0 HP0
    obtain ⟨Dr, r, i, rfl, hi, rfl, HI⟩ := hrel
    by_cases hlt : i < r.pre.length
    · rw [List.getElem?_eq_getElem hlt]
      obtain ⟨nm, cd, hx, hrd⟩ := em_round HI.out hlt
      have HRD := Aside0.mk hrd
      have x1 : codeN.toList = [99, 111, 100, 101] := (ByteArray.toList_eq _).trans rfl
      have hcdn := hrd.cdn
      rw [x1] at hcdn
      have HN := Aside0.mk hrd.name
      have HH := Aside0.mk hrd.has
      clear hrd
      generalize hxe : r.pre[i] = x at *
      clear hxe
      simp only [ptr_some] at HN HH ⊢
      cases cd with
      | false =>
        have HX := Aside0.mk (HRD.out.next wr (Below.refl _ _) rfl)
        simp only [ptr_some] at HX
        clear HRD HH x1
        go_wp2_with (first
          | (go_at_call 62; go_must (refine HN.out.mono ?_; rintro e w1 ⟨rfl, rfl⟩))
          | (go_at_call 75; go_must (refine HX.out.mono ?_; rintro e w2 ⟨rfl, hi2⟩; have HI2 := Aside0.mk hi2; clear hi2)))
        go_roundg (r.pre.length - (i + 1))
        case rel => exact ⟨Dr, r, i + 1, rfl, hlt, rfl, HI2⟩
        case measure => omega
      | true =>
        obtain rfl : nm = codeN := toList_inj (by rw [x1]; exact beq_iff_eq.1 hcdn)
        simp only [codeN] at *
        cases hx with
        | true =>
          have HX := Aside0.mk (fun wx (hb : Below wr.heap.size wr wx) => HRD.out.next wx hb rfl)
          simp only [ptr_some] at HX
          clear HRD x1 hcdn
          go_wp2_with (first
            | (go_at_call 62; go_must (refine HN.out.mono ?_; rintro e w1 ⟨rfl, rfl⟩))
            | (go_at_call 72; go_must (refine HH.out.mono ?_; rintro e w2 ⟨rfl, hb2⟩; have HB2 := Aside0.mk hb2; clear hb2))
            | (go_at_call 75; go_must (refine (HX.out _ HB2.out).mono ?_; rintro e w3 ⟨rfl, hi2⟩; have HI2 := Aside0.mk hi2; clear hi2)))
          go_roundg (r.pre.length - (i + 1))
          case rel => exact ⟨Dr, r, i + 1, rfl, hlt, rfl, HI2⟩
          case measure => omega
        | false =>
          have HX := Aside0.mk (fun wx (hb : Below wr.heap.size wr wx) => HRD.out.drop wx hb rfl)
          simp only [ptr_some] at HX
          clear HRD x1 hcdn
          go_wp2_with (first
            | (go_at_call 62; go_must (refine HN.out.mono ?_; rintro e w1 ⟨rfl, rfl⟩))
            | (go_at_call 72; go_must (refine HH.out.mono ?_; rintro e w2 ⟨rfl, hb2⟩; obtain ⟨nx, r', hc3, hnx, hl3, hc4⟩ := HX.out _ hb2; have C3 := Aside0.mk hc3; have C4 := Aside0.mk hc4; have NX := Aside0.mk hnx; have L3 := Aside0.mk hl3; clear hb2 hc3 hc4 hnx hl3))
            | (go_at_call 73; go_must (refine C3.out.mono ?_; rintro e w3 ⟨rfl, hb3⟩; have HB3 := Aside0.mk hb3; clear hb3))
            | (go_at_call 74; go_must (refine (C4.out _ HB3.out).mono ?_; rintro e w4 ⟨rfl, D4, hi4⟩; have HI4 := Aside0.mk hi4; clear hi4)))
          go_roundg (r'.pre.length - i)
          case rel => exact ⟨D4, r', i, rfl, HI4.out.em.le, by rw [NX.out], HI4⟩
          case measure => have := L3.out; omega
    · have hie : i = r.pre.length := by omega
      subst hie
      rw [List.getElem?_eq_none (Nat.le_refl _)]
      simp only [ptr_none]
      go_wp2_with fail
      go_end0
      exact ⟨rfl, Dr, r, HI.out⟩
end Go.Proofs.Ytmfjbljdbkmkgaa.Dom

/- impl.EmptyCode: its contract. -/
namespace Go.Proofs.Ytmfjbljdbkmkgaa.Dom
open Go.RowKit Go.Proofs.YtmfjbljdbkmkgaaW.PrintWords Go.Proofs.YtmfjbljdbkmkgaaW.PrintLast Go.Proofs.YtmfjbljdbkmkgaaW.PrintMore Go.Proofs.Ytmfjbljdbkmkgaa.PDom Go.Proofs.Ytmfjbljdbkmkgaa.Txt
set_option linter.unusedVariables false
set_option linter.unusedSimpArgs false

/-- The same of plain trees. -/
def isCode (t : T) : Bool := t.f0 == 0 && t.f1.toList == codeN.toList
mutual
def hasT : T → Bool
  | ⟨k, _, x, _, ks⟩ => (k == 1 && !x.toList.isEmpty) || hasTL ks
def hasTL : List T → Bool
  | [] => false
  | k :: ks => hasT k || hasTL ks
end
mutual
def empT : T → T
  | ⟨k, n, x, as_, ks⟩ => ⟨k, n, x, as_, empTL ks⟩
def empTL : List T → List T
  | [] => []
  | k :: ks => if (isCode k && !hasT k) = true then empTL ks else empT k :: empTL ks
end
theorem text_not : (textName.toList == codeN.toList) = false := by rw [ByteArray.toList_eq, ByteArray.toList_eq]; rfl
theorem comment_not : (commentName.toList == codeN.toList) = false := by rw [ByteArray.toList_eq, ByteArray.toList_eq]; rfl
theorem emp_told (r : RT) : ∀ t : T, okT t = true → TellsT t r → r.emp.toT = empT t ∧ r.hasTx = hasT t ∧ r.cd = isCode t := by
  induction r using RT.induct with
  | h i ty a d at_ ks ih =>
    intro t ht h
    have hn := ok_norm t ht
    obtain ⟨h1, _, _, h4⟩ := okT_open ht
    obtain ⟨hl, hk⟩ := told_open h hn
    have hto := toT_norm (.node i ty a d at_ ks) t false hn h
    obtain ⟨k, n, x, as_, ts⟩ := t
    simp only at hl hk h4 h1
    have hL : ∀ (c : List RT) (e : List T), c.length = e.length → (∀ j (h1 : j < e.length) (h2 : j < c.length), c[j].emp.toT = empT e[j] ∧ c[j].hasTx = hasT e[j] ∧ c[j].cd = isCode e[j]) → RT.toTL (RT.empL c) = empTL e ∧ RT.hasTxL c = hasTL e := by
      intro c
      induction c with
      | nil =>
        intro e he _
        have : e = [] := List.length_eq_zero_iff.1 he.symm
        subst this
        exact ⟨rfl, rfl⟩
      | cons y c ih2 =>
        intro e he hj
        cases e with
        | nil => simp at he
        | cons z e =>
          obtain ⟨g1, g2, g3⟩ := hj 0 (by simp) (by simp)
          simp only [List.getElem_cons_zero] at g1 g2 g3
          obtain ⟨f1, f2⟩ := ih2 e (by simpa using he) (fun j h1 h2 => by
            have := hj (j + 1) (by simp; omega) (by simp; omega)
            simpa using this)
          refine ⟨?_, by rw [RT.hasTxL, hasTL, g2, f2]⟩
          rw [RT.empL, empTL]
          have hp : y.prune = (isCode z && !hasT z) := by unfold RT.prune; rw [g3, g2]
          rw [hp]
          split
          · exact f1
          · show y.emp.toT :: RT.toTL (RT.empL c) = _
            rw [g1, f1]
    obtain ⟨g1, g2⟩ := hL ks ts hl.symm (fun j h1 h2 => ih _ (List.getElem_mem h2) _ (h4 _ (List.getElem_mem h1)) (hk j h1 h2))
    have hks : RT.toTL ks = ts ∨ ty ≠ 3 := by
      by_cases h3 : ty = 3
      · subst h3
        rw [RT.toT, if_pos rfl] at hto
        injection hto with _ _ _ _ e5
        exact .inl e5
      · exact .inr h3
    cases h with
    | mk _ _ _ _ ha hl' hk' =>
      rcases h1 with ⟨e, e1, e2, e3⟩ | ⟨_, e, _⟩ | ⟨e, e1⟩
      · have e3' : ts = [] := e3
        subst e3'
        have hks0 : ks = [] := List.length_eq_zero_iff.1 hl.symm
        subst hks0
        have e1' : n = ⟨#[]⟩ := e1
        subst e1'
        have e2' : as_ = [] := e2
        subst e2'
        rcases e with e | e
        · have e' : k = 1 := e
          subst e'
          exact ⟨rfl, rfl, text_not⟩
        · have e' : k = 2 := e
          subst e'
          exact ⟨rfl, rfl, comment_not⟩
      · cases e
      · have e' : k = 0 := e
        subst e'
        have e1' : x = ⟨#[]⟩ := e1
        subst e1'
        refine ⟨?_, ?_, rfl⟩
        · rw [RT.emp, RT.toT, if_pos (show tyOf 0 = 3 from rfl), empT]
          have hto' := hto
          rw [RT.toT, if_pos (show tyOf 0 = 3 from rfl)] at hto'
          injection hto' with _ q2 _ q4 _
          rw [g1, q2, q4]
        · rw [RT.hasTx, hasT, g2]
          rfl
theorem back_calls (w : World) : Calls Try.prog 42 #[] w fun e w' => e = .returned (.iface 92 (.agg #[])) ∧ w' = w := by
  go_enter Try.func42, Try.ntmps42
  go_wp2
  go_ret
  exact ⟨rfl, rfl⟩
theorem emp1_calls (w : World) (D : Tab) (hdom : Dom w D) (r : RT) (hr : Is D none r) (t : T) (hto : TellsT t r) (hok : okT t = true) (hct : countT t ≤ 1000000) (hcd : isCode t = false) :
    Calls Try.prog 40 #[ptr (some r.id)] w fun e w' => e = .returned (.tuple #[]) ∧ ∃ u, u = empT t ∧ Turns w w' D r u := by
  have hall := ok_all r t hok hto
  obtain ⟨_, hpl⟩ := told_paths r t false (ok_norm t hok) hto
  obtain ⟨e1, e2, e3⟩ := emp_told r t hok hto
  have HR := Aside0.mk (remempty_calls w D hdom r hr hall (by rw [e3]; exact hcd) (.iface 92 (.agg #[])))
  have HE := Aside0.mk (show ∀ w' D' r', EmI w D r w' D' r' r'.pre.length → Turns w w' D r (empT t) from fun w' D' r' h => by
    have hf := h.em.finish
    have hlen := h.em.len
    exact ⟨D', r', h.d, h.is, h.em.idd, rfit_all r' h.all (by omega), by rw [hf]; exact e1, h.o, fun k _ hk => (h.s k).1 hk⟩)
  have HB := Aside0.mk (back_calls w)
  clear hall hpl hto hok hct hr hdom e1 e2 e3 hcd
  simp only [ptr_some] at HR ⊢
  go_enter Try.func40, Try.ntmps40
  go_wp2_with (first
    | (go_at_call 42; go_must (refine HB.out.mono ?_; rintro e w1 ⟨rfl, rfl⟩))
    | (go_at_call 41; go_must (refine HR.out.mono ?_; rintro e w2 ⟨rfl, D', r', h⟩; have H := Aside0.mk (HE.out w2 D' r' h); clear h)))
  go_end0
  exact ⟨rfl, _, rfl, H.out⟩
theorem enters_emp1 : ∀ (args : Array Value) (w : World), (callFunc 40 args).run Try.prog w = .ok (.enter 40 args) w := fun _ _ => by kernel_rfl
set_option maxHeartbeats 1000000 in
set_option maxRecDepth 100000 in
theorem emptycode_calls (t : T) (hok : okT t = true) (hct : countT t ≤ 1000000) (hcd : isCode t = false) (w : World) (A3 : Option Addr) (c3 : Nat) (A4 : Option Addr) (c4 : Nat)
    (h3 : Kd.C k53 w A3 t.f3.length t.f3) (l3 : t.f3.length ≤ c3) (h4 : Kd.C k25 w A4 t.f4.length t.f4) (l4 : t.f4.length ≤ c4) :
    Calls Try.prog 16 #[.agg #[.int .i64 t.f0, .string t.f1, .string t.f2, .slice A3 t.f3.length c3, .slice A4 t.f4.length c4]] w fun e w' => Told w w' (empT t) e := by
  obtain ⟨W0, hW0⟩ : ∃ W0, W0 = (w.alloc (.cells #[.int .i64 t.f0, .string t.f1, .string t.f2, .slice A3 t.f3.length c3, .slice A4 t.f4.length c4] 25)).alloc (.cells #[.int .i64 0, .string ⟨#[]⟩, .string ⟨#[]⟩, .slice none 0 0, .slice none 0 0] 25) := ⟨_, rfl⟩
  have hB0 : Below w.heap.size w W0 := by rw [hW0]; exact below_alloc (below_alloc (Below.refl _ _) _) _
  have hsz : W0.heap.size = w.heap.size + 2 := by rw [hW0]; show ((w.heap.push _).push _).size = _; simp
  have hk1 : W0.heap[w.heap.size + 1]? = some (.cells #[.int .i64 0, .string ⟨#[]⟩, .string ⟨#[]⟩, .slice none 0 0, .slice none 0 0] 25 (0, 0)) := by rw [hW0]; exact two_new w _ _
  have HBH := Aside0.mk (behind_calls 40 #[] enters_emp1 (fun u => u = empT t) t (ok_fit t hok) W0 A3 c3 A4 c4 (Kd.C_below h3 hB0) l3 (Kd.C_below h4 hB0) l4
    (fun W D r hW hno hd hr hto => emp1_calls W D hd r hr t hto hok hct hcd))
  have K1 := Aside0.mk hk1
  have HZ := Aside0.mk hsz
  have HB0 := Aside0.mk hB0
  clear h3 h4 l3 l4 hok hct hk1 hsz hB0 hcd
  go_enter Try.func16, Try.ntmps16
  go_wp2_with fail
  rw [← hW0]
  refine HBH.out.mono ?_
  rintro e w2 ⟨u, hu, A5, c5, A6, c6, rfl, m5, F5, m6, F6, hB, R5, N6⟩
  have hb2 := (hB.block _ (blk_lt K1.out)).trans K1.out
  have hz := HZ.out
  have HU := Aside0.mk hu
  have HTO := Aside0.mk (fun a0 a1 a2 a3 a4 => told_box (b := w.heap.size + 1) HB0.out (by omega) (by omega) m5 F5 m6 F6 hB R5 N6 a0 a1 a2 a3 a4)
  have f0 := blk_frozen hb2 0
  have f1 := blk_frozen hb2 1
  have f2 := blk_frozen hb2 2
  have f3 := blk_frozen hb2 3
  have f4 := blk_frozen hb2 4
  have q0 := blk_cell hb2 0
  have q1 := blk_cell hb2 1
  have q2 := blk_cell hb2 2
  have q3 := blk_cell hb2 3
  have q4 := blk_cell hb2 4
  clear hb2 hz hu m5 F5 m6 F6 hB R5 N6 HBH K1
  go_wp2_with fail
  refine bodyPost_ret (v := .agg #[.int .i64 u.f0, .string u.f1, .string u.f2, .slice A5 u.f3.length c5, .slice A6 u.f4.length c6]) (by simp [results, Try.results16, go_sem, q0, q1, q2, q3, q4]) rfl ?_
  rw [← HU.out]
  exact HTO.out _ _ _ _ _
end Go.Proofs.Ytmfjbljdbkmkgaa.Dom
namespace Go.Proofs.Ytmfjbljdbkmkgaa.PDom
open Go.RowKit Go.Proofs.YtmfjbljdbkmkgaaW.PrintWords Go.Proofs.YtmfjbljdbkmkgaaW.PrintLast Go.Proofs.YtmfjbljdbkmkgaaW.PrintMore Go.Proofs.Ytmfjbljdbkmkgaa.Dom
set_option linter.unusedVariables false
set_option linter.unusedSimpArgs false
/-! ### As the printed walks take it -/
def impl_EmptyCode.f (_k : Nat) (a0_0 : Int) (a0_1 : ByteArray) (a0_2 : ByteArray) (l0_3 : List (S53)) (l0_4 : List (S25)) : Option (Int × ByteArray × ByteArray × List S53 × List S25) :=
  if (okT ⟨a0_0, a0_1, a0_2, l0_3, l0_4⟩ && (decide (countT ⟨a0_0, a0_1, a0_2, l0_3, l0_4⟩ ≤ 1000000) && !isCode ⟨a0_0, a0_1, a0_2, l0_3, l0_4⟩)) = true then some (let u := empT ⟨a0_0, a0_1, a0_2, l0_3, l0_4⟩; (u.f0, u.f1, u.f2, u.f3, u.f4)) else none
theorem impl_EmptyCode.mono : ∀ a0 a1 a2 a3 a4 k, LeO (impl_EmptyCode.f k a0 a1 a2 a3 a4) (impl_EmptyCode.f (k + 1) a0 a1 a2 a3 a4) := fun _ _ _ _ _ _ => LeO.refl _
theorem impl_EmptyCode.calls (k : Nat) (a0_0 : Int) (a0_1 : ByteArray) (a0_2 : ByteArray) (A0_3 : Option Addr) (c0_3 : Nat) (l0_3 : List (S53)) (A0_4 : Option Addr) (c0_4 : Nat) (l0_4 : List (S25)) (r1 : Int) (r2 r3 : ByteArray) (r4 : List S53) (r5 : List S25) (w : World)
    (hr0_3 : Kd.C k53 w A0_3 l0_3.length l0_3) (hc0_3 : l0_3.length ≤ c0_3) (hr0_4 : Kd.C k25 w A0_4 l0_4.length l0_4) (hc0_4 : l0_4.length ≤ c0_4) (h : impl_EmptyCode.f k a0_0 a0_1 a0_2 l0_3 l0_4 = some (r1, r2, r3, r4, r5)) :
    Calls Try.prog 16 #[.agg #[.int .i64 a0_0, .string a0_1, .string a0_2, .slice A0_3 l0_3.length c0_3, .slice A0_4 l0_4.length c0_4]] w fun e w' => ∃ v3_ v4_ : Value, e = .returned (.agg #[.int .i64 r1, .string r2, .string r3, v3_, v4_]) ∧ Kd.R k53 53 w' w.heap.size (fun k_ => w.heap.size ≤ k_) v3_ r4 ∧ Kd.N k25 25 w' w.heap.size (fun k_ => w.heap.size ≤ k_ ∧ some k_ ≠ (v3_ : Value).ownBlock) v4_ r5 ∧ Below w.heap.size w w' := by
  unfold impl_EmptyCode.f at h
  split at h
  · rename_i hg
    simp only [Bool.and_eq_true, decide_eq_true_eq, Bool.not_eq_true'] at hg
    obtain ⟨h1, h2, h3⟩ := hg
    have hh := Option.some.inj h
    simp only [Prod.mk.injEq] at hh
    obtain ⟨rfl, rfl, rfl, rfl, rfl⟩ := hh
    refine (emptycode_calls ⟨a0_0, a0_1, a0_2, l0_3, l0_4⟩ h1 h2 h3 w A0_3 c0_3 A0_4 c0_4 hr0_3 hc0_3 hr0_4 hc0_4).mono ?_
    rintro e w' ⟨A5, c5, A6, c6, rfl, m5, F5, m6, F6, hB, R5, N6⟩
    exact ⟨_, _, rfl, R5, N6, hB⟩
  · cases h
end Go.Proofs.Ytmfjbljdbkmkgaa.PDom
