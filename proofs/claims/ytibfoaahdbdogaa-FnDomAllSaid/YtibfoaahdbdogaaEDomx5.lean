/- Printed by the program extprint.py of this session, out of the kit's print and contracts of this session's own; Lean checks it. -/
import Derived.Test.YtibfoaahdbdogaaEDomx0
import Derived.Test.YtibfoaahdbdogaaEDomx4
namespace Go.Proofs.Ytibfoaahdbdogaa.PDom
open Go.RowKit Go.Proofs.YtibfoaahdbdogaaW.PrintWords Go.Proofs.YtibfoaahdbdogaaW.PrintLast Go.Proofs.YtibfoaahdbdogaaW.PrintMore
attribute [local go_sem] max2_int min2_int max_two min_two max_three min_three max_four min_four   -- for this text's walks alone
set_option linter.unusedVariables false
set_option linter.unusedSimpArgs false

/-! ### spec_Walk29: function 14 -/
mutual
def spec_Walk29.l0 : Nat → List Int → List (List Int) → List (S25) → Int → Int → Option ((List (List Int)))
  | 0, _, _, _, _, _ => none
  | k + 1, x1, x5, x11, x12, x13 => if x13 < x12 then (if 0 ≤ x13 then (if x13 < (x11.length : Int) then ((spec_Under29.f x1 x13).bind fun t154 => ((spec_Walk29.f k ((rd_T25 x11 x13).f0) ((rd_T25 x11 x13).f1) ((rd_T25 x11 x13).f2) ((rd_T25 x11 x13).f3) ((rd_T25 x11 x13).f4) t154).bind fun t157 => (if x5.length + t157.length < 5864062014805 then (spec_Walk29.l0 k x1 (x5 ++ t157) x11 x12 (wrap64 (x13 + 1))) else (none)))) else (none)) else (none)) else (some x5)
def spec_Walk29.f : Nat → Int → ByteArray → ByteArray → List (S78) → List (S25) → List Int → Option ((List (List Int)))
  | 0, _, _, _, _, _, _ => none
  | k + 1, a0_0, a0_1, a0_2, l0_3, l0_4, l1 => spec_Walk29.l0 k l1 (([l1] : List (List Int))) l0_4 (l0_4.length : Int) 0
end
theorem spec_Walk29.mono_l : ∀ k, (∀ y0 y1 y2 y3 y4 y5, LeO (spec_Walk29.f k y0 y1 y2 y3 y4 y5) (spec_Walk29.f (k + 1) y0 y1 y2 y3 y4 y5)) ∧ (∀ y0 y1 y2 y3 y4, LeO (spec_Walk29.l0 k y0 y1 y2 y3 y4) (spec_Walk29.l0 (k + 1) y0 y1 y2 y3 y4))
  | 0 => ⟨fun _ _ _ _ _ _ r h => by simp [spec_Walk29.f] at h, fun _ _ _ _ _ r h => by simp [spec_Walk29.l0] at h⟩
  | k + 1 => by
    obtain ⟨ih0, ih1⟩ := spec_Walk29.mono_l k
    refine ⟨?_, ?_⟩
    · intro y0 y1 y2 y3 y4 y5
      unfold spec_Walk29.f
      repeat' first
      | (with_reducible exact ih0 _ _ _ _ _ _)
      | (with_reducible exact ih1 _ _ _ _ _)
      | (with_reducible exact LeO.refl _)
      | (with_reducible exact LeO.none _)
      | (with_reducible refine LeO.ite ?_ ?_)
      | (with_reducible refine LeO.bind ?_ (fun _ => ?_))
      | exact ih0 _ _ _ _ _ _
      | exact ih1 _ _ _ _ _
      | exact LeO.none _
      | refine LeO.ite ?_ ?_
      | refine LeO.bind ?_ (fun _ => ?_)
    · intro y0 y1 y2 y3 y4
      unfold spec_Walk29.l0
      repeat' first
      | (with_reducible exact ih0 _ _ _ _ _ _)
      | (with_reducible exact ih1 _ _ _ _ _)
      | (with_reducible exact LeO.refl _)
      | (with_reducible exact LeO.none _)
      | (with_reducible refine LeO.ite ?_ ?_)
      | (with_reducible refine LeO.bind ?_ (fun _ => ?_))
      | exact ih0 _ _ _ _ _ _
      | exact ih1 _ _ _ _ _
      | exact LeO.none _
      | refine LeO.ite ?_ ?_
      | refine LeO.bind ?_ (fun _ => ?_)
theorem spec_Walk29.mono : ∀ a0 a1 a2 a3 a4 a5 k, LeO (spec_Walk29.f k a0 a1 a2 a3 a4 a5) (spec_Walk29.f (k + 1) a0 a1 a2 a3 a4 a5) := by
  intro a0 a1 a2 a3 a4 a5 k
  obtain ⟨ih0, ih1⟩ := spec_Walk29.mono_l k
  exact ih0 a0 a1 a2 a3 a4 a5
def spec_Walk29.T5 : Bool × List (List Nat × List Nat) := (true, [([], []), ([], []), ([], []), ([], []), ([2, 3], [2, 3]), ([1, 4, 4], [1, 4]), ([0, 5, 5], [0, 5]), ([6, 6, 0, 1, 2, 3, 4, 5, 6], [0, 6])])
def spec_Walk29.B5 : List Nat := [0, 0, 0, 0, 12, 30, 63, 127]
theorem spec_Walk29.tab5 : rtab .any (opsOf Try.f14 5) = spec_Walk29.T5 := by kernel_rfl
theorem spec_Walk29.bits5 : waitsOk spec_Walk29.T5.2 spec_Walk29.B5 = true := by kernel_rfl
set_option maxHeartbeats 8000000 in
set_option maxRecDepth 100000 in
theorem spec_Walk29.calls (k : Nat) : ∀ (a0_0 : Int) (a0_1 : ByteArray) (a0_2 : ByteArray) (A0_3 : Option Addr) (c0_3 : Nat) (l0_3 : List (S78)) (A0_4 : Option Addr) (c0_4 : Nat) (l0_4 : List (S25)) (P1_ : Nat → Prop) (A1 : Option Addr) (c1 : Nat) (l1 : List Int) (r : List (List Int)) (w : World) (hr0_3 : Kd.C k78 w A0_3 l0_3.length l0_3) (hc0_3 : l0_3.length ≤ c0_3) (hr0_4 : Kd.C k25 w A0_4 l0_4.length l0_4) (hc0_4 : l0_4.length ≤ c0_4) (hs1 : Kd.V (Kd.int .i64) 3 w w.heap.size (fun k_ => P1_ k_) (.slice A1 l1.length c1) l1) (h : spec_Walk29.f k a0_0 a0_1 a0_2 l0_3 l0_4 l1 = some r),
    Calls Try.prog 14 #[.agg #[.int .i64 a0_0, .string a0_1, .string a0_2, .slice A0_3 l0_3.length c0_3, .slice A0_4 l0_4.length c0_4], .slice A1 l1.length c1] w fun e w' => ∃ v0_ : Value, e = .returned (v0_) ∧ Kd.N (Kd.slice 3 (Kd.int .i64)) 32 w' w.heap.size (fun k_ => (P1_ k_ ∨ w.heap.size ≤ k_)) v0_ r ∧ Below w.heap.size w w' := by
  induction k using Nat.strongRecOn with
  | _ k ih =>
  intro a0_0 a0_1 a0_2 A0_3 c0_3 l0_3 A0_4 c0_4 l0_4 P1_ A1 c1 l1 r w hr0_3 hc0_3 hr0_4 hc0_4 hs1 h
  cases k with
  | zero => exact absurd h (by simp [spec_Walk29.f])
  | succ k =>
  simp only [spec_Walk29.f] at h
  have hu25 := Try.underlying25
  have HR0_3 := Aside0.mk hr0_3
  have HC0_3 := Aside0.mk hc0_3
  clear hr0_3 hc0_3
  have HR0_4 := Aside0.mk hr0_4
  have HC0_4 := Aside0.mk hc0_4
  clear hr0_4 hc0_4
  have HO1 := Aside0.mk (show Kd.V (Kd.int .i64) 3 w w.heap.size (fun k_ => (P1_ k_ ∨ w.heap.size ≤ k_)) (.slice A1 l1.length c1) l1 from Kd.V_mono hs1 (fun k_ hk => .inl hk))
  have HB := Aside0.mk (Below.refl w.heap.size w)
  have H : (spec_Walk29.l0 k l1 (([l1] : List (List Int))) l0_4 (l0_4.length : Int) 0) = some r := h
  clear h
  obtain ⟨y149, hy149⟩ : ∃ y_ : List (List Int), y_ = (([l1] : List (List Int))) := ⟨_, rfl⟩
  replace H : (spec_Walk29.l0 k l1 y149 l0_4 (l0_4.length : Int) 0) = some r := by first | (rw [hy149]; with_reducible exact H) | (have H2_ := (Option.bind_some _ _).symm.trans H; rw [hy149]; with_reducible exact H2_) | (have H2_ := (Option.bind_some _ _).symm.trans H; with_reducible exact H2_) | with_reducible exact H | (rw [hy149]; exact H) | exact H
  have Ny149 := Aside0.mk hy149
  clear hy149
  have H' := Aside0.mk H
  clear H
  go_enter Try.func14, Try.ntmps14
  go_wp2_with (first | ((with_reducible refine gate_dst (N := 2) rfl ?_); refine box_event ?hg (N := 2) ?hd (cs := #[.int .i64 a0_0, .string a0_1, .string a0_2, .slice A0_3 l0_3.length c0_3, .slice A0_4 l0_4.length c0_4]) (t := 25) ?hr ?_; (case hd => rfl); (case hg => rfl); (case hr => first | (go_simp; done) | (go_simp; rfl)); intro gb148 hg w3 hbox hb; have n0_ := Aside0.mk (Kd.V_below (Kd.V_elderB (by (with_reducible repeat (first | apply Kd.V_alloc | apply Kd.V_drewN | apply Kd.V_drew)); exact HO1.out) gb148 (Nat.le_of_eq hg.symm)) hb); have n1_ := Aside0.mk (below_step (by repeat (first | (with_reducible first | exact HB.out | apply below_alloc | apply pw_below_drewN | apply below_drew1) | exact HB.out)) hb); have n2_ := Aside0.mk (hbox); have n3_ := Aside0.mk ((by rw [hg]; exact (below_size (by repeat (first | (with_reducible first | exact HB.out | apply below_alloc | apply pw_below_drewN | apply below_drew1) | exact HB.out))) : w.heap.size ≤ gb148)); have n4_ := Aside0.mk ((by rw [hg]; exact (below_size (by repeat (first | (with_reducible first | exact HB.out | apply below_alloc | apply pw_below_drewN | apply below_drew1) | exact HB.out))) : w.heap.size ≤ gb148)); clear HO1; clear HB; have HO1 := n0_; have HB := n1_; have BK148 := n2_; have GW148 := n3_; have GE148 := n4_; clear n0_ n1_ n2_ n3_ n4_; clear hb hbox hg) | ((with_reducible refine gate_dst (N := 9) rfl ?_); refine Kd.N_lit (Kd.slice 3 (Kd.int .i64)) _ 32 ?hg (N' := 9) ?hd (xs := ([l1] : List (List Int))) (inner := [.slice A1 l1.length c1]) (ok := (fun k_ => (P1_ k_ ∨ w.heap.size ≤ k_) ∧ k_ ≠ gb148)) (okp := (fun k_ => (P1_ k_ ∨ w.heap.size ≤ k_) ∧ k_ ≠ gb148)) ?hr ?hp (fun _ hk => hk) ((show ∀ k_, w3.heap.size ≤ k_ → (fun k_ => (P1_ k_ ∨ w.heap.size ≤ k_) ∧ k_ ≠ gb148) k_ from fun k_ hk => ⟨(.inr (Nat.le_trans (below_size (by repeat (first | (with_reducible first | exact HB.out | apply below_alloc | apply pw_below_drewN | apply below_drew1 | refine below_set ?_ GE148.out) | exact HB.out))) hk)), Kd.freshB (g := gb148) (o := .cells #[.int .i64 a0_0, .string a0_1, .string a0_2, .slice A0_3 l0_3.length c0_3, .slice A0_4 l0_4.length c0_4] 25 (0, 0)) (by (with_reducible repeat (first | refine blk_drewN ?_ _ | refine blk_drew ?_ | refine blk_alloc ?_ _)); exact BK148.out) k_ hk⟩) _ (Nat.le_refl _)) (Below.refl _ _) (Nat.le_refl _) (by simp) ?_; (case hd => rfl); (case hg => rfl); (case hr => first | (go_simp; done) | (go_simp; rfl)); (case hp => exact (Reps.one (show Kd.FK (Kd.slice 3 (Kd.int .i64)) _ _ l1 [.slice A1 l1.length c1] from (Kd.FK_slice_mk (Kd.V_reads' (Kd.V_mono (ok' := (fun k_ => (P1_ k_ ∨ w.heap.size ≤ k_) ∧ k_ ≠ gb148)) (HO1.out) (fun k_ hk => ⟨hk.1, hk.2⟩))).2.1 (Kd.V_F (Kd.V_mono (ok' := (fun k_ => (P1_ k_ ∨ w.heap.size ≤ k_) ∧ k_ ≠ gb148)) (HO1.out) (fun k_ hk => ⟨hk.1, hk.2⟩))))) (Reps.none _ _))); intro v150 w4 ho5 hb hg_ hnew_; clear hg_ hnew_; (first | rw [← Ny149.out] at ho5 | (simp only [Int.reduceToNat] at ho5; rw [← Ny149.out] at ho5)); have n0_ := Aside0.mk (Kd.V_elder' (by (with_reducible repeat (first | apply Kd.V_alloc | apply Kd.V_drewN | apply Kd.V_drew)); exact HO1.out) (Kd.N_base ho5) hb); have n1_ := Aside0.mk (Kd.N_lower ho5 (below_size (by repeat (first | (with_reducible first | exact HB.out | apply below_alloc | apply pw_below_drewN | apply below_drew1 | refine below_set ?_ GE148.out) | exact HB.out)))); have n2_ := Aside0.mk (blk_below (g := gb148) (o := .cells #[.int .i64 a0_0, .string a0_1, .string a0_2, .slice A0_3 l0_3.length c0_3, .slice A0_4 l0_4.length c0_4] 25 (0, 0)) (by (with_reducible repeat (first | refine blk_drewN ?_ _ | refine blk_drew ?_ | refine blk_alloc ?_ _)); exact BK148.out) hb); have n3_ := Aside0.mk (below_step (by repeat (first | (with_reducible first | exact HB.out | apply below_alloc | apply pw_below_drewN | apply below_drew1 | refine below_set ?_ GE148.out) | exact HB.out)) hb); clear HO1; clear BK148; clear HB; have HO1 := n0_; have HO151 := n1_; have BK148 := n2_; have HB := n3_; clear n0_ n1_ n2_ n3_; clear hb ho5; have hcz6_0 : w4.cell? ⟨gb148, 0, none⟩ = some (.int .i64 a0_0) := (blk_cell BK148.out 0).trans rfl; have hcz6_1 : w4.cell? ⟨gb148, 1, none⟩ = some (.string a0_1) := (blk_cell BK148.out 1).trans rfl; have hcz6_2 : w4.cell? ⟨gb148, 2, none⟩ = some (.string a0_2) := (blk_cell BK148.out 2).trans rfl; have hcz6_3 : w4.cell? ⟨gb148, 3, none⟩ = some (.slice A0_3 l0_3.length c0_3) := (blk_cell BK148.out 3).trans rfl; have hcz6_4 : w4.cell? ⟨gb148, 4, none⟩ = some (.slice A0_4 l0_4.length c0_4) := (blk_cell BK148.out 4).trans rfl; have hfz6_0 := blk_frozen BK148.out 0; have hfz6_1 := blk_frozen BK148.out 1; have hfz6_2 := blk_frozen BK148.out 2; have hfz6_3 := blk_frozen BK148.out 3; have hfz6_4 := blk_frozen BK148.out 4))
  go_loopg [5, 13] k (fun kq v5 v13 w' => ∃ (x5_1 : List (List Int)) (x13_1 : Int), v13 = .int .i64 x13_1 ∧ Aside0 (spec_Walk29.l0 kq l1 x5_1 l0_4 (l0_4.length : Int) x13_1 = some r) ∧ Aside0 (kq ≤ k) ∧ Aside0 (Kd.V (Kd.int .i64) 3 w' w.heap.size (fun k_ => (P1_ k_ ∨ w.heap.size ≤ k_) ∧ some k_ ≠ (v5 : Value).ownBlock ∧ k_ ≠ gb148) (.slice A1 l1.length c1) l1) ∧ Aside0 (Kd.N (Kd.slice 3 (Kd.int .i64)) 32 w' w.heap.size (fun k_ => (P1_ k_ ∨ w.heap.size ≤ k_) ∧ k_ ≠ gb148) v5 x5_1) ∧ Aside0 (w'.heap[gb148]? = some (.cells #[.int .i64 a0_0, .string a0_1, .string a0_2, (.slice A0_3 l0_3.length c0_3), (.slice A0_4 l0_4.length c0_4)] 25 (0, 0))) ∧ Aside0 (Below w.heap.size w w'))
  case atStart => exact ⟨(y149), (0), (by first | rfl | (simp; done) | (simp [*]; done)), H', ⟨Nat.le_refl _⟩, ⟨by (with_reducible repeat (first | apply Kd.V_alloc | apply Kd.V_drewN | apply Kd.V_drew)); exact Kd.V_mono HO1.out (fun _ hk => ⟨hk.1.1, ⟨hk.2, hk.1.2⟩⟩)⟩, ⟨by (with_reducible repeat (first | apply Kd.N_alloc | apply Kd.N_drewN | apply Kd.N_drew)); exact HO151.out⟩, ⟨by (with_reducible repeat (first | refine blk_drewN ?_ _ | refine blk_drew ?_ | refine blk_alloc ?_ _)); exact BK148.out⟩, ⟨by repeat (first | (with_reducible first | exact HB.out | apply below_alloc | apply pw_below_drewN | apply below_drew1 | refine below_set ?_ GE148.out) | exact HB.out)⟩⟩
  case round =>
    clear H'
    try clear c1
    try clear p2
    try clear hcz6_0
    try clear hcz6_1
    try clear hcz6_2
    try clear hcz6_3
    try clear hcz6_4
    try clear hfz6_0
    try clear hfz6_1
    try clear hfz6_2
    try clear hfz6_3
    try clear hfz6_4
    obtain ⟨x5_1, x13_1, rfl, HA, HK1, HO_1, HO_5, BK148, HB⟩ := hrel
    cases gk with
    | zero => exact absurd HA.out (by simp [spec_Walk29.l0])
    | succ k1 =>
      have H := HA.out
      clear HA
      simp only [spec_Walk29.l0] at H
      by_cases c7 : x13_1 < (l0_4.length : Int)
      · rw [if_pos c7] at H
        have c7b0 : decide (x13_1 < (l0_4.length : Int)) = true := decide_eq_true c7
        clear c7
        by_cases c8 : 0 ≤ x13_1
        · rw [if_pos c8] at H
          have c8b0 : decide (0 ≤ x13_1) = true := decide_eq_true c8
          clear c8
          by_cases c9 : x13_1 < (l0_4.length : Int)
          · rw [if_pos c9] at H
            have c9b0 : decide (x13_1 < (l0_4.length : Int)) = true := decide_eq_true c9
            clear c9
            replace H := Option.bind_eq_some_iff.mp H
            obtain ⟨t154, A100, H⟩ := H
            replace H : ((spec_Walk29.f k1 ((rd_T25 l0_4 x13_1).f0) ((rd_T25 l0_4 x13_1).f1) ((rd_T25 l0_4 x13_1).f2) ((rd_T25 l0_4 x13_1).f3) ((rd_T25 l0_4 x13_1).f4) t154).bind fun t157 => (if x5_1.length + t157.length < 5864062014805 then (spec_Walk29.l0 k1 l1 (x5_1 ++ t157) l0_4 (l0_4.length : Int) (wrap64 (x13_1 + 1))) else (none))) = some r := H
            have A10 := Aside0.mk A100
            clear A100
            replace H := Option.bind_eq_some_iff.mp H
            obtain ⟨t157, A110, H⟩ := H
            replace H : (if x5_1.length + t157.length < 5864062014805 then (spec_Walk29.l0 k1 l1 (x5_1 ++ t157) l0_4 (l0_4.length : Int) (wrap64 (x13_1 + 1))) else (none)) = some r := H
            have A11 := Aside0.mk A110
            clear A110
            by_cases c12 : x5_1.length + t157.length < 5864062014805
            · rw [if_pos c12] at H
              have LMc12 := Aside0.mk c12
              clear c12
              obtain ⟨y160, hy160⟩ : ∃ y_ : List (List Int), y_ = (x5_1 ++ t157) := ⟨_, rfl⟩
              replace H : (spec_Walk29.l0 k1 l1 y160 l0_4 (l0_4.length : Int) (wrap64 (x13_1 + 1))) = some r := by first | (rw [hy160]; with_reducible exact H) | (have H2_ := (Option.bind_some _ _).symm.trans H; rw [hy160]; with_reducible exact H2_) | (have H2_ := (Option.bind_some _ _).symm.trans H; with_reducible exact H2_) | with_reducible exact H | (rw [hy160]; exact H) | exact H
              have Ny160 := Aside0.mk hy160
              clear hy160
              have H' := Aside0.mk H
              clear H
              have p152 : 0 ≤ (x13_1 : Int) := of_decide_eq_true (by first | (with_reducible assumption) | assumption)
              have q152 : x13_1 < (l0_4.length : Int) := of_decide_eq_true (by first | (with_reducible assumption) | assumption)
              obtain ⟨ad152, A152_3, c152_3, A152_4, c152_4, e152, hx152_0, hx152_1, hx152_2, hx152_3, hx152_4, hl152_3, hi152_3, hl152_4, hi152_4⟩ := at_T25 HR0_4.out x13_1 p152 q152
              cases e152
              replace hx152_0 := (HB.out.cell (World.block_lt_of_cell? w _ hx152_0)).trans hx152_0
              replace hx152_1 := (HB.out.cell (World.block_lt_of_cell? w _ hx152_1)).trans hx152_1
              replace hx152_2 := (HB.out.cell (World.block_lt_of_cell? w _ hx152_2)).trans hx152_2
              replace hx152_3 := (HB.out.cell (World.block_lt_of_cell? w _ hx152_3)).trans hx152_3
              replace hx152_4 := (HB.out.cell (World.block_lt_of_cell? w _ hx152_4)).trans hx152_4
              have HR152_3 := Aside0.mk hi152_3
              have HC152_3 := Aside0.mk hl152_3
              clear hi152_3 hl152_3
              have HR152_4 := Aside0.mk hi152_4
              have HC152_4 := Aside0.mk hl152_4
              clear hi152_4 hl152_4
              replace p152 := eq_true p152
              replace q152 := eq_true q152
              try go_wp2_with (first | ((with_reducible refine gate_dst (N := 7) rfl ?_); refine box_event ?hg (N := 7) ?hd (cs := #[.int .i64 0, .string (⟨#[]⟩ : ByteArray), .string (⟨#[]⟩ : ByteArray), .slice none 0 0, .slice none 0 0]) (t := 25) ?hr ?_; (case hd => rfl); (case hg => rfl); (case hr => first | (go_simp; done) | (go_simp; rfl)); intro gb153 hg w13 hbox hb; have n0_ := Aside0.mk (Kd.V_below (Kd.V_elderB (by (with_reducible repeat (first | apply Kd.V_alloc | apply Kd.V_drewN | apply Kd.V_drew)); exact HO_1.out) gb153 (Nat.le_of_eq hg.symm)) hb); have n1_ := Aside0.mk (Kd.N_below (Kd.N_elderB (by (with_reducible repeat (first | apply Kd.N_alloc | apply Kd.N_drewN | apply Kd.N_drew)); exact HO_5.out) gb153 (Nat.le_of_eq hg.symm)) hb); have n2_ := Aside0.mk (blk_below (g := gb148) (o := .cells #[.int .i64 a0_0, .string a0_1, .string a0_2, .slice A0_3 l0_3.length c0_3, .slice (some ad152) l0_4.length c0_4] 25 (0, 0)) (by (with_reducible repeat (first | refine blk_drewN ?_ _ | refine blk_drew ?_ | refine blk_alloc ?_ _)); exact BK148.out) hb); have n3_ := Aside0.mk (below_step (by repeat (first | (with_reducible first | exact HB.out | apply below_alloc | apply pw_below_drewN | apply below_drew1 | refine below_set ?_ GE148.out) | exact HB.out)) hb); have n4_ := Aside0.mk (hbox); have n5_ := Aside0.mk ((by rw [hg]; exact (below_size (by repeat (first | (with_reducible first | exact HB.out | apply below_alloc | apply pw_below_drewN | apply below_drew1 | refine below_set ?_ GE148.out) | exact HB.out))) : w.heap.size ≤ gb153)); have n6_ := Aside0.mk ((by rw [hg]; exact (below_size (by repeat (first | (with_reducible first | exact HB.out | apply below_alloc | apply pw_below_drewN | apply below_drew1 | refine below_set ?_ GE148.out) | exact HB.out))) : w.heap.size ≤ gb153)); have n7_ := Aside0.mk ((by rw [hg]; exact Nat.ne_of_lt (blk_lt (g := gb148) (o := .cells #[.int .i64 a0_0, .string a0_1, .string a0_2, .slice A0_3 l0_3.length c0_3, .slice (some ad152) l0_4.length c0_4] 25 (0, 0)) (by (with_reducible repeat (first | refine blk_drewN ?_ _ | refine blk_drew ?_ | refine blk_alloc ?_ _)); exact BK148.out)) : gb148 ≠ gb153)); have n8_ := Aside0.mk ((by rw [hg]; exact Nat.ne_of_gt (blk_lt (g := gb148) (o := .cells #[.int .i64 a0_0, .string a0_1, .string a0_2, .slice A0_3 l0_3.length c0_3, .slice (some ad152) l0_4.length c0_4] 25 (0, 0)) (by (with_reducible repeat (first | refine blk_drewN ?_ _ | refine blk_drew ?_ | refine blk_alloc ?_ _)); exact BK148.out)) : gb153 ≠ gb148)); clear HO_1; clear HO_5; clear BK148; clear HB; have HO_1 := n0_; have HO_5 := n1_; have BK148 := n2_; have HB := n3_; have BK153 := n4_; have GW153 := n5_; have GE153 := n6_; have NB148_153 := n7_; have NB153_148 := n8_; clear n0_ n1_ n2_ n3_ n4_ n5_ n6_ n7_ n8_; clear hb hbox hg; have hnb14 := NB153_148.out; have hnc14 := NB148_153.out; have hcz15_0 : w13.cell? ⟨gb153, 0, none⟩ = some (.int .i64 0) := (blk_cell BK153.out 0).trans rfl; have hcz15_1 : w13.cell? ⟨gb153, 1, none⟩ = some (.string (⟨#[]⟩ : ByteArray)) := (blk_cell BK153.out 1).trans rfl; have hcz15_2 : w13.cell? ⟨gb153, 2, none⟩ = some (.string (⟨#[]⟩ : ByteArray)) := (blk_cell BK153.out 2).trans rfl; have hcz15_3 : w13.cell? ⟨gb153, 3, none⟩ = some (.slice none 0 0) := (blk_cell BK153.out 3).trans rfl; have hcz15_4 : w13.cell? ⟨gb153, 4, none⟩ = some (.slice none 0 0) := (blk_cell BK153.out 4).trans rfl; have hfz15_0 := blk_frozen BK153.out 0; have hfz15_1 := blk_frozen BK153.out 1; have hfz15_2 := blk_frozen BK153.out 2; have hfz15_3 := blk_frozen BK153.out 3; have hfz15_4 := blk_frozen BK153.out 4))
              have n0_ : Aside0 (Kd.V (Kd.int .i64) 3 (((((w13.setCell ⟨gb153, 0, none⟩ (.int .i64 ((rd_T25 l0_4 x13_1).f0))).setCell ⟨gb153, 1, none⟩ (.string ((rd_T25 l0_4 x13_1).f1))).setCell ⟨gb153, 2, none⟩ (.string ((rd_T25 l0_4 x13_1).f2))).setCell ⟨gb153, 3, none⟩ (.slice A152_3 ((rd_T25 l0_4 x13_1).f3).length c152_3)).setCell ⟨gb153, 4, none⟩ (.slice A152_4 ((rd_T25 l0_4 x13_1).f4).length c152_4)) w.heap.size (fun k_ => (P1_ k_ ∨ w.heap.size ≤ k_) ∧ some k_ ≠ (u5 : Value).ownBlock ∧ k_ ≠ gb148 ∧ k_ ≠ gb153) (.slice A1 l1.length c1) l1) := ⟨by (with_reducible repeat (first | apply Kd.V_alloc | apply Kd.V_drewN | apply Kd.V_drew)); exact Kd.V_mono (Kd.V_far (p := ⟨gb153, 4, none⟩) (Kd.V_far (p := ⟨gb153, 3, none⟩) (Kd.V_far (p := ⟨gb153, 2, none⟩) (Kd.V_far (p := ⟨gb153, 1, none⟩) (Kd.V_far (p := ⟨gb153, 0, none⟩) (Kd.V_mono HO_1.out (fun k_ hk => (⟨hk, hk.2⟩ : _ ∧ k_ ≠ gb153))) (fun _ hk => hk.2) (.int .i64 ((rd_T25 l0_4 x13_1).f0))) (fun _ hk => hk.2) (.string ((rd_T25 l0_4 x13_1).f1))) (fun _ hk => hk.2) (.string ((rd_T25 l0_4 x13_1).f2))) (fun _ hk => hk.2) (.slice A152_3 ((rd_T25 l0_4 x13_1).f3).length c152_3)) (fun _ hk => hk.2) (.slice A152_4 ((rd_T25 l0_4 x13_1).f4).length c152_4)) (fun _ hk => ⟨hk.1.1.1, ⟨hk.1.1.2.1, ⟨hk.1.1.2.2, hk.1.2⟩⟩⟩)⟩
              have n1_ : Aside0 (Kd.N (Kd.slice 3 (Kd.int .i64)) 32 (((((w13.setCell ⟨gb153, 0, none⟩ (.int .i64 ((rd_T25 l0_4 x13_1).f0))).setCell ⟨gb153, 1, none⟩ (.string ((rd_T25 l0_4 x13_1).f1))).setCell ⟨gb153, 2, none⟩ (.string ((rd_T25 l0_4 x13_1).f2))).setCell ⟨gb153, 3, none⟩ (.slice A152_3 ((rd_T25 l0_4 x13_1).f3).length c152_3)).setCell ⟨gb153, 4, none⟩ (.slice A152_4 ((rd_T25 l0_4 x13_1).f4).length c152_4)) w.heap.size (fun k_ => (P1_ k_ ∨ w.heap.size ≤ k_) ∧ k_ ≠ gb148 ∧ k_ ≠ gb153) u5 x5_1) := ⟨by (with_reducible repeat (first | apply Kd.N_alloc | apply Kd.N_drewN | apply Kd.N_drew)); exact Kd.N_mono (Kd.N_far (p := ⟨gb153, 4, none⟩) (Kd.N_far (p := ⟨gb153, 3, none⟩) (Kd.N_far (p := ⟨gb153, 2, none⟩) (Kd.N_far (p := ⟨gb153, 1, none⟩) (Kd.N_far (p := ⟨gb153, 0, none⟩) (Kd.N_mono HO_5.out (fun k_ hk => (⟨hk, hk.2⟩ : _ ∧ k_ ≠ gb153))) (fun _ hk => hk.2) (.int .i64 ((rd_T25 l0_4 x13_1).f0))) (fun _ hk => hk.2) (.string ((rd_T25 l0_4 x13_1).f1))) (fun _ hk => hk.2) (.string ((rd_T25 l0_4 x13_1).f2))) (fun _ hk => hk.2) (.slice A152_3 ((rd_T25 l0_4 x13_1).f3).length c152_3)) (fun _ hk => hk.2) (.slice A152_4 ((rd_T25 l0_4 x13_1).f4).length c152_4)) (fun _ hk => ⟨hk.1.1.1, ⟨hk.1.1.2, hk.1.2⟩⟩)⟩
              have n2_ : Aside0 ((((((w13.setCell ⟨gb153, 0, none⟩ (.int .i64 ((rd_T25 l0_4 x13_1).f0))).setCell ⟨gb153, 1, none⟩ (.string ((rd_T25 l0_4 x13_1).f1))).setCell ⟨gb153, 2, none⟩ (.string ((rd_T25 l0_4 x13_1).f2))).setCell ⟨gb153, 3, none⟩ (.slice A152_3 ((rd_T25 l0_4 x13_1).f3).length c152_3)).setCell ⟨gb153, 4, none⟩ (.slice A152_4 ((rd_T25 l0_4 x13_1).f4).length c152_4)).heap[gb148]? = some (.cells #[.int .i64 a0_0, .string a0_1, .string a0_2, .slice A0_3 l0_3.length c0_3, .slice (some ad152) l0_4.length c0_4] 25 (0, 0))) := ⟨by (with_reducible repeat (first | refine blk_drewN ?_ _ | refine blk_drew ?_ | refine blk_alloc ?_ _)); refine blk_far ?_ NB148_153.out _; (with_reducible repeat (first | refine blk_drewN ?_ _ | refine blk_drew ?_ | refine blk_alloc ?_ _)); refine blk_far ?_ NB148_153.out _; (with_reducible repeat (first | refine blk_drewN ?_ _ | refine blk_drew ?_ | refine blk_alloc ?_ _)); refine blk_far ?_ NB148_153.out _; (with_reducible repeat (first | refine blk_drewN ?_ _ | refine blk_drew ?_ | refine blk_alloc ?_ _)); refine blk_far ?_ NB148_153.out _; (with_reducible repeat (first | refine blk_drewN ?_ _ | refine blk_drew ?_ | refine blk_alloc ?_ _)); refine blk_far ?_ NB148_153.out _; (with_reducible repeat (first | refine blk_drewN ?_ _ | refine blk_drew ?_ | refine blk_alloc ?_ _)); exact BK148.out⟩
              have n3_ : Aside0 ((((((w13.setCell ⟨gb153, 0, none⟩ (.int .i64 ((rd_T25 l0_4 x13_1).f0))).setCell ⟨gb153, 1, none⟩ (.string ((rd_T25 l0_4 x13_1).f1))).setCell ⟨gb153, 2, none⟩ (.string ((rd_T25 l0_4 x13_1).f2))).setCell ⟨gb153, 3, none⟩ (.slice A152_3 ((rd_T25 l0_4 x13_1).f3).length c152_3)).setCell ⟨gb153, 4, none⟩ (.slice A152_4 ((rd_T25 l0_4 x13_1).f4).length c152_4)).heap[gb153]? = some (.cells #[.int .i64 ((rd_T25 l0_4 x13_1).f0), .string ((rd_T25 l0_4 x13_1).f1), .string ((rd_T25 l0_4 x13_1).f2), .slice A152_3 ((rd_T25 l0_4 x13_1).f3).length c152_3, .slice A152_4 ((rd_T25 l0_4 x13_1).f4).length c152_4] 25 (0, 0))) := ⟨by (with_reducible repeat (first | refine blk_drewN ?_ _ | refine blk_drew ?_ | refine blk_alloc ?_ _)); refine blk_put (cs := #[.int .i64 ((rd_T25 l0_4 x13_1).f0), .string ((rd_T25 l0_4 x13_1).f1), .string ((rd_T25 l0_4 x13_1).f2), .slice A152_3 ((rd_T25 l0_4 x13_1).f3).length c152_3, .slice none 0 0]) ?_ 4 _ rfl; (with_reducible repeat (first | refine blk_drewN ?_ _ | refine blk_drew ?_ | refine blk_alloc ?_ _)); refine blk_put (cs := #[.int .i64 ((rd_T25 l0_4 x13_1).f0), .string ((rd_T25 l0_4 x13_1).f1), .string ((rd_T25 l0_4 x13_1).f2), .slice none 0 0, .slice none 0 0]) ?_ 3 _ rfl; (with_reducible repeat (first | refine blk_drewN ?_ _ | refine blk_drew ?_ | refine blk_alloc ?_ _)); refine blk_put (cs := #[.int .i64 ((rd_T25 l0_4 x13_1).f0), .string ((rd_T25 l0_4 x13_1).f1), .string (⟨#[]⟩ : ByteArray), .slice none 0 0, .slice none 0 0]) ?_ 2 _ rfl; (with_reducible repeat (first | refine blk_drewN ?_ _ | refine blk_drew ?_ | refine blk_alloc ?_ _)); refine blk_put (cs := #[.int .i64 ((rd_T25 l0_4 x13_1).f0), .string (⟨#[]⟩ : ByteArray), .string (⟨#[]⟩ : ByteArray), .slice none 0 0, .slice none 0 0]) ?_ 1 _ rfl; (with_reducible repeat (first | refine blk_drewN ?_ _ | refine blk_drew ?_ | refine blk_alloc ?_ _)); refine blk_put (cs := #[.int .i64 0, .string (⟨#[]⟩ : ByteArray), .string (⟨#[]⟩ : ByteArray), .slice none 0 0, .slice none 0 0]) ?_ 0 _ rfl; (with_reducible repeat (first | refine blk_drewN ?_ _ | refine blk_drew ?_ | refine blk_alloc ?_ _)); exact BK153.out⟩
              have n4_ : Aside0 (Below w.heap.size w (((((w13.setCell ⟨gb153, 0, none⟩ (.int .i64 ((rd_T25 l0_4 x13_1).f0))).setCell ⟨gb153, 1, none⟩ (.string ((rd_T25 l0_4 x13_1).f1))).setCell ⟨gb153, 2, none⟩ (.string ((rd_T25 l0_4 x13_1).f2))).setCell ⟨gb153, 3, none⟩ (.slice A152_3 ((rd_T25 l0_4 x13_1).f3).length c152_3)).setCell ⟨gb153, 4, none⟩ (.slice A152_4 ((rd_T25 l0_4 x13_1).f4).length c152_4))) := ⟨by repeat (first | (with_reducible first | exact HB.out | apply below_alloc | apply pw_below_drewN | apply below_drew1 | refine below_set ?_ GE148.out | refine below_set ?_ GE153.out) | exact HB.out)⟩
              (try clear HO_1)
              (try clear HO_5)
              (try clear BK148)
              (try clear BK153)
              (try clear HB)
              generalize (((((w13.setCell ⟨gb153, 0, none⟩ (.int .i64 ((rd_T25 l0_4 x13_1).f0))).setCell ⟨gb153, 1, none⟩ (.string ((rd_T25 l0_4 x13_1).f1))).setCell ⟨gb153, 2, none⟩ (.string ((rd_T25 l0_4 x13_1).f2))).setCell ⟨gb153, 3, none⟩ (.slice A152_3 ((rd_T25 l0_4 x13_1).f3).length c152_3)).setCell ⟨gb153, 4, none⟩ (.slice A152_4 ((rd_T25 l0_4 x13_1).f4).length c152_4)) = w16 at n0_ n1_ n2_ n3_ n4_ ⊢
              have HO_1 := n0_
              have HO_5 := n1_
              have BK148 := n2_
              have BK153 := n3_
              have HB := n4_
              clear n0_ n1_ n2_ n3_ n4_
              have n0_ := Aside0.mk (Kd.V_drew HO_1.out)
              have n1_ := Aside0.mk (Kd.N_drew HO_5.out)
              have n2_ := Aside0.mk (blk_drew BK148.out)
              have n3_ := Aside0.mk (blk_drew BK153.out)
              have n4_ := Aside0.mk (below_drew1 HB.out)
              clear HO_1
              clear HO_5
              clear BK148
              clear BK153
              clear HB
              have HO_1 := n0_
              have HO_5 := n1_
              have BK148 := n2_
              have BK153 := n3_
              have HB := n4_
              clear n0_ n1_ n2_ n3_ n4_
              refine start_ (n := 8) (S := fun w' => w'.cell? ⟨gb153, 0, none⟩ = some (.int .i64 ((rd_T25 l0_4 x13_1).f0)) ∧ w'.cell? ⟨gb153, 1, none⟩ = some (.string ((rd_T25 l0_4 x13_1).f1)) ∧ w'.cell? ⟨gb153, 2, none⟩ = some (.string ((rd_T25 l0_4 x13_1).f2)) ∧ w'.cell? ⟨gb153, 3, none⟩ = some (.slice A152_3 ((rd_T25 l0_4 x13_1).f3).length c152_3) ∧ w'.cell? ⟨gb153, 4, none⟩ = some (.slice A152_4 ((rd_T25 l0_4 x13_1).f4).length c152_4)) (ds := []) #[false, false, false, false, false, false, false, false] (by kernel_rfl) rfl rfl ⟨(blk_cell BK153.out 0).trans rfl, (blk_cell BK153.out 1).trans rfl, (blk_cell BK153.out 2).trans rfl, (blk_cell BK153.out 3).trans rfl, (blk_cell BK153.out 4).trans rfl⟩ (fun hHeld => ?_); refine with_tabW spec_Walk29.tab5 spec_Walk29.bits5 (fun HT_ HW_ => ?_)
              generalize w16.drew = w17 at HO_1 HO_5 BK148 BK153 HB hHeld ⊢
              refine pure_ (i := 0) (N := some 18) (v := ?_) (a' := ?_) #[true, false, false, false, false, false, false, false] rfl rfl (any_of HT_.out (by kernel_rfl)) (fun _ _ _ h => h) (Or.inl ⟨by rfl, ?_⟩) ?_ ?_
              rotate_left
              · intro w'
                go_simp
                with_reducible rfl
              rotate_left
              · simp only [Act.put, List.setIfInBounds_toArray, List.set_cons_zero, List.set_cons_succ, i64_w, i32_w]
                rfl
              refine pure_ (i := 2) (N := some 20) (v := ?_) (a' := ?_) #[true, false, true, false, false, false, false, false] rfl rfl (any_of HT_.out (by kernel_rfl)) (fun _ _ _ h => h) (Or.inl ⟨by rfl, ?_⟩) ?_ ?_
              rotate_left
              · intro w'
                go_simp
                with_reducible rfl
              rotate_left
              · simp only [Act.put, List.setIfInBounds_toArray, List.set_cons_zero, List.set_cons_succ, i64_w, i32_w]
                rfl
              refine pure_ (i := 3) (N := some 21) (v := ?_) (a' := ?_) #[true, false, true, true, false, false, false, false] rfl rfl (any_of HT_.out (by kernel_rfl)) (fun _ _ _ h => h) (Or.inl ⟨by rfl, ?_⟩) ?_ ?_
              rotate_left
              · intro w'
                go_simp
                with_reducible rfl
              rotate_left
              · simp only [Act.put, List.setIfInBounds_toArray, List.set_cons_zero, List.set_cons_succ, i64_w, i32_w]
                rfl
              refine take_ (i := 1) (N := some 19) (v := ?_) (a' := ?_) #[true, true, true, true, false, false, false, false] rfl rfl (take_ofW HT_.out HW_.out (by kernel_rfl)) (fun _ _ _ h => h) (Or.inl ⟨by rfl, ?_⟩) hHeld ?_ ?_
              rotate_left
              · rintro w' ⟨s0, s1, s2, s3, s4⟩
                go_simp
                with_reducible rfl
              rotate_left
              · simp only [Act.put, List.setIfInBounds_toArray, List.set_cons_zero, List.set_cons_succ, i64_w, i32_w]
                rfl
              refine one_ (i := 4) (N := some 22) #[true, true, true, true, true, false, false, false] rfl rfl (one_of HT_.out (by kernel_rfl)) (by decide) (fun K hK => ?_)
              refine goes_ Try.func40 (by kernel_rfl) rfl #[.slice A1 l1.length c1, .int .i64 x13_1] (by rfl) rfl rfl (by (try simp only [List.map_toArray, List.map_cons, List.map_nil]); first | done | rfl | (simp only [List.length_drop, List.length_take]; rfl)) ?_
              with_reducible refine (spec_Under29.calls _ _ l1 x13_1 t154 _ ?side1 ?side2 A10.out).mono ?_
              (case side1 => repeat (first | exact (Kd.V_reads' HO_1.out).2.2 | (with_reducible refine Kd.C_alloc ?_ _) | (with_reducible refine Kd.C_drewN ?_ _) | (with_reducible refine Kd.C_drew ?_)))
              (case side2 => exact (Kd.V_reads' HO_1.out).2.1)
              rintro e w18 ⟨v155, rfl, ho0, hb⟩
              refine ⟨_, rfl, ?_⟩
              have n0_ := Aside0.mk (Kd.V_elder' (by (with_reducible repeat (first | apply Kd.V_alloc | apply Kd.V_drewN | apply Kd.V_drew)); exact HO_1.out) (Kd.R_base ho0) hb)
              have n1_ := Aside0.mk (Kd.N_elder' (by (with_reducible repeat (first | apply Kd.N_alloc | apply Kd.N_drewN | apply Kd.N_drew)); exact HO_5.out) (Kd.R_base ho0) hb)
              have n2_ := Aside0.mk (Kd.R_lower (Kd.R_newM (M := fun k_ => (w.heap.size ≤ k_)) ho0 (below_size (by repeat (first | (with_reducible first | exact HB.out | apply below_alloc | apply pw_below_drewN | apply below_drew1 | refine below_set ?_ GE148.out | refine below_set ?_ GE153.out) | exact HB.out))) (fun k_ h_ => h_)) (below_size (by repeat (first | (with_reducible first | exact HB.out | apply below_alloc | apply pw_below_drewN | apply below_drew1 | refine below_set ?_ GE148.out | refine below_set ?_ GE153.out) | exact HB.out))))
              have n3_ := Aside0.mk (blk_below (g := gb148) (o := .cells #[.int .i64 a0_0, .string a0_1, .string a0_2, .slice A0_3 l0_3.length c0_3, .slice (some ad152) l0_4.length c0_4] 25 (0, 0)) (by (with_reducible repeat (first | refine blk_drewN ?_ _ | refine blk_drew ?_ | refine blk_alloc ?_ _)); exact BK148.out) hb)
              have n4_ := Aside0.mk (blk_below (g := gb153) (o := .cells #[.int .i64 ((rd_T25 l0_4 x13_1).f0), .string ((rd_T25 l0_4 x13_1).f1), .string ((rd_T25 l0_4 x13_1).f2), .slice A152_3 ((rd_T25 l0_4 x13_1).f3).length c152_3, .slice A152_4 ((rd_T25 l0_4 x13_1).f4).length c152_4] 25 (0, 0)) (by (with_reducible repeat (first | refine blk_drewN ?_ _ | refine blk_drew ?_ | refine blk_alloc ?_ _)); exact BK153.out) hb)
              have n5_ := Aside0.mk (below_step (by repeat (first | (with_reducible first | exact HB.out | apply below_alloc | apply pw_below_drewN | apply below_drew1 | refine below_set ?_ GE148.out | refine below_set ?_ GE153.out) | exact HB.out)) hb)
              clear HO_1
              clear HO_5
              clear BK148
              clear BK153
              clear HB
              have HO_1 := n0_
              have HO_5 := n1_
              have HO156 := n2_
              have BK148 := n3_
              have BK153 := n4_
              have HB := n5_
              clear n0_ n1_ n2_ n3_ n4_ n5_
              (try clear hb)
              (try clear hb2)
              (try clear hk)
              (try clear hi)
              (try clear ho0)
              obtain ⟨Ao19, co19, eo19⟩ := Kd.R_slice HO156.out
              (first | subst eo19 | (injection eo19 with f1_ f2_ f3_; have f4_ := f1_.symm; have f5_ := f3_.symm; clear f1_ f2_ f3_; subst f4_; subst f5_))
              refine hK.out _ _ ⟨(blk_cell BK153.out 0).trans rfl, (blk_cell BK153.out 1).trans rfl, (blk_cell BK153.out 2).trans rfl, (blk_cell BK153.out 3).trans rfl, (blk_cell BK153.out 4).trans rfl⟩ (fun hHeld => ?_)
              clear hK K
              refine norm_ (a' := ?_) ?_ ?_
              rotate_left
              · show Act.put _ (some 22) _ = _
                simp only [Act.put, List.setIfInBounds_toArray, List.set_cons_zero, List.set_cons_succ, i64_w, i32_w]
                rfl
              refine one_ (i := 5) (N := some 23) #[true, true, true, true, true, true, false, false] rfl rfl (one_of HT_.out (by kernel_rfl)) (by decide) (fun K hK => ?_)
              refine goes_ Try.func14 (by kernel_rfl) rfl #[.agg #[.int .i64 ((rd_T25 l0_4 x13_1).f0), .string ((rd_T25 l0_4 x13_1).f1), .string ((rd_T25 l0_4 x13_1).f2), .slice A152_3 ((rd_T25 l0_4 x13_1).f3).length c152_3, .slice A152_4 ((rd_T25 l0_4 x13_1).f4).length c152_4], .slice Ao19 t154.length co19] (by rfl) rfl rfl (by (try simp only [List.map_toArray, List.map_cons, List.map_nil]); first | done | rfl | (simp only [List.length_drop, List.length_take]; rfl)) ?_
              with_reducible refine (ih k1 (by have := HK1.out; omega) ((rd_T25 l0_4 x13_1).f0) ((rd_T25 l0_4 x13_1).f1) ((rd_T25 l0_4 x13_1).f2) _ _ ((rd_T25 l0_4 x13_1).f3) _ _ ((rd_T25 l0_4 x13_1).f4) (fun k_ => some k_ = (.slice Ao19 t154.length co19 : Value).ownBlock) _ _ t154 t157 _ ?side1 ?side2 ?side3 ?side4 ?side5 A11.out).mono ?_
              (case side1 => repeat (first | exact (Kd.C_below HR152_3.out HB.out) | (with_reducible refine Kd.C_alloc ?_ _) | (with_reducible refine Kd.C_drewN ?_ _) | (with_reducible refine Kd.C_drew ?_)))
              (case side2 => exact HC152_3.out)
              (case side3 => repeat (first | exact (Kd.C_below HR152_4.out HB.out) | (with_reducible refine Kd.C_alloc ?_ _) | (with_reducible refine Kd.C_drewN ?_ _) | (with_reducible refine Kd.C_drew ?_)))
              (case side4 => exact HC152_4.out)
              (case side5 => exact Kd.R_V (Kd.R_tight rfl (Kd.R_types (Kd.R_types (Kd.R_apart' (HO156.out) (Kd.N_typed HO_5.out) (by decide)) BK148.out (by decide)) BK153.out (by decide))))
              rintro e w20 ⟨v158, rfl, ho0, hb⟩
              refine ⟨_, rfl, ?_⟩
              have n0_ := Aside0.mk (Kd.V_elder' (by (with_reducible repeat (first | apply Kd.V_alloc | apply Kd.V_drewN | apply Kd.V_drew)); exact HO_1.out) (Kd.N_base ho0) hb)
              have n1_ := Aside0.mk (Kd.N_elder' (by (with_reducible repeat (first | apply Kd.N_alloc | apply Kd.N_drewN | apply Kd.N_drew)); exact HO_5.out) (Kd.N_base ho0) hb)
              have n2_ := Aside0.mk (Kd.R_below (by (with_reducible repeat (first | apply Kd.R_alloc | apply Kd.R_drewN | apply Kd.R_drew)); exact HO156.out) hb)
              have n3_ := Aside0.mk (Kd.N_lower (Kd.N_mono (ok' := fun k_ => (P1_ k_ ∨ w.heap.size ≤ k_) ∧ some k_ ≠ (u5 : Value).ownBlock ∧ k_ ≠ gb148 ∧ k_ ≠ gb153) ho0 (fun k_ hk_ => ⟨Or.elim hk_ (fun hs_ => (.inr (((Kd.R_types (Kd.R_types (Kd.R_apart' (HO156.out) (Kd.N_typed HO_5.out) (by decide)) BK148.out (by decide)) BK153.out (by decide)).1 k_ hs_.symm).1.1.1.1))) (fun hn_ => (.inr (Nat.le_trans (below_size (by repeat (first | (with_reducible first | exact HB.out | apply below_alloc | apply pw_below_drewN | apply below_drew1 | refine below_set ?_ GE148.out | refine below_set ?_ GE153.out) | exact HB.out))) hn_))), Or.elim hk_ (fun hs_ => ((Kd.R_types (Kd.R_types (Kd.R_apart' (HO156.out) (Kd.N_typed HO_5.out) (by decide)) BK148.out (by decide)) BK153.out (by decide)).1 k_ hs_.symm).1.1.2) (fun hn_ => (Kd.fresh' (Kd.N_lt (by (with_reducible repeat (first | apply Kd.N_alloc | apply Kd.N_drewN | apply Kd.N_drew)); exact HO_5.out)) k_ hn_)), Or.elim hk_ (fun hs_ => ((Kd.R_types (Kd.R_types (Kd.R_apart' (HO156.out) (Kd.N_typed HO_5.out) (by decide)) BK148.out (by decide)) BK153.out (by decide)).1 k_ hs_.symm).1.2) (fun hn_ => (Kd.freshB (g := gb148) (o := .cells #[.int .i64 a0_0, .string a0_1, .string a0_2, .slice A0_3 l0_3.length c0_3, .slice (some ad152) l0_4.length c0_4] 25 (0, 0)) (by (with_reducible repeat (first | refine blk_drewN ?_ _ | refine blk_drew ?_ | refine blk_alloc ?_ _)); exact BK148.out) k_ hn_)), Or.elim hk_ (fun hs_ => ((Kd.R_types (Kd.R_types (Kd.R_apart' (HO156.out) (Kd.N_typed HO_5.out) (by decide)) BK148.out (by decide)) BK153.out (by decide)).1 k_ hs_.symm).2) (fun hn_ => (Kd.freshB (g := gb153) (o := .cells #[.int .i64 ((rd_T25 l0_4 x13_1).f0), .string ((rd_T25 l0_4 x13_1).f1), .string ((rd_T25 l0_4 x13_1).f2), .slice A152_3 ((rd_T25 l0_4 x13_1).f3).length c152_3, .slice A152_4 ((rd_T25 l0_4 x13_1).f4).length c152_4] 25 (0, 0)) (by (with_reducible repeat (first | refine blk_drewN ?_ _ | refine blk_drew ?_ | refine blk_alloc ?_ _)); exact BK153.out) k_ hn_))⟩)) (below_size (by repeat (first | (with_reducible first | exact HB.out | apply below_alloc | apply pw_below_drewN | apply below_drew1 | refine below_set ?_ GE148.out | refine below_set ?_ GE153.out) | exact HB.out))))
              have n4_ := Aside0.mk (blk_below (g := gb148) (o := .cells #[.int .i64 a0_0, .string a0_1, .string a0_2, .slice A0_3 l0_3.length c0_3, .slice (some ad152) l0_4.length c0_4] 25 (0, 0)) (by (with_reducible repeat (first | refine blk_drewN ?_ _ | refine blk_drew ?_ | refine blk_alloc ?_ _)); exact BK148.out) hb)
              have n5_ := Aside0.mk (blk_below (g := gb153) (o := .cells #[.int .i64 ((rd_T25 l0_4 x13_1).f0), .string ((rd_T25 l0_4 x13_1).f1), .string ((rd_T25 l0_4 x13_1).f2), .slice A152_3 ((rd_T25 l0_4 x13_1).f3).length c152_3, .slice A152_4 ((rd_T25 l0_4 x13_1).f4).length c152_4] 25 (0, 0)) (by (with_reducible repeat (first | refine blk_drewN ?_ _ | refine blk_drew ?_ | refine blk_alloc ?_ _)); exact BK153.out) hb)
              have n6_ := Aside0.mk (below_step (by repeat (first | (with_reducible first | exact HB.out | apply below_alloc | apply pw_below_drewN | apply below_drew1 | refine below_set ?_ GE148.out | refine below_set ?_ GE153.out) | exact HB.out)) hb)
              clear HO_1
              clear HO_5
              clear HO156
              clear BK148
              clear BK153
              clear HB
              have HO_1 := n0_
              have HO_5 := n1_
              have HO156 := n2_
              have HO159 := n3_
              have BK148 := n4_
              have BK153 := n5_
              have HB := n6_
              clear n0_ n1_ n2_ n3_ n4_ n5_ n6_
              (try clear hb)
              (try clear hb2)
              (try clear hk)
              (try clear hi)
              (try clear ho0)
              obtain ⟨Ao22, co22, eo22⟩ := Kd.N_slice HO159.out
              (first | subst eo22 | (injection eo22 with f1_ f2_ f3_; have f4_ := f1_.symm; have f5_ := f3_.symm; clear f1_ f2_ f3_; subst f4_; subst f5_))
              refine hK.out _ _ ⟨(blk_cell BK153.out 0).trans rfl, (blk_cell BK153.out 1).trans rfl, (blk_cell BK153.out 2).trans rfl, (blk_cell BK153.out 3).trans rfl, (blk_cell BK153.out 4).trans rfl⟩ (fun hHeld => ?_)
              clear hK K
              refine norm_ (a' := ?_) ?_ ?_
              rotate_left
              · show Act.put _ (some 23) _ = _
                simp only [Act.put, List.setIfInBounds_toArray, List.set_cons_zero, List.set_cons_succ, i64_w, i32_w]
                rfl
              refine one_ (i := 6) (N := some 24) #[true, true, true, true, true, true, true, false] rfl rfl (one_of HT_.out (by kernel_rfl)) (by decide) (fun K hK => ?_)
              refine Kd.N_append_rows_step (Kd.slice 3 (Kd.int .i64)) (w0 := w) w.heap.size (by rfl) (.tmp 18) (.tmp 23) 29 32 (.slice none 0 0) 24 rfl Try.underlying29 info32 rfl (by decide) (by omega) u5 x5_1 t157 _ _ _ (fun k_ => (P1_ k_ ∨ w.heap.size ≤ k_) ∧ k_ ≠ gb148 ∧ k_ ≠ gb153) (fun k_ => ((fun k_ => (P1_ k_ ∨ w.heap.size ≤ k_) ∧ k_ ≠ gb148 ∧ k_ ≠ gb153)) k_ ∧ some k_ ≠ (u5 : Value).ownBlock) rfl rfl ?aO ?aR (fun _ hk => hk) ?aF ?aB ?aS ?aL ?_
              (case aR => exact (by skip; exact Kd.N_F (Kd.N_mono (ok' := (fun k_ => ((fun k_ => (P1_ k_ ∨ w.heap.size ≤ k_) ∧ k_ ≠ gb148 ∧ k_ ≠ gb153)) k_ ∧ some k_ ≠ (u5 : Value).ownBlock)) (HO159.out) (fun k_ hk => ⟨⟨hk.1, ⟨hk.2.2.1, hk.2.2.2⟩⟩, hk.2.1⟩))))
              (case aB => exact (by repeat (first | (with_reducible first | exact HB.out | apply below_alloc | apply pw_below_drewN | apply below_drew1 | refine below_set ?_ GE148.out | refine below_set ?_ GE153.out) | exact HB.out)))
              (case aF => exact (fun k_ hk => ⟨(.inr (Nat.le_trans (below_size (by repeat (first | (with_reducible first | exact HB.out | apply below_alloc | apply pw_below_drewN | apply below_drew1 | refine below_set ?_ GE148.out | refine below_set ?_ GE153.out) | exact HB.out))) hk)), Kd.freshB (g := gb148) (o := .cells #[.int .i64 a0_0, .string a0_1, .string a0_2, .slice A0_3 l0_3.length c0_3, .slice (some ad152) l0_4.length c0_4] 25 (0, 0)) (by (with_reducible repeat (first | refine blk_drewN ?_ _ | refine blk_drew ?_ | refine blk_alloc ?_ _)); exact BK148.out) k_ hk, Kd.freshB (g := gb153) (o := .cells #[.int .i64 ((rd_T25 l0_4 x13_1).f0), .string ((rd_T25 l0_4 x13_1).f1), .string ((rd_T25 l0_4 x13_1).f2), .slice A152_3 ((rd_T25 l0_4 x13_1).f3).length c152_3, .slice A152_4 ((rd_T25 l0_4 x13_1).f4).length c152_4] 25 (0, 0)) (by (with_reducible repeat (first | refine blk_drewN ?_ _ | refine blk_drew ?_ | refine blk_alloc ?_ _)); exact BK153.out) k_ hk⟩))
              (case aO => exact (by (with_reducible repeat (first | apply Kd.N_alloc | apply Kd.N_drewN | apply Kd.N_drew)); exact Kd.N_mono HO_5.out (fun _ hk => ⟨hk.1.1.1, ⟨hk.1.1.2.1, hk.1.1.2.2⟩⟩)))
              (case aS => exact (below_size (by repeat (first | (with_reducible first | exact HB.out | apply below_alloc | apply pw_below_drewN | apply below_drew1 | refine below_set ?_ GE148.out | refine below_set ?_ GE153.out) | exact HB.out))))
              (case aL => have := LMc12.out; omega)
              intro v161 w21 ho hb hg hat
              rw [← Ny160.out] at ho
              have n0_ := Aside0.mk (Kd.V_afterv (ok := (fun k_ => (P1_ k_ ∨ w.heap.size ≤ k_) ∧ some k_ ≠ (.slice Ao19 t154.length co19 : Value).ownBlock ∧ some k_ ≠ (.slice Ao22 t157.length co22 : Value).ownBlock ∧ k_ ≠ gb148 ∧ k_ ≠ gb153)) (by (with_reducible repeat (first | apply Kd.V_alloc | apply Kd.V_drewN | apply Kd.V_drew)); exact Kd.V_mono HO_1.out (fun _ hk => ⟨⟨hk.1.1.1, ⟨hk.1.2, ⟨hk.2, ⟨hk.1.1.2.2.1, hk.1.1.2.2.2⟩⟩⟩⟩, hk.1.1.2.1⟩)) hg hat)
              have n1_ := Aside0.mk (blk_grown (g := gb148) (o := .cells #[.int .i64 a0_0, .string a0_1, .string a0_2, .slice A0_3 l0_3.length c0_3, .slice (some ad152) l0_4.length c0_4] 25 (0, 0)) (by (with_reducible repeat (first | refine blk_drewN ?_ _ | refine blk_drew ?_ | refine blk_alloc ?_ _)); exact BK148.out) hg (Kd.N_ne HO_5.out BK148.out (by decide)))
              have n2_ := Aside0.mk (blk_grown (g := gb153) (o := .cells #[.int .i64 ((rd_T25 l0_4 x13_1).f0), .string ((rd_T25 l0_4 x13_1).f1), .string ((rd_T25 l0_4 x13_1).f2), .slice A152_3 ((rd_T25 l0_4 x13_1).f3).length c152_3, .slice A152_4 ((rd_T25 l0_4 x13_1).f4).length c152_4] 25 (0, 0)) (by (with_reducible repeat (first | refine blk_drewN ?_ _ | refine blk_drew ?_ | refine blk_alloc ?_ _)); exact BK153.out) hg (Kd.N_ne HO_5.out BK153.out (by decide)))
              have n3_ := Aside0.mk (Kd.R_over' (by (with_reducible repeat (first | apply Kd.R_alloc | apply Kd.R_drewN | apply Kd.R_drew)); exact HO156.out) (Kd.N_typed (by (with_reducible repeat (first | apply Kd.N_alloc | apply Kd.N_drewN | apply Kd.N_drew)); exact HO_5.out)) (by decide) hg)
              have n4_ := Aside0.mk (Kd.N_afterv (ok := (fun k_ => (P1_ k_ ∨ w.heap.size ≤ k_) ∧ k_ ≠ gb148 ∧ k_ ≠ gb153)) (by (with_reducible repeat (first | apply Kd.N_alloc | apply Kd.N_drewN | apply Kd.N_drew)); exact Kd.N_mono HO159.out (fun _ hk => ⟨⟨hk.1, ⟨hk.2.2.1, hk.2.2.2⟩⟩, hk.2.1⟩)) hg hat)
              have n5_ := Aside0.mk (hb)
              have n6_ := Aside0.mk (ho)
              clear HO_1
              clear BK148
              clear BK153
              clear HO156
              clear HO159
              clear HB
              clear HO_5
              have HO_1 := n0_
              have BK148 := n1_
              have BK153 := n2_
              have HO156 := n3_
              have HO159 := n4_
              have HB := n5_
              have HO162 := n6_
              clear n0_ n1_ n2_ n3_ n4_ n5_ n6_
              clear ho hb hg hat
              refine hK.out _ _ ⟨(blk_cell BK153.out 0).trans rfl, (blk_cell BK153.out 1).trans rfl, (blk_cell BK153.out 2).trans rfl, (blk_cell BK153.out 3).trans rfl, (blk_cell BK153.out 4).trans rfl⟩ (fun hHeld => ?_)
              clear hK K
              refine norm_ (a' := ?_) ?_ ?_
              rotate_left
              · show Act.put _ (some 24) _ = _
                simp only [Act.put, List.setIfInBounds_toArray, List.set_cons_zero, List.set_cons_succ, i64_w, i32_w]
                rfl
              refine pure_ (i := 7) (N := some 5) (v := ?_) (a' := ?_) #[true, true, true, true, true, true, true, true] rfl rfl (any_of HT_.out (by kernel_rfl)) (fun _ _ _ h => h) (Or.inl ⟨by rfl, ?_⟩) ?_ ?_
              rotate_left
              · intro w'
                go_simp
                with_reducible rfl
              rotate_left
              · simp only [Act.put, List.setIfInBounds_toArray, List.set_cons_zero, List.set_cons_succ, i64_w, i32_w]
                rfl
              refine done_ (done_of HT_.out (by kernel_rfl)) ?_
              try go_wp2
              go_roundg k1
              case measure => have := HK1.out; omega
              case rel => exact ⟨(y160), (wrap64 (x13_1 + 1)), (by first | rfl | (simp; done) | (simp [*]; done)), H', ⟨by have := HK1.out; omega⟩, ⟨by (with_reducible repeat (first | apply Kd.V_alloc | apply Kd.V_drewN | apply Kd.V_drew)); exact Kd.V_mono HO_1.out (fun _ hk => ⟨hk.1.1, ⟨hk.2, hk.1.2.2.2.1⟩⟩)⟩, ⟨by (with_reducible repeat (first | apply Kd.N_alloc | apply Kd.N_drewN | apply Kd.N_drew)); exact Kd.N_mono HO162.out (fun _ hk => ⟨hk.1, hk.2.1⟩)⟩, ⟨by (with_reducible repeat (first | refine blk_drewN ?_ _ | refine blk_drew ?_ | refine blk_alloc ?_ _)); exact BK148.out⟩, ⟨by repeat (first | (with_reducible first | exact HB.out | apply below_alloc | apply pw_below_drewN | apply below_drew1 | refine below_set ?_ GE148.out | refine below_set ?_ GE153.out) | exact HB.out)⟩⟩
            · rw [if_neg c12] at H
              exact absurd H (by simp)
          · rw [if_neg c9] at H
            exact absurd H (by simp)
        · rw [if_neg c8] at H
          exact absurd H (by simp)
      · rw [if_neg c7] at H
        have c7b0 : decide (x13_1 < (l0_4.length : Int)) = false := decide_eq_false c7
        clear c7
        obtain rfl := Option.some.inj H
        go_wp2
        go_ret
        exact ⟨_, by first | rfl | (simp [errW_none, errW_some] <;> rfl) | (simp [*, errW_none, errW_some] <;> rfl), by (with_reducible repeat (first | apply Kd.N_alloc | apply Kd.N_drewN | apply Kd.N_drew)); exact Kd.N_mono HO_5.out (fun _ hk => hk.1), by repeat (first | (with_reducible first | exact HB.out | apply below_alloc | apply pw_below_drewN | apply below_drew1 | refine below_set ?_ GE148.out) | exact HB.out)⟩

-- NOT PRINTED: function 4 (laws_FnDomAll)

/-! ### laws_zzFits5: function 15 -/
def laws_zzFits5.l0 : Nat → List ByteArray → Int → Int → Option (Bool)
  | 0, _, _, _ => none
  | k + 1, x8, x9, x10 => if x10 < x9 then (if 0 ≤ x10 then (if x10 < (x8.length : Int) then (if ((rdOf ByteArray.empty x8 x10).size : Int) > 2147483647 then (some false) else (laws_zzFits5.l0 k x8 x9 (wrap64 (x10 + 1)))) else (none)) else (none)) else (some true)
def laws_zzFits5.f (k : Nat) (l0 : List ByteArray) : Option (Bool) := if (l0.length : Int) > 2147483647 then (some false) else (laws_zzFits5.l0 k l0 (l0.length : Int) 0)
theorem laws_zzFits5.mono_l : ∀ k, (∀ y0 y1 y2, LeO (laws_zzFits5.l0 k y0 y1 y2) (laws_zzFits5.l0 (k + 1) y0 y1 y2))
  | 0 => fun _ _ _ r h => by simp [laws_zzFits5.l0] at h
  | k + 1 => by
    have ih0 := laws_zzFits5.mono_l k
    · intro y0 y1 y2
      unfold laws_zzFits5.l0
      repeat' first
      | (with_reducible exact ih0 _ _ _)
      | (with_reducible exact LeO.refl _)
      | (with_reducible exact LeO.none _)
      | (with_reducible refine LeO.ite ?_ ?_)
      | (with_reducible refine LeO.bind ?_ (fun _ => ?_))
      | exact ih0 _ _ _
      | exact LeO.none _
      | refine LeO.ite ?_ ?_
      | refine LeO.bind ?_ (fun _ => ?_)
theorem laws_zzFits5.mono : ∀ a0 k, LeO (laws_zzFits5.f k a0) (laws_zzFits5.f (k + 1) a0) := by
  intro a0 k
  have ih0 := laws_zzFits5.mono_l k
  unfold laws_zzFits5.f
  repeat' first
      | (with_reducible exact ih0 _ _ _)
      | (with_reducible exact LeO.refl _)
      | (with_reducible exact LeO.none _)
      | (with_reducible refine LeO.ite ?_ ?_)
      | (with_reducible refine LeO.bind ?_ (fun _ => ?_))
      | exact ih0 _ _ _
      | exact LeO.none _
      | refine LeO.ite ?_ ?_
      | refine LeO.bind ?_ (fun _ => ?_)
set_option maxHeartbeats 8000000 in
set_option maxRecDepth 100000 in
theorem laws_zzFits5.calls (k : Nat) (A0 : Option Addr) (c0 : Nat) (l0 : List ByteArray) (r : Bool) (w : World) (hr0 : Kd.C Kd.string w A0 l0.length l0) (hc0 : l0.length ≤ c0) (h : laws_zzFits5.f k l0 = some r) :
    Calls Try.prog 15 #[.slice A0 l0.length c0] w fun e w' => e = .returned (.bool r) ∧ Drawn0 w w' := by
  have HR0 := Aside0.mk hr0
  have HC0 := Aside0.mk hc0
  clear hr0 hc0
  have H : (if (l0.length : Int) > 2147483647 then (some false) else (laws_zzFits5.l0 k l0 (l0.length : Int) 0)) = some r := h
  clear h
  by_cases c2 : (l0.length : Int) > 2147483647
  · rw [if_pos c2] at H
    have c2b0 : decide (2147483647 < (l0.length : Int)) = true := decide_eq_true c2
    have c2b1 : decide (2147483647 < l0.length) = true := decide_eq_true (by omega)
    clear c2
    obtain rfl := Option.some.inj H
    go_enter Try.func15, Try.ntmps15
    go_wp2
    go_ret
    exact ⟨by first | rfl | (simp; done) | (simp [*]; done), by repeat (first | exact Drawn0.refl _ | apply Drawn0.step)⟩
  · rw [if_neg c2] at H
    have c2b0 : decide (2147483647 < (l0.length : Int)) = false := decide_eq_false c2
    have c2b1 : decide (2147483647 < l0.length) = false := decide_eq_false (by omega)
    clear c2
    have H' := Aside0.mk H
    clear H
    go_enter Try.func15, Try.ntmps15
    go_wp2
    go_loopg [10] k (fun kq v10 w' => ∃ (x10_1 : Int), v10 = .int .i64 x10_1 ∧ Aside0 (laws_zzFits5.l0 kq l0 (l0.length : Int) x10_1 = some r) ∧ Aside0 (kq ≤ k) ∧ Drawn0 w w')
    case atStart => exact ⟨(0), (by first | rfl | (simp; done) | (simp [*]; done)), H', ⟨Nat.le_refl _⟩, by repeat (first | exact Drawn0.refl _ | apply Drawn0.step)⟩
    case round =>
      clear H'
      try clear c1
      try clear c2
      try clear c2b0
      try clear c2b1
      try clear p2
      obtain ⟨x10_1, rfl, HA, HK1, ⟨m1, rfl⟩⟩ := hrel
      cases gk with
      | zero => exact absurd HA.out (by simp [laws_zzFits5.l0])
      | succ k1 =>
        have H := HA.out
        clear HA
        simp only [laws_zzFits5.l0] at H
        by_cases c3 : x10_1 < (l0.length : Int)
        · rw [if_pos c3] at H
          have c3b0 : decide (x10_1 < (l0.length : Int)) = true := decide_eq_true c3
          clear c3
          by_cases c4 : 0 ≤ x10_1
          · rw [if_pos c4] at H
            have c4b0 : decide (0 ≤ x10_1) = true := decide_eq_true c4
            clear c4
            by_cases c5 : x10_1 < (l0.length : Int)
            · rw [if_pos c5] at H
              have c5b0 : decide (x10_1 < (l0.length : Int)) = true := decide_eq_true c5
              clear c5
              by_cases c6 : ((rdOf ByteArray.empty l0 x10_1).size : Int) > 2147483647
              · rw [if_pos c6] at H
                have c6b0 : decide (2147483647 < ((rdOf ByteArray.empty l0 x10_1).size : Int)) = true := decide_eq_true c6
                have c6b1 : decide (2147483647 < (rdOf ByteArray.empty l0 x10_1).size) = true := decide_eq_true (by omega)
                clear c6
                obtain rfl := Option.some.inj H
                have p166 : 0 ≤ (x10_1 : Int) := of_decide_eq_true (by first | (with_reducible assumption) | assumption)
                have q166 : x10_1 < (l0.length : Int) := of_decide_eq_true (by first | (with_reducible assumption) | assumption)
                obtain ⟨ad166, e166, hx166_0⟩ := Kd.at_string HR0.out x10_1 p166 q166
                cases e166
                replace p166 := eq_true p166
                replace q166 := eq_true q166
                go_wp2
                go_ret
                exact ⟨by first | rfl | (simp; done) | (simp [*]; done), by repeat (first | exact Drawn0.refl _ | apply Drawn0.step)⟩
              · rw [if_neg c6] at H
                have c6b0 : decide (2147483647 < ((rdOf ByteArray.empty l0 x10_1).size : Int)) = false := decide_eq_false c6
                have c6b1 : decide (2147483647 < (rdOf ByteArray.empty l0 x10_1).size) = false := decide_eq_false (by omega)
                clear c6
                have H' := Aside0.mk H
                clear H
                have p166 : 0 ≤ (x10_1 : Int) := of_decide_eq_true (by first | (with_reducible assumption) | assumption)
                have q166 : x10_1 < (l0.length : Int) := of_decide_eq_true (by first | (with_reducible assumption) | assumption)
                obtain ⟨ad166, e166, hx166_0⟩ := Kd.at_string HR0.out x10_1 p166 q166
                cases e166
                replace p166 := eq_true p166
                replace q166 := eq_true q166
                go_wp2
                go_roundg k1
                case measure => have := HK1.out; omega
                case rel => exact ⟨(wrap64 (x10_1 + 1)), (by first | rfl | (simp; done) | (simp [*]; done)), H', ⟨by have := HK1.out; omega⟩, by repeat (first | exact Drawn0.refl _ | apply Drawn0.step)⟩
            · rw [if_neg c5] at H
              exact absurd H (by simp)
          · rw [if_neg c4] at H
            exact absurd H (by simp)
        · rw [if_neg c3] at H
          have c3b0 : decide (x10_1 < (l0.length : Int)) = false := decide_eq_false c3
          clear c3
          obtain rfl := Option.some.inj H
          go_wp2
          go_ret
          exact ⟨by first | rfl | (simp; done) | (simp [*]; done), by repeat (first | exact Drawn0.refl _ | apply Drawn0.step)⟩

/-! ### spec_At29: function 17 -/
def spec_At29.l0 : Nat → List Int → Int → Int → Int → ByteArray → ByteArray → List (S78) → List (S25) → Option (Int × ByteArray × ByteArray × (List (S78)) × (List (S25)) × Bool)
  | 0, _, _, _, _, _, _, _, _ => none
  | k + 1, x8, x9, x10, x168000, x168001, x168002, x168003, x168004 => if x10 < x9 then (if 0 ≤ x10 then (if x10 < (x8.length : Int) then (if (rd x8 x10) < 0 then (some (0, (⟨#[]⟩ : ByteArray), (⟨#[]⟩ : ByteArray), ([] : List (S78)), ([] : List (S25)), false)) else (if (rd x8 x10) ≥ (x168004.length : Int) then (some (0, (⟨#[]⟩ : ByteArray), (⟨#[]⟩ : ByteArray), ([] : List (S78)), ([] : List (S25)), false)) else (if 0 ≤ (rd x8 x10) then (if (rd x8 x10) < (x168004.length : Int) then (spec_At29.l0 k x8 x9 (wrap64 (x10 + 1)) ((rd_T25 x168004 (rd x8 x10)).f0) ((rd_T25 x168004 (rd x8 x10)).f1) ((rd_T25 x168004 (rd x8 x10)).f2) ((rd_T25 x168004 (rd x8 x10)).f3) ((rd_T25 x168004 (rd x8 x10)).f4)) else (none)) else (none)))) else (none)) else (none)) else (some (x168000, x168001, x168002, x168003, x168004, true))
def spec_At29.f (k : Nat) (a0_0 : Int) (a0_1 : ByteArray) (a0_2 : ByteArray) (l0_3 : List (S78)) (l0_4 : List (S25)) (l1 : List Int) : Option (Int × ByteArray × ByteArray × (List (S78)) × (List (S25)) × Bool) := spec_At29.l0 k l1 (l1.length : Int) 0 a0_0 a0_1 a0_2 l0_3 l0_4
theorem spec_At29.mono_l : ∀ k, (∀ y0 y1 y2 y3 y4 y5 y6 y7, LeO (spec_At29.l0 k y0 y1 y2 y3 y4 y5 y6 y7) (spec_At29.l0 (k + 1) y0 y1 y2 y3 y4 y5 y6 y7))
  | 0 => fun _ _ _ _ _ _ _ _ r h => by simp [spec_At29.l0] at h
  | k + 1 => by
    have ih0 := spec_At29.mono_l k
    · intro y0 y1 y2 y3 y4 y5 y6 y7
      unfold spec_At29.l0
      repeat' first
      | (with_reducible exact ih0 _ _ _ _ _ _ _ _)
      | (with_reducible exact LeO.refl _)
      | (with_reducible exact LeO.none _)
      | (with_reducible refine LeO.ite ?_ ?_)
      | (with_reducible refine LeO.bind ?_ (fun _ => ?_))
      | exact ih0 _ _ _ _ _ _ _ _
      | exact LeO.none _
      | refine LeO.ite ?_ ?_
      | refine LeO.bind ?_ (fun _ => ?_)
theorem spec_At29.mono : ∀ a0 a1 a2 a3 a4 a5 k, LeO (spec_At29.f k a0 a1 a2 a3 a4 a5) (spec_At29.f (k + 1) a0 a1 a2 a3 a4 a5) := by
  intro a0 a1 a2 a3 a4 a5 k
  have ih0 := spec_At29.mono_l k
  unfold spec_At29.f
  repeat' first
      | (with_reducible exact ih0 _ _ _ _ _ _ _ _)
      | (with_reducible exact LeO.refl _)
      | (with_reducible exact LeO.none _)
      | (with_reducible refine LeO.ite ?_ ?_)
      | (with_reducible refine LeO.bind ?_ (fun _ => ?_))
      | exact ih0 _ _ _ _ _ _ _ _
      | exact LeO.none _
      | refine LeO.ite ?_ ?_
      | refine LeO.bind ?_ (fun _ => ?_)
set_option maxHeartbeats 8000000 in
set_option maxRecDepth 100000 in
theorem spec_At29.calls (k : Nat) (a0_0 : Int) (a0_1 : ByteArray) (a0_2 : ByteArray) (P0_3_ : Nat → Prop) (A0_3 : Option Addr) (c0_3 : Nat) (l0_3 : List (S78)) (P0_4_ : Nat → Prop) (A0_4 : Option Addr) (c0_4 : Nat) (l0_4 : List (S25)) (A1 : Option Addr) (c1 : Nat) (l1 : List Int) (r1 : Int) (r2 : ByteArray) (r3 : ByteArray) (r4 : List (S78)) (r5 : List (S25)) (r6 : Bool) (w : World) (hs0_3 : Kd.V k78 78 w w.heap.size (fun k_ => P0_3_ k_) (.slice A0_3 l0_3.length c0_3) l0_3) (hs0_4 : Kd.V k25 25 w w.heap.size (fun k_ => P0_4_ k_) (.slice A0_4 l0_4.length c0_4) l0_4) (hr1 : Kd.C (Kd.int .i64) w A1 l1.length l1) (hc1 : l1.length ≤ c1) (h : spec_At29.f k a0_0 a0_1 a0_2 l0_3 l0_4 l1 = some (r1, r2, r3, r4, r5, r6)) :
    Calls Try.prog 17 #[.agg #[.int .i64 a0_0, .string a0_1, .string a0_2, .slice A0_3 l0_3.length c0_3, .slice A0_4 l0_4.length c0_4], .slice A1 l1.length c1] w fun e w' => ∃ v3_ v4_ : Value, e = .returned (.tuple #[.agg #[.int .i64 r1, .string r2, .string r3, v3_, v4_], .bool r6]) ∧ Kd.V k78 78 w' w.heap.size (fun k_ => ((P0_3_ k_ ∨ P0_4_ k_) ∨ w.heap.size ≤ k_)) v3_ r4 ∧ Kd.V k25 25 w' w.heap.size (fun k_ => ((P0_3_ k_ ∨ P0_4_ k_) ∨ w.heap.size ≤ k_)) v4_ r5 ∧ Below w.heap.size w w' := by
  have hu25 := Try.underlying25
  have HO0_3 := Aside0.mk (show Kd.V k78 78 w w.heap.size (fun k_ => ((P0_3_ k_ ∨ P0_4_ k_) ∨ w.heap.size ≤ k_)) (.slice A0_3 l0_3.length c0_3) l0_3 from Kd.V_mono hs0_3 (fun k_ hk => .inl (.inl hk)))
  have HO0_4 := Aside0.mk (show Kd.V k25 25 w w.heap.size (fun k_ => ((P0_3_ k_ ∨ P0_4_ k_) ∨ w.heap.size ≤ k_)) (.slice A0_4 l0_4.length c0_4) l0_4 from Kd.V_mono hs0_4 (fun k_ hk => .inl (.inr hk)))
  have HR1 := Aside0.mk hr1
  have HC1 := Aside0.mk hc1
  clear hr1 hc1
  have HB := Aside0.mk (Below.refl w.heap.size w)
  have H : (spec_At29.l0 k l1 (l1.length : Int) 0 a0_0 a0_1 a0_2 l0_3 l0_4) = some (r1, r2, r3, r4, r5, r6) := h
  clear h
  have H' := Aside0.mk H
  clear H
  go_enter Try.func17, Try.ntmps17
  go_wp2_with (first | ((with_reducible refine gate_dst (N := 2) rfl ?_); (try (refine gate_guard (by rfl) ?_; dsimp only)); refine box_event ?hg (N := 2) ?hd (cs := #[.int .i64 a0_0, .string a0_1, .string a0_2, .slice A0_3 l0_3.length c0_3, .slice A0_4 l0_4.length c0_4]) (t := 25) ?hr ?_; (case hd => rfl); (case hg => rfl); (case hr => first | (go_simp; done) | (go_simp; rfl)); intro gb167 hg w3 hbox hb; have n0_ := Aside0.mk (Kd.V_below (Kd.V_elderB (by (with_reducible repeat (first | apply Kd.V_alloc | apply Kd.V_drewN | apply Kd.V_drew)); exact HO0_3.out) gb167 (Nat.le_of_eq hg.symm)) hb); have n1_ := Aside0.mk (Kd.V_below (Kd.V_elderB (by (with_reducible repeat (first | apply Kd.V_alloc | apply Kd.V_drewN | apply Kd.V_drew)); exact HO0_4.out) gb167 (Nat.le_of_eq hg.symm)) hb); have n2_ := Aside0.mk (below_step (by repeat (first | (with_reducible first | exact HB.out | apply below_alloc | apply pw_below_drewN | apply below_drew1) | exact HB.out)) hb); have n3_ := Aside0.mk (hbox); have n4_ := Aside0.mk ((by rw [hg]; exact (below_size (by repeat (first | (with_reducible first | exact HB.out | apply below_alloc | apply pw_below_drewN | apply below_drew1) | exact HB.out))) : w.heap.size ≤ gb167)); have n5_ := Aside0.mk ((by rw [hg]; exact (below_size (by repeat (first | (with_reducible first | exact HB.out | apply below_alloc | apply pw_below_drewN | apply below_drew1) | exact HB.out))) : w.heap.size ≤ gb167)); clear HO0_3; clear HO0_4; clear HB; have HO0_3 := n0_; have HO0_4 := n1_; have HB := n2_; have BK167 := n3_; have GW167 := n4_; have GE167 := n5_; clear n0_ n1_ n2_ n3_ n4_ n5_; clear hb hbox hg) | ((with_reducible refine gate_dst (N := 4) rfl ?_); (try (refine gate_guard (by rfl) ?_; dsimp only)); refine box_event ?hg (N := 4) ?hd (cs := #[.int .i64 0, .string (⟨#[]⟩ : ByteArray), .string (⟨#[]⟩ : ByteArray), .slice none 0 0, .slice none 0 0]) (t := 25) ?hr ?_; (case hd => rfl); (case hg => rfl); (case hr => first | (go_simp; done) | (go_simp; rfl)); intro gb168 hg w4 hbox hb; have n0_ := Aside0.mk (Kd.V_below (Kd.V_elderB (by (with_reducible repeat (first | apply Kd.V_alloc | apply Kd.V_drewN | apply Kd.V_drew)); exact HO0_3.out) gb168 (Nat.le_of_eq hg.symm)) hb); have n1_ := Aside0.mk (Kd.V_below (Kd.V_elderB (by (with_reducible repeat (first | apply Kd.V_alloc | apply Kd.V_drewN | apply Kd.V_drew)); exact HO0_4.out) gb168 (Nat.le_of_eq hg.symm)) hb); have n2_ := Aside0.mk (blk_below (g := gb167) (o := .cells #[.int .i64 a0_0, .string a0_1, .string a0_2, .slice A0_3 l0_3.length c0_3, .slice A0_4 l0_4.length c0_4] 25 (0, 0)) (by (with_reducible repeat (first | refine blk_drewN ?_ _ | refine blk_drew ?_ | refine blk_alloc ?_ _)); exact BK167.out) hb); have n3_ := Aside0.mk (below_step (by repeat (first | (with_reducible first | exact HB.out | apply below_alloc | apply pw_below_drewN | apply below_drew1 | refine below_set ?_ GE167.out) | exact HB.out)) hb); have n4_ := Aside0.mk (hbox); have n5_ := Aside0.mk ((by rw [hg]; exact (below_size (by repeat (first | (with_reducible first | exact HB.out | apply below_alloc | apply pw_below_drewN | apply below_drew1 | refine below_set ?_ GE167.out) | exact HB.out))) : w.heap.size ≤ gb168)); have n6_ := Aside0.mk ((by rw [hg]; exact (below_size (by repeat (first | (with_reducible first | exact HB.out | apply below_alloc | apply pw_below_drewN | apply below_drew1 | refine below_set ?_ GE167.out) | exact HB.out))) : w.heap.size ≤ gb168)); have n7_ := Aside0.mk ((by rw [hg]; exact Nat.ne_of_lt (blk_lt (g := gb167) (o := .cells #[.int .i64 a0_0, .string a0_1, .string a0_2, .slice A0_3 l0_3.length c0_3, .slice A0_4 l0_4.length c0_4] 25 (0, 0)) (by (with_reducible repeat (first | refine blk_drewN ?_ _ | refine blk_drew ?_ | refine blk_alloc ?_ _)); exact BK167.out)) : gb167 ≠ gb168)); have n8_ := Aside0.mk ((by rw [hg]; exact Nat.ne_of_gt (blk_lt (g := gb167) (o := .cells #[.int .i64 a0_0, .string a0_1, .string a0_2, .slice A0_3 l0_3.length c0_3, .slice A0_4 l0_4.length c0_4] 25 (0, 0)) (by (with_reducible repeat (first | refine blk_drewN ?_ _ | refine blk_drew ?_ | refine blk_alloc ?_ _)); exact BK167.out)) : gb168 ≠ gb167)); clear HO0_3; clear HO0_4; clear BK167; clear HB; have HO0_3 := n0_; have HO0_4 := n1_; have BK167 := n2_; have HB := n3_; have BK168 := n4_; have GW168 := n5_; have GE168 := n6_; have NB167_168 := n7_; have NB168_167 := n8_; clear n0_ n1_ n2_ n3_ n4_ n5_ n6_ n7_ n8_; clear hb hbox hg))
  go_loopg [10] k (fun kq v10 w' => ∃ (x10_1 : Int) (x168000_1 : Int) (x168001_1 : ByteArray) (x168002_1 : ByteArray) (x168003_1 : List (S78)) (x168004_1 : List (S25)) (x169000_1 : Int) (x169001_1 : ByteArray) (x169002_1 : ByteArray) (u168003 : Value) (u168004 : Value), v10 = .int .i64 x10_1 ∧ Aside0 (spec_At29.l0 kq l1 (l1.length : Int) x10_1 x168000_1 x168001_1 x168002_1 x168003_1 x168004_1 = some (r1, r2, r3, r4, r5, r6)) ∧ Aside0 (kq ≤ k) ∧ Aside0 (Kd.V k78 78 w' w.heap.size (fun k_ => ((P0_3_ k_ ∨ P0_4_ k_) ∨ w.heap.size ≤ k_) ∧ k_ ≠ gb167 ∧ k_ ≠ gb168) u168003 x168003_1) ∧ Aside0 (Kd.V k25 25 w' w.heap.size (fun k_ => ((P0_3_ k_ ∨ P0_4_ k_) ∨ w.heap.size ≤ k_) ∧ k_ ≠ gb167 ∧ k_ ≠ gb168) u168004 x168004_1) ∧ Aside0 (w'.heap[gb167]? = some (.cells #[.int .i64 x168000_1, .string x168001_1, .string x168002_1, u168003, u168004] 25 (0, 0))) ∧ Aside0 (w'.heap[gb168]? = some (.cells #[.int .i64 x169000_1, .string x169001_1, .string x169002_1, (.slice none 0 0), (.slice none 0 0)] 25 (0, 0))) ∧ Aside0 (Below w.heap.size w w'))
  case atStart => exact ⟨(0), (a0_0), (a0_1), (a0_2), (l0_3), (l0_4), (0), ((⟨#[]⟩ : ByteArray)), ((⟨#[]⟩ : ByteArray)), (.slice A0_3 l0_3.length c0_3), (.slice A0_4 l0_4.length c0_4), (by first | rfl | (simp; done) | (simp [*]; done)), H', ⟨Nat.le_refl _⟩, ⟨by (with_reducible repeat (first | apply Kd.V_alloc | apply Kd.V_drewN | apply Kd.V_drew)); exact Kd.V_mono HO0_3.out (fun _ hk => ⟨hk.1.1, ⟨hk.1.2, hk.2⟩⟩)⟩, ⟨by (with_reducible repeat (first | apply Kd.V_alloc | apply Kd.V_drewN | apply Kd.V_drew)); exact Kd.V_mono HO0_4.out (fun _ hk => ⟨hk.1.1, ⟨hk.1.2, hk.2⟩⟩)⟩, ⟨by (with_reducible repeat (first | refine blk_drewN ?_ _ | refine blk_drew ?_ | refine blk_alloc ?_ _)); exact BK167.out⟩, ⟨by (with_reducible repeat (first | refine blk_drewN ?_ _ | refine blk_drew ?_ | refine blk_alloc ?_ _)); exact BK168.out⟩, ⟨by repeat (first | (with_reducible first | exact HB.out | apply below_alloc | apply pw_below_drewN | apply below_drew1 | refine below_set ?_ GE167.out | refine below_set ?_ GE168.out) | exact HB.out)⟩⟩
  case round =>
    clear H'
    try clear c1
    try clear p2
    obtain ⟨x10_1, x168000_1, x168001_1, x168002_1, x168003_1, x168004_1, x169000_1, x169001_1, x169002_1, u168003, u168004, rfl, HA, HK1, HO_168003, HO_168004, BK167, BK168, HB⟩ := hrel
    cases gk with
    | zero => exact absurd HA.out (by simp [spec_At29.l0])
    | succ k1 =>
      have H := HA.out
      clear HA
      simp only [spec_At29.l0] at H
      by_cases c5 : x10_1 < (l1.length : Int)
      · rw [if_pos c5] at H
        have c5b0 : decide (x10_1 < (l1.length : Int)) = true := decide_eq_true c5
        clear c5
        by_cases c6 : 0 ≤ x10_1
        · rw [if_pos c6] at H
          have c6b0 : decide (0 ≤ x10_1) = true := decide_eq_true c6
          clear c6
          by_cases c7 : x10_1 < (l1.length : Int)
          · rw [if_pos c7] at H
            have c7b0 : decide (x10_1 < (l1.length : Int)) = true := decide_eq_true c7
            clear c7
            by_cases c8 : (rd l1 x10_1) < 0
            · rw [if_pos c8] at H
              have c8b0 : decide ((rd l1 x10_1) < 0) = true := decide_eq_true c8
              clear c8
              simp only [Option.some.injEq, Prod.mk.injEq] at H
              obtain ⟨rfl, rfl, rfl, rfl, rfl, rfl⟩ := H
              have p169 : 0 ≤ (x10_1 : Int) := of_decide_eq_true (by first | (with_reducible assumption) | assumption)
              have q169 : x10_1 < (l1.length : Int) := of_decide_eq_true (by first | (with_reducible assumption) | assumption)
              obtain ⟨ad169, e169, hx169_0⟩ := Kd.at_int HR1.out x10_1 p169 q169
              cases e169
              replace hx169_0 := (HB.out.cell (World.block_lt_of_cell? w _ hx169_0)).trans hx169_0
              replace p169 := eq_true p169
              replace q169 := eq_true q169
              have hnb9 := NB168_167.out
              have hnc9 := NB167_168.out
              have hcz10_0 : wr.cell? ⟨gb168, 0, none⟩ = some (.int .i64 x169000_1) := (blk_cell BK168.out 0).trans rfl
              have hcz10_1 : wr.cell? ⟨gb168, 1, none⟩ = some (.string x169001_1) := (blk_cell BK168.out 1).trans rfl
              have hcz10_2 : wr.cell? ⟨gb168, 2, none⟩ = some (.string x169002_1) := (blk_cell BK168.out 2).trans rfl
              have hcz10_3 : wr.cell? ⟨gb168, 3, none⟩ = some (.slice none 0 0) := (blk_cell BK168.out 3).trans rfl
              have hcz10_4 : wr.cell? ⟨gb168, 4, none⟩ = some (.slice none 0 0) := (blk_cell BK168.out 4).trans rfl
              have hfz10_0 := blk_frozen BK168.out 0
              have hfz10_1 := blk_frozen BK168.out 1
              have hfz10_2 := blk_frozen BK168.out 2
              have hfz10_3 := blk_frozen BK168.out 3
              have hfz10_4 := blk_frozen BK168.out 4
              go_wp2
              refine bodyPost_ret (results_ct rfl _ _ gb168 25 #[.int .i64 0, .string (⟨#[]⟩ : ByteArray), .string (⟨#[]⟩ : ByteArray), .slice none 0 0, .slice none 0 0] (0, 0) _ rfl (by (with_reducible repeat (first | refine blk_drewN ?_ _ | refine blk_drew ?_ | refine blk_alloc ?_ _)); refine blk_put (cs := #[.int .i64 0, .string (⟨#[]⟩ : ByteArray), .string (⟨#[]⟩ : ByteArray), .slice none 0 0, .slice none 0 0]) ?_ 4 _ rfl; (with_reducible repeat (first | refine blk_drewN ?_ _ | refine blk_drew ?_ | refine blk_alloc ?_ _)); refine blk_put (cs := #[.int .i64 0, .string (⟨#[]⟩ : ByteArray), .string (⟨#[]⟩ : ByteArray), .slice none 0 0, .slice none 0 0]) ?_ 3 _ rfl; (with_reducible repeat (first | refine blk_drewN ?_ _ | refine blk_drew ?_ | refine blk_alloc ?_ _)); refine blk_put (cs := #[.int .i64 0, .string (⟨#[]⟩ : ByteArray), .string x169002_1, .slice none 0 0, .slice none 0 0]) ?_ 2 _ rfl; (with_reducible repeat (first | refine blk_drewN ?_ _ | refine blk_drew ?_ | refine blk_alloc ?_ _)); refine blk_put (cs := #[.int .i64 0, .string x169001_1, .string x169002_1, .slice none 0 0, .slice none 0 0]) ?_ 1 _ rfl; (with_reducible repeat (first | refine blk_drewN ?_ _ | refine blk_drew ?_ | refine blk_alloc ?_ _)); refine blk_put (cs := #[.int .i64 x169000_1, .string x169001_1, .string x169002_1, .slice none 0 0, .slice none 0 0]) ?_ 0 _ rfl; (with_reducible repeat (first | refine blk_drewN ?_ _ | refine blk_drew ?_ | refine blk_alloc ?_ _)); exact BK168.out) Try.underlying25 rfl (by kernel_rfl)) rfl ?_
              exact ⟨_, _, by first | rfl | (simp [errW_none, errW_some] <;> rfl) | (simp [*, errW_none, errW_some] <;> rfl), Kd.V_nil _ _ _ _ _, Kd.V_nil _ _ _ _ _, by repeat (first | (with_reducible first | exact HB.out | apply below_alloc | apply pw_below_drewN | apply below_drew1 | refine below_set ?_ GE167.out | refine below_set ?_ GE168.out) | exact HB.out)⟩
            · rw [if_neg c8] at H
              have c8b0 : decide ((rd l1 x10_1) < 0) = false := decide_eq_false c8
              clear c8
              by_cases c11 : (rd l1 x10_1) ≥ (x168004_1.length : Int)
              · rw [if_pos c11] at H
                have c11b0 : decide ((x168004_1.length : Int) ≤ (rd l1 x10_1)) = true := decide_eq_true c11
                clear c11
                simp only [Option.some.injEq, Prod.mk.injEq] at H
                obtain ⟨rfl, rfl, rfl, rfl, rfl, rfl⟩ := H
                have p169 : 0 ≤ (x10_1 : Int) := of_decide_eq_true (by first | (with_reducible assumption) | assumption)
                have q169 : x10_1 < (l1.length : Int) := of_decide_eq_true (by first | (with_reducible assumption) | assumption)
                obtain ⟨ad169, e169, hx169_0⟩ := Kd.at_int HR1.out x10_1 p169 q169
                cases e169
                replace hx169_0 := (HB.out.cell (World.block_lt_of_cell? w _ hx169_0)).trans hx169_0
                replace p169 := eq_true p169
                replace q169 := eq_true q169
                have hnb12 := NB167_168.out
                have hnc12 := NB168_167.out
                have hcz13_0 : wr.cell? ⟨gb167, 0, none⟩ = some (.int .i64 x168000_1) := (blk_cell BK167.out 0).trans rfl
                have hcz13_1 : wr.cell? ⟨gb167, 1, none⟩ = some (.string x168001_1) := (blk_cell BK167.out 1).trans rfl
                have hcz13_2 : wr.cell? ⟨gb167, 2, none⟩ = some (.string x168002_1) := (blk_cell BK167.out 2).trans rfl
                have hcz13_3 : wr.cell? ⟨gb167, 3, none⟩ = some (u168003) := (blk_cell BK167.out 3).trans rfl
                have hcz13_4 : wr.cell? ⟨gb167, 4, none⟩ = some (u168004) := (blk_cell BK167.out 4).trans rfl
                have hfz13_0 := blk_frozen BK167.out 0
                have hfz13_1 := blk_frozen BK167.out 1
                have hfz13_2 := blk_frozen BK167.out 2
                have hfz13_3 := blk_frozen BK167.out 3
                have hfz13_4 := blk_frozen BK167.out 4
                obtain ⟨Ao14, co14, eo14⟩ := Kd.V_slice HO_168004.out
                subst eo14
                have hcz15_0 : wr.cell? ⟨gb168, 0, none⟩ = some (.int .i64 x169000_1) := (blk_cell BK168.out 0).trans rfl
                have hcz15_1 : wr.cell? ⟨gb168, 1, none⟩ = some (.string x169001_1) := (blk_cell BK168.out 1).trans rfl
                have hcz15_2 : wr.cell? ⟨gb168, 2, none⟩ = some (.string x169002_1) := (blk_cell BK168.out 2).trans rfl
                have hcz15_3 : wr.cell? ⟨gb168, 3, none⟩ = some (.slice none 0 0) := (blk_cell BK168.out 3).trans rfl
                have hcz15_4 : wr.cell? ⟨gb168, 4, none⟩ = some (.slice none 0 0) := (blk_cell BK168.out 4).trans rfl
                have hfz15_0 := blk_frozen BK168.out 0
                have hfz15_1 := blk_frozen BK168.out 1
                have hfz15_2 := blk_frozen BK168.out 2
                have hfz15_3 := blk_frozen BK168.out 3
                have hfz15_4 := blk_frozen BK168.out 4
                go_wp2
                refine bodyPost_ret (results_ct rfl _ _ gb168 25 #[.int .i64 0, .string (⟨#[]⟩ : ByteArray), .string (⟨#[]⟩ : ByteArray), .slice none 0 0, .slice none 0 0] (0, 0) _ rfl (by (with_reducible repeat (first | refine blk_drewN ?_ _ | refine blk_drew ?_ | refine blk_alloc ?_ _)); refine blk_put (cs := #[.int .i64 0, .string (⟨#[]⟩ : ByteArray), .string (⟨#[]⟩ : ByteArray), .slice none 0 0, .slice none 0 0]) ?_ 4 _ rfl; (with_reducible repeat (first | refine blk_drewN ?_ _ | refine blk_drew ?_ | refine blk_alloc ?_ _)); refine blk_put (cs := #[.int .i64 0, .string (⟨#[]⟩ : ByteArray), .string (⟨#[]⟩ : ByteArray), .slice none 0 0, .slice none 0 0]) ?_ 3 _ rfl; (with_reducible repeat (first | refine blk_drewN ?_ _ | refine blk_drew ?_ | refine blk_alloc ?_ _)); refine blk_put (cs := #[.int .i64 0, .string (⟨#[]⟩ : ByteArray), .string x169002_1, .slice none 0 0, .slice none 0 0]) ?_ 2 _ rfl; (with_reducible repeat (first | refine blk_drewN ?_ _ | refine blk_drew ?_ | refine blk_alloc ?_ _)); refine blk_put (cs := #[.int .i64 0, .string x169001_1, .string x169002_1, .slice none 0 0, .slice none 0 0]) ?_ 1 _ rfl; (with_reducible repeat (first | refine blk_drewN ?_ _ | refine blk_drew ?_ | refine blk_alloc ?_ _)); refine blk_put (cs := #[.int .i64 x169000_1, .string x169001_1, .string x169002_1, .slice none 0 0, .slice none 0 0]) ?_ 0 _ rfl; (with_reducible repeat (first | refine blk_drewN ?_ _ | refine blk_drew ?_ | refine blk_alloc ?_ _)); exact BK168.out) Try.underlying25 rfl (by kernel_rfl)) rfl ?_
                exact ⟨_, _, by first | rfl | (simp [errW_none, errW_some] <;> rfl) | (simp [*, errW_none, errW_some] <;> rfl), Kd.V_nil _ _ _ _ _, Kd.V_nil _ _ _ _ _, by repeat (first | (with_reducible first | exact HB.out | apply below_alloc | apply pw_below_drewN | apply below_drew1 | refine below_set ?_ GE167.out | refine below_set ?_ GE168.out) | exact HB.out)⟩
              · rw [if_neg c11] at H
                have c11b0 : decide ((x168004_1.length : Int) ≤ (rd l1 x10_1)) = false := decide_eq_false c11
                clear c11
                by_cases c16 : 0 ≤ (rd l1 x10_1)
                · rw [if_pos c16] at H
                  have c16b0 : decide (0 ≤ (rd l1 x10_1)) = true := decide_eq_true c16
                  clear c16
                  by_cases c17 : (rd l1 x10_1) < (x168004_1.length : Int)
                  · rw [if_pos c17] at H
                    have c17b0 : decide ((rd l1 x10_1) < (x168004_1.length : Int)) = true := decide_eq_true c17
                    clear c17
                    have H' := Aside0.mk H
                    clear H
                    have p169 : 0 ≤ (x10_1 : Int) := of_decide_eq_true (by first | (with_reducible assumption) | assumption)
                    have q169 : x10_1 < (l1.length : Int) := of_decide_eq_true (by first | (with_reducible assumption) | assumption)
                    obtain ⟨ad169, e169, hx169_0⟩ := Kd.at_int HR1.out x10_1 p169 q169
                    cases e169
                    replace hx169_0 := (HB.out.cell (World.block_lt_of_cell? w _ hx169_0)).trans hx169_0
                    replace p169 := eq_true p169
                    replace q169 := eq_true q169
                    have hnb18 := NB167_168.out
                    have hnc18 := NB168_167.out
                    have hcz19_0 : wr.cell? ⟨gb167, 0, none⟩ = some (.int .i64 x168000_1) := (blk_cell BK167.out 0).trans rfl
                    have hcz19_1 : wr.cell? ⟨gb167, 1, none⟩ = some (.string x168001_1) := (blk_cell BK167.out 1).trans rfl
                    have hcz19_2 : wr.cell? ⟨gb167, 2, none⟩ = some (.string x168002_1) := (blk_cell BK167.out 2).trans rfl
                    have hcz19_3 : wr.cell? ⟨gb167, 3, none⟩ = some (u168003) := (blk_cell BK167.out 3).trans rfl
                    have hcz19_4 : wr.cell? ⟨gb167, 4, none⟩ = some (u168004) := (blk_cell BK167.out 4).trans rfl
                    have hfz19_0 := blk_frozen BK167.out 0
                    have hfz19_1 := blk_frozen BK167.out 1
                    have hfz19_2 := blk_frozen BK167.out 2
                    have hfz19_3 := blk_frozen BK167.out 3
                    have hfz19_4 := blk_frozen BK167.out 4
                    obtain ⟨Ao20, co20, eo20⟩ := Kd.V_slice HO_168004.out
                    subst eo20
                    have p170 : 0 ≤ ((rd l1 x10_1) : Int) := of_decide_eq_true (by first | (with_reducible assumption) | assumption)
                    have q170 : (rd l1 x10_1) < (x168004_1.length : Int) := of_decide_eq_true (by first | (with_reducible assumption) | assumption)
                    obtain ⟨ad170, A170_3, c170_3, A170_4, c170_4, e170, hx170_0, hx170_1, hx170_2, hx170_3, hx170_4, hl170_3, hi170_3, hl170_4, hi170_4⟩ := at_T25 (Kd.V_reads' HO_168004.out).2.2 (rd l1 x10_1) p170 q170
                    cases e170
                    obtain ⟨ce170, hce170, hMe170, hcc170⟩ := Kd.V_get HO_168004.out z25 (rd l1 x10_1) p170 (by first | exact q170 | exact of_decide_eq_true (by first | (with_reducible assumption) | assumption) | (have e_ := (Kd.V_reads' HO_168004.out).1; omega))
                    obtain ⟨ua170_3, uc170_3, ua170_4, uc170_4, rfl, ul170_3, ge170_3, ul170_4, ge170_4⟩ := k25_openF hMe170
                    have hv170_3 := hcc170 3 _ rfl
                    rw [add_field _ _ 3 (by omega)] at hv170_3
                    replace hv170_3 := Option.some.inj (hv170_3.symm.trans hx170_3)
                    injection hv170_3 with hva_ hvn_ hvc_
                    rw [hva_] at ge170_3
                    rw [hvc_] at ul170_3
                    have HL170_3 := Aside0.mk (show Kd.V k78 78 _ w.heap.size _ _ ((rd_T25 x168004_1 (rd l1 x10_1)).f3) from Kd.V_mk ul170_3 ge170_3)
                    clear hva_ hvn_ hvc_ ge170_3 ul170_3
                    have hv170_4 := hcc170 4 _ rfl
                    rw [add_field _ _ 4 (by omega)] at hv170_4
                    replace hv170_4 := Option.some.inj (hv170_4.symm.trans hx170_4)
                    injection hv170_4 with hva_ hvn_ hvc_
                    rw [hva_] at ge170_4
                    rw [hvc_] at ul170_4
                    have HL170_4 := Aside0.mk (show Kd.V k25 25 _ w.heap.size _ _ ((rd_T25 x168004_1 (rd l1 x10_1)).f4) from Kd.V_mk ul170_4 ge170_4)
                    clear hva_ hvn_ hvc_ ge170_4 ul170_4
                    clear hcc170 hce170
                    have HR170_3 := Aside0.mk hi170_3
                    have HC170_3 := Aside0.mk hl170_3
                    clear hi170_3 hl170_3
                    have HR170_4 := Aside0.mk hi170_4
                    have HC170_4 := Aside0.mk hl170_4
                    clear hi170_4 hl170_4
                    replace p170 := eq_true p170
                    replace q170 := eq_true q170
                    go_wp2
                    go_roundg k1
                    case measure => have := HK1.out; omega
                    case rel => exact ⟨(wrap64 (x10_1 + 1)), ((rd_T25 x168004_1 (rd l1 x10_1)).f0), ((rd_T25 x168004_1 (rd l1 x10_1)).f1), ((rd_T25 x168004_1 (rd l1 x10_1)).f2), ((rd_T25 x168004_1 (rd l1 x10_1)).f3), ((rd_T25 x168004_1 (rd l1 x10_1)).f4), (x169000_1), (x169001_1), (x169002_1), (.slice A170_3 ((rd_T25 x168004_1 (rd l1 x10_1)).f3).length c170_3), (.slice A170_4 ((rd_T25 x168004_1 (rd l1 x10_1)).f4).length c170_4), (by first | rfl | (simp; done) | (simp [*]; done)), H', ⟨by have := HK1.out; omega⟩, ⟨by (with_reducible repeat (first | apply Kd.V_alloc | apply Kd.V_drewN | apply Kd.V_drew)); exact Kd.V_mono (Kd.V_far (p := ⟨gb167, 4, none⟩) (Kd.V_far (p := ⟨gb167, 3, none⟩) (Kd.V_far (p := ⟨gb167, 2, none⟩) (Kd.V_far (p := ⟨gb167, 1, none⟩) (Kd.V_far (p := ⟨gb167, 0, none⟩) (Kd.V_mono HL170_3.out (fun k_ hk => (⟨hk, hk.2.1⟩ : _ ∧ k_ ≠ gb167))) (fun _ hk => hk.2) (.int .i64 ((rd_T25 x168004_1 (rd l1 x10_1)).f0))) (fun _ hk => hk.2) (.string ((rd_T25 x168004_1 (rd l1 x10_1)).f1))) (fun _ hk => hk.2) (.string ((rd_T25 x168004_1 (rd l1 x10_1)).f2))) (fun _ hk => hk.2) (.slice A170_3 ((rd_T25 x168004_1 (rd l1 x10_1)).f3).length c170_3)) (fun _ hk => hk.2) (.slice A170_4 ((rd_T25 x168004_1 (rd l1 x10_1)).f4).length c170_4)) (fun _ hk => ⟨hk.1.1, ⟨hk.1.2.1, hk.1.2.2⟩⟩)⟩, ⟨by (with_reducible repeat (first | apply Kd.V_alloc | apply Kd.V_drewN | apply Kd.V_drew)); exact Kd.V_mono (Kd.V_far (p := ⟨gb167, 4, none⟩) (Kd.V_far (p := ⟨gb167, 3, none⟩) (Kd.V_far (p := ⟨gb167, 2, none⟩) (Kd.V_far (p := ⟨gb167, 1, none⟩) (Kd.V_far (p := ⟨gb167, 0, none⟩) (Kd.V_mono HL170_4.out (fun k_ hk => (⟨hk, hk.2.1⟩ : _ ∧ k_ ≠ gb167))) (fun _ hk => hk.2) (.int .i64 ((rd_T25 x168004_1 (rd l1 x10_1)).f0))) (fun _ hk => hk.2) (.string ((rd_T25 x168004_1 (rd l1 x10_1)).f1))) (fun _ hk => hk.2) (.string ((rd_T25 x168004_1 (rd l1 x10_1)).f2))) (fun _ hk => hk.2) (.slice A170_3 ((rd_T25 x168004_1 (rd l1 x10_1)).f3).length c170_3)) (fun _ hk => hk.2) (.slice A170_4 ((rd_T25 x168004_1 (rd l1 x10_1)).f4).length c170_4)) (fun _ hk => ⟨hk.1.1, ⟨hk.1.2.1, hk.1.2.2⟩⟩)⟩, ⟨by (with_reducible repeat (first | refine blk_drewN ?_ _ | refine blk_drew ?_ | refine blk_alloc ?_ _)); refine blk_put (cs := #[.int .i64 ((rd_T25 x168004_1 (rd l1 x10_1)).f0), .string ((rd_T25 x168004_1 (rd l1 x10_1)).f1), .string ((rd_T25 x168004_1 (rd l1 x10_1)).f2), .slice A170_3 ((rd_T25 x168004_1 (rd l1 x10_1)).f3).length c170_3, .slice (some ad170) x168004_1.length co20]) ?_ 4 _ rfl; (with_reducible repeat (first | refine blk_drewN ?_ _ | refine blk_drew ?_ | refine blk_alloc ?_ _)); refine blk_put (cs := #[.int .i64 ((rd_T25 x168004_1 (rd l1 x10_1)).f0), .string ((rd_T25 x168004_1 (rd l1 x10_1)).f1), .string ((rd_T25 x168004_1 (rd l1 x10_1)).f2), u168003, .slice (some ad170) x168004_1.length co20]) ?_ 3 _ rfl; (with_reducible repeat (first | refine blk_drewN ?_ _ | refine blk_drew ?_ | refine blk_alloc ?_ _)); refine blk_put (cs := #[.int .i64 ((rd_T25 x168004_1 (rd l1 x10_1)).f0), .string ((rd_T25 x168004_1 (rd l1 x10_1)).f1), .string x168002_1, u168003, .slice (some ad170) x168004_1.length co20]) ?_ 2 _ rfl; (with_reducible repeat (first | refine blk_drewN ?_ _ | refine blk_drew ?_ | refine blk_alloc ?_ _)); refine blk_put (cs := #[.int .i64 ((rd_T25 x168004_1 (rd l1 x10_1)).f0), .string x168001_1, .string x168002_1, u168003, .slice (some ad170) x168004_1.length co20]) ?_ 1 _ rfl; (with_reducible repeat (first | refine blk_drewN ?_ _ | refine blk_drew ?_ | refine blk_alloc ?_ _)); refine blk_put (cs := #[.int .i64 x168000_1, .string x168001_1, .string x168002_1, u168003, .slice (some ad170) x168004_1.length co20]) ?_ 0 _ rfl; (with_reducible repeat (first | refine blk_drewN ?_ _ | refine blk_drew ?_ | refine blk_alloc ?_ _)); exact BK167.out⟩, ⟨by (with_reducible repeat (first | refine blk_drewN ?_ _ | refine blk_drew ?_ | refine blk_alloc ?_ _)); refine blk_far ?_ NB168_167.out _; (with_reducible repeat (first | refine blk_drewN ?_ _ | refine blk_drew ?_ | refine blk_alloc ?_ _)); refine blk_far ?_ NB168_167.out _; (with_reducible repeat (first | refine blk_drewN ?_ _ | refine blk_drew ?_ | refine blk_alloc ?_ _)); refine blk_far ?_ NB168_167.out _; (with_reducible repeat (first | refine blk_drewN ?_ _ | refine blk_drew ?_ | refine blk_alloc ?_ _)); refine blk_far ?_ NB168_167.out _; (with_reducible repeat (first | refine blk_drewN ?_ _ | refine blk_drew ?_ | refine blk_alloc ?_ _)); refine blk_far ?_ NB168_167.out _; (with_reducible repeat (first | refine blk_drewN ?_ _ | refine blk_drew ?_ | refine blk_alloc ?_ _)); exact BK168.out⟩, ⟨by repeat (first | (with_reducible first | exact HB.out | apply below_alloc | apply pw_below_drewN | apply below_drew1 | refine below_set ?_ GE167.out | refine below_set ?_ GE168.out) | exact HB.out)⟩⟩
                  · rw [if_neg c17] at H
                    exact absurd H (by simp)
                · rw [if_neg c16] at H
                  exact absurd H (by simp)
          · rw [if_neg c7] at H
            exact absurd H (by simp)
        · rw [if_neg c6] at H
          exact absurd H (by simp)
      · rw [if_neg c5] at H
        have c5b0 : decide (x10_1 < (l1.length : Int)) = false := decide_eq_false c5
        clear c5
        simp only [Option.some.injEq, Prod.mk.injEq] at H
        obtain ⟨rfl, rfl, rfl, rfl, rfl, rfl⟩ := H
        have hnb21 := NB167_168.out
        have hnc21 := NB168_167.out
        have hcz22_0 : wr.cell? ⟨gb167, 0, none⟩ = some (.int .i64 x168000_1) := (blk_cell BK167.out 0).trans rfl
        have hcz22_1 : wr.cell? ⟨gb167, 1, none⟩ = some (.string x168001_1) := (blk_cell BK167.out 1).trans rfl
        have hcz22_2 : wr.cell? ⟨gb167, 2, none⟩ = some (.string x168002_1) := (blk_cell BK167.out 2).trans rfl
        have hcz22_3 : wr.cell? ⟨gb167, 3, none⟩ = some (u168003) := (blk_cell BK167.out 3).trans rfl
        have hcz22_4 : wr.cell? ⟨gb167, 4, none⟩ = some (u168004) := (blk_cell BK167.out 4).trans rfl
        have hfz22_0 := blk_frozen BK167.out 0
        have hfz22_1 := blk_frozen BK167.out 1
        have hfz22_2 := blk_frozen BK167.out 2
        have hfz22_3 := blk_frozen BK167.out 3
        have hfz22_4 := blk_frozen BK167.out 4
        have hcz23_0 : wr.cell? ⟨gb168, 0, none⟩ = some (.int .i64 x169000_1) := (blk_cell BK168.out 0).trans rfl
        have hcz23_1 : wr.cell? ⟨gb168, 1, none⟩ = some (.string x169001_1) := (blk_cell BK168.out 1).trans rfl
        have hcz23_2 : wr.cell? ⟨gb168, 2, none⟩ = some (.string x169002_1) := (blk_cell BK168.out 2).trans rfl
        have hcz23_3 : wr.cell? ⟨gb168, 3, none⟩ = some (.slice none 0 0) := (blk_cell BK168.out 3).trans rfl
        have hcz23_4 : wr.cell? ⟨gb168, 4, none⟩ = some (.slice none 0 0) := (blk_cell BK168.out 4).trans rfl
        have hfz23_0 := blk_frozen BK168.out 0
        have hfz23_1 := blk_frozen BK168.out 1
        have hfz23_2 := blk_frozen BK168.out 2
        have hfz23_3 := blk_frozen BK168.out 3
        have hfz23_4 := blk_frozen BK168.out 4
        obtain ⟨Ao24, co24, eo24⟩ := Kd.V_slice HO_168003.out
        subst eo24
        obtain ⟨Ao25, co25, eo25⟩ := Kd.V_slice HO_168004.out
        subst eo25
        go_wp2
        refine bodyPost_ret (results_ct rfl _ _ gb168 25 #[.int .i64 x168000_1, .string x168001_1, .string x168002_1, .slice Ao24 x168003_1.length co24, .slice Ao25 x168004_1.length co25] (0, 0) _ rfl (by (with_reducible repeat (first | refine blk_drewN ?_ _ | refine blk_drew ?_ | refine blk_alloc ?_ _)); refine blk_put (cs := #[.int .i64 x168000_1, .string x168001_1, .string x168002_1, .slice Ao24 x168003_1.length co24, .slice none 0 0]) ?_ 4 _ rfl; (with_reducible repeat (first | refine blk_drewN ?_ _ | refine blk_drew ?_ | refine blk_alloc ?_ _)); refine blk_put (cs := #[.int .i64 x168000_1, .string x168001_1, .string x168002_1, .slice none 0 0, .slice none 0 0]) ?_ 3 _ rfl; (with_reducible repeat (first | refine blk_drewN ?_ _ | refine blk_drew ?_ | refine blk_alloc ?_ _)); refine blk_put (cs := #[.int .i64 x168000_1, .string x168001_1, .string x169002_1, .slice none 0 0, .slice none 0 0]) ?_ 2 _ rfl; (with_reducible repeat (first | refine blk_drewN ?_ _ | refine blk_drew ?_ | refine blk_alloc ?_ _)); refine blk_put (cs := #[.int .i64 x168000_1, .string x169001_1, .string x169002_1, .slice none 0 0, .slice none 0 0]) ?_ 1 _ rfl; (with_reducible repeat (first | refine blk_drewN ?_ _ | refine blk_drew ?_ | refine blk_alloc ?_ _)); refine blk_put (cs := #[.int .i64 x169000_1, .string x169001_1, .string x169002_1, .slice none 0 0, .slice none 0 0]) ?_ 0 _ rfl; (with_reducible repeat (first | refine blk_drewN ?_ _ | refine blk_drew ?_ | refine blk_alloc ?_ _)); exact BK168.out) Try.underlying25 rfl (by kernel_rfl)) rfl ?_
        exact ⟨_, _, by first | rfl | (simp [errW_none, errW_some] <;> rfl) | (simp [*, errW_none, errW_some] <;> rfl), by (with_reducible repeat (first | apply Kd.V_alloc | apply Kd.V_drewN | apply Kd.V_drew)); exact Kd.V_mono (Kd.V_far (p := ⟨gb168, 4, none⟩) (Kd.V_far (p := ⟨gb168, 3, none⟩) (Kd.V_far (p := ⟨gb168, 2, none⟩) (Kd.V_far (p := ⟨gb168, 1, none⟩) (Kd.V_far (p := ⟨gb168, 0, none⟩) (Kd.V_mono HO_168003.out (fun k_ hk => (⟨hk, hk.2.2⟩ : _ ∧ k_ ≠ gb168))) (fun _ hk => hk.2) (.int .i64 x168000_1)) (fun _ hk => hk.2) (.string x168001_1)) (fun _ hk => hk.2) (.string x168002_1)) (fun _ hk => hk.2) (.slice Ao24 x168003_1.length co24)) (fun _ hk => hk.2) (.slice Ao25 x168004_1.length co25)) (fun _ hk => hk.1.1), by (with_reducible repeat (first | apply Kd.V_alloc | apply Kd.V_drewN | apply Kd.V_drew)); exact Kd.V_mono (Kd.V_far (p := ⟨gb168, 4, none⟩) (Kd.V_far (p := ⟨gb168, 3, none⟩) (Kd.V_far (p := ⟨gb168, 2, none⟩) (Kd.V_far (p := ⟨gb168, 1, none⟩) (Kd.V_far (p := ⟨gb168, 0, none⟩) (Kd.V_mono HO_168004.out (fun k_ hk => (⟨hk, hk.2.2⟩ : _ ∧ k_ ≠ gb168))) (fun _ hk => hk.2) (.int .i64 x168000_1)) (fun _ hk => hk.2) (.string x168001_1)) (fun _ hk => hk.2) (.string x168002_1)) (fun _ hk => hk.2) (.slice Ao24 x168003_1.length co24)) (fun _ hk => hk.2) (.slice Ao25 x168004_1.length co25)) (fun _ hk => hk.1.1), by repeat (first | (with_reducible first | exact HB.out | apply below_alloc | apply pw_below_drewN | apply below_drew1 | refine below_set ?_ GE167.out | refine below_set ?_ GE168.out) | exact HB.out)⟩

end Go.Proofs.Ytibfoaahdbdogaa.PDom
