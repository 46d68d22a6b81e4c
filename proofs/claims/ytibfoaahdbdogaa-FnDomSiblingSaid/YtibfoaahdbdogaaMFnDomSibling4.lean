/- A part of the proof of FnDomSibling: EDomx5, Paths29, EDomx6, one behind the other. -/
import Derived.Test.YtibfoaahdbdogaaMFnDomSibling2
import Derived.Test.YtibfoaahdbdogaaMFnDomSibling3
/- Printed by the program extprint.py of this session, out of the kit's print and contracts of this session's own; Lean checks it. -/
namespace Go.Proofs.Ytibfoaahdbdogaa.PDom
open Go.RowKit Go.Proofs.YtibfoaahdbdogaaW.PrintWords Go.Proofs.YtibfoaahdbdogaaW.PrintLast Go.Proofs.YtibfoaahdbdogaaW.PrintMore
attribute [local go_sem] max2_int min2_int max_two min_two max_three min_three max_four min_four   -- for this text's walks alone
set_option linter.unusedVariables false
set_option linter.unusedSimpArgs false

/-! ### spec_Walk29: function 14 -/
mutual
def spec_Walk29.l0 : Nat → List Int → List (List Int) → List (S25) → Int → Int → Option ((List (List Int)))
  | 0, _, _, _, _, _ => none
  | k + 1, x1, x5, x11, x12, x13 => if x13 < x12 then (if 0 ≤ x13 then (if x13 < (x11.length : Int) then ((spec_Under29.f x1 x13).bind fun t154 => ((spec_Walk29.f k ((rd_T25 x11 x13).f0) ((rd_T25 x11 x13).f1) ((rd_T25 x11 x13).f2) ((rd_T25 x11 x13).f3) ((rd_T25 x11 x13).f4) t154).bind fun t157 => (if x5.length + t157.length < 5864062014805 then (spec_Walk29.l0 k x1 (x5 ++ t157) x11 x12 (wrap64 (x13 + 1))) else (none)))) else (none)) else (none)) else (some x5)
def spec_Walk29.f : Nat → Int → ByteArray → ByteArray → List (S78) → List (S25) → List Int → Option ((List (List Int)))
  | 0, _, _, _, _, _, _ => none
  | k + 1, a0_0, a0_1, a0_2, l0_3, l0_4, l1 => spec_Walk29.l0 k l1 (([l1] : List (List Int))) l0_4 (l0_4.length : Int) 0
end
theorem spec_Walk29.mono_l : ∀ k, (∀ y0 y1 y2 y3 y4 y5, LeO (spec_Walk29.f k y0 y1 y2 y3 y4 y5) (spec_Walk29.f (k + 1) y0 y1 y2 y3 y4 y5)) ∧ (∀ y0 y1 y2 y3 y4, LeO (spec_Walk29.l0 k y0 y1 y2 y3 y4) (spec_Walk29.l0 (k + 1) y0 y1 y2 y3 y4))
  | 0 => ⟨fun _ _ _ _ _ _ r h => by simp [spec_Walk29.f] at h, fun _ _ _ _ _ r h => by simp [spec_Walk29.l0] at h⟩
  | k + 1 => by
    obtain ⟨ih0, ih1⟩ := spec_Walk29.mono_l k
    refine ⟨?_, ?_⟩
    · intro y0 y1 y2 y3 y4 y5
      unfold spec_Walk29.f
      repeat' first
      | (with_reducible exact ih0 _ _ _ _ _ _)
      | (with_reducible exact ih1 _ _ _ _ _)
      | (with_reducible exact LeO.refl _)
      | (with_reducible exact LeO.none _)
      | (with_reducible refine LeO.ite ?_ ?_)
      | (with_reducible refine LeO.bind ?_ (fun _ => ?_))
      | exact ih0 _ _ _ _ _ _
      | exact ih1 _ _ _ _ _
      | exact LeO.none _
      | refine LeO.ite ?_ ?_
      | refine LeO.bind ?_ (fun _ => ?_)
    · intro y0 y1 y2 y3 y4
      unfold spec_Walk29.l0
      repeat' first
      | (with_reducible exact ih0 _ _ _ _ _ _)
      | (with_reducible exact ih1 _ _ _ _ _)
      | (with_reducible exact LeO.refl _)
      | (with_reducible exact LeO.none _)
      | (with_reducible refine LeO.ite ?_ ?_)
      | (with_reducible refine LeO.bind ?_ (fun _ => ?_))
      | exact ih0 _ _ _ _ _ _
      | exact ih1 _ _ _ _ _
      | exact LeO.none _
      | refine LeO.ite ?_ ?_
      | refine LeO.bind ?_ (fun _ => ?_)
theorem spec_Walk29.mono : ∀ a0 a1 a2 a3 a4 a5 k, LeO (spec_Walk29.f k a0 a1 a2 a3 a4 a5) (spec_Walk29.f (k + 1) a0 a1 a2 a3 a4 a5) := by
  intro a0 a1 a2 a3 a4 a5 k
  obtain ⟨ih0, ih1⟩ := spec_Walk29.mono_l k
  exact ih0 a0 a1 a2 a3 a4 a5
def spec_Walk29.T5 : Bool × List (List Nat × List Nat) := (true, [([], []), ([], []), ([], []), ([], []), ([2, 3], [2, 3]), ([1, 4, 4], [1, 4]), ([0, 5, 5], [0, 5]), ([6, 6, 0, 1, 2, 3, 4, 5, 6], [0, 6])])
def spec_Walk29.B5 : List Nat := [0, 0, 0, 0, 12, 30, 63, 127]
theorem spec_Walk29.tab5 : rtab .any (opsOf Try.f14 5) = spec_Walk29.T5 := by kernel_rfl
theorem spec_Walk29.bits5 : waitsOk spec_Walk29.T5.2 spec_Walk29.B5 = true := by kernel_rfl
set_option maxHeartbeats 8000000 in
set_option maxRecDepth 100000 in
theorem spec_Walk29.calls (k : Nat) : ∀ (a0_0 : Int) (a0_1 : ByteArray) (a0_2 : ByteArray) (A0_3 : Option Addr) (c0_3 : Nat) (l0_3 : List (S78)) (A0_4 : Option Addr) (c0_4 : Nat) (l0_4 : List (S25)) (P1_ : Nat → Prop) (A1 : Option Addr) (c1 : Nat) (l1 : List Int) (r : List (List Int)) (w : World) (hr0_3 : Kd.C k78 w A0_3 l0_3.length l0_3) (hc0_3 : l0_3.length ≤ c0_3) (hr0_4 : Kd.C k25 w A0_4 l0_4.length l0_4) (hc0_4 : l0_4.length ≤ c0_4) (hs1 : Kd.V (Kd.int .i64) 3 w w.heap.size (fun k_ => P1_ k_) (.slice A1 l1.length c1) l1) (h : spec_Walk29.f k a0_0 a0_1 a0_2 l0_3 l0_4 l1 = some r),
    Calls Try.prog 14 #[.agg #[.int .i64 a0_0, .string a0_1, .string a0_2, .slice A0_3 l0_3.length c0_3, .slice A0_4 l0_4.length c0_4], .slice A1 l1.length c1] w fun e w' => ∃ v0_ : Value, e = .returned (v0_) ∧ Kd.N (Kd.slice 3 (Kd.int .i64)) 32 w' w.heap.size (fun k_ => (P1_ k_ ∨ w.heap.size ≤ k_)) v0_ r ∧ Below w.heap.size w w' := by
  induction k using Nat.strongRecOn with
  | _ k ih =>
  intro a0_0 a0_1 a0_2 A0_3 c0_3 l0_3 A0_4 c0_4 l0_4 P1_ A1 c1 l1 r w hr0_3 hc0_3 hr0_4 hc0_4 hs1 h
  cases k with
  | zero => exact absurd h (by simp [spec_Walk29.f])
  | succ k =>
  simp only [spec_Walk29.f] at h
  have hu25 := Try.underlying25
  have HR0_3 := Aside0.mk hr0_3
  have HC0_3 := Aside0.mk hc0_3
  clear hr0_3 hc0_3
  have HR0_4 := Aside0.mk hr0_4
  have HC0_4 := Aside0.mk hc0_4
  clear hr0_4 hc0_4
  have HO1 := Aside0.mk (show Kd.V (Kd.int .i64) 3 w w.heap.size (fun k_ => (P1_ k_ ∨ w.heap.size ≤ k_)) (.slice A1 l1.length c1) l1 from Kd.V_mono hs1 (fun k_ hk => .inl hk))
  have HB := Aside0.mk (Below.refl w.heap.size w)
  have H : (spec_Walk29.l0 k l1 (([l1] : List (List Int))) l0_4 (l0_4.length : Int) 0) = some r := h
  clear h
  obtain ⟨y149, hy149⟩ : ∃ y_ : List (List Int), y_ = (([l1] : List (List Int))) := ⟨_, rfl⟩
  replace H : (spec_Walk29.l0 k l1 y149 l0_4 (l0_4.length : Int) 0) = some r := by first | (rw [hy149]; with_reducible exact H) | (have H2_ := (Option.bind_some _ _).symm.trans H; rw [hy149]; with_reducible exact H2_) | (have H2_ := (Option.bind_some _ _).symm.trans H; with_reducible exact H2_) | with_reducible exact H | (rw [hy149]; exact H) | exact H
  have Ny149 := Aside0.mk hy149
  clear hy149
  have H' := Aside0.mk H
  clear H
  go_enter Try.func14, Try.ntmps14
  go_wp2_with (first | ((with_reducible refine gate_dst (N := 2) rfl ?_); refine box_event ?hg (N := 2) ?hd (cs := #[.int .i64 a0_0, .string a0_1, .string a0_2, .slice A0_3 l0_3.length c0_3, .slice A0_4 l0_4.length c0_4]) (t := 25) ?hr ?_; (case hd => rfl); (case hg => rfl); (case hr => first | (go_simp; done) | (go_simp; rfl)); intro gb148 hg w3 hbox hb; have n0_ := Aside0.mk (Kd.V_below (Kd.V_elderB (by (with_reducible repeat (first | apply Kd.V_alloc | apply Kd.V_drewN | apply Kd.V_drew)); exact HO1.out) gb148 (Nat.le_of_eq hg.symm)) hb); have n1_ := Aside0.mk (below_step (by repeat (first | (with_reducible first | exact HB.out | apply below_alloc | apply pw_below_drewN | apply below_drew1) | exact HB.out)) hb); have n2_ := Aside0.mk (hbox); have n3_ := Aside0.mk ((by rw [hg]; exact (below_size (by repeat (first | (with_reducible first | exact HB.out | apply below_alloc | apply pw_below_drewN | apply below_drew1) | exact HB.out))) : w.heap.size ≤ gb148)); have n4_ := Aside0.mk ((by rw [hg]; exact (below_size (by repeat (first | (with_reducible first | exact HB.out | apply below_alloc | apply pw_below_drewN | apply below_drew1) | exact HB.out))) : w.heap.size ≤ gb148)); clear HO1; clear HB; have HO1 := n0_; have HB := n1_; have BK148 := n2_; have GW148 := n3_; have GE148 := n4_; clear n0_ n1_ n2_ n3_ n4_; clear hb hbox hg) | ((with_reducible refine gate_dst (N := 9) rfl ?_); refine Kd.N_lit (Kd.slice 3 (Kd.int .i64)) _ 32 ?hg (N' := 9) ?hd (xs := ([l1] : List (List Int))) (inner := [.slice A1 l1.length c1]) (ok := (fun k_ => (P1_ k_ ∨ w.heap.size ≤ k_) ∧ k_ ≠ gb148)) (okp := (fun k_ => (P1_ k_ ∨ w.heap.size ≤ k_) ∧ k_ ≠ gb148)) ?hr ?hp (fun _ hk => hk) ((show ∀ k_, w3.heap.size ≤ k_ → (fun k_ => (P1_ k_ ∨ w.heap.size ≤ k_) ∧ k_ ≠ gb148) k_ from fun k_ hk => ⟨(.inr (Nat.le_trans (below_size (by repeat (first | (with_reducible first | exact HB.out | apply below_alloc | apply pw_below_drewN | apply below_drew1 | refine below_set ?_ GE148.out) | exact HB.out))) hk)), Kd.freshB (g := gb148) (o := .cells #[.int .i64 a0_0, .string a0_1, .string a0_2, .slice A0_3 l0_3.length c0_3, .slice A0_4 l0_4.length c0_4] 25 (0, 0)) (by (with_reducible repeat (first | refine blk_drewN ?_ _ | refine blk_drew ?_ | refine blk_alloc ?_ _)); exact BK148.out) k_ hk⟩) _ (Nat.le_refl _)) (Below.refl _ _) (Nat.le_refl _) (by simp) ?_; (case hd => rfl); (case hg => rfl); (case hr => first | (go_simp; done) | (go_simp; rfl)); (case hp => exact (Reps.one (show Kd.FK (Kd.slice 3 (Kd.int .i64)) _ _ l1 [.slice A1 l1.length c1] from (Kd.FK_slice_mk (Kd.V_reads' (Kd.V_mono (ok' := (fun k_ => (P1_ k_ ∨ w.heap.size ≤ k_) ∧ k_ ≠ gb148)) (HO1.out) (fun k_ hk => ⟨hk.1, hk.2⟩))).2.1 (Kd.V_F (Kd.V_mono (ok' := (fun k_ => (P1_ k_ ∨ w.heap.size ≤ k_) ∧ k_ ≠ gb148)) (HO1.out) (fun k_ hk => ⟨hk.1, hk.2⟩))))) (Reps.none _ _))); intro v150 w4 ho5 hb hg_ hnew_; clear hg_ hnew_; (first | rw [← Ny149.out] at ho5 | (simp only [Int.reduceToNat] at ho5; rw [← Ny149.out] at ho5)); have n0_ := Aside0.mk (Kd.V_elder' (by (with_reducible repeat (first | apply Kd.V_alloc | apply Kd.V_drewN | apply Kd.V_drew)); exact HO1.out) (Kd.N_base ho5) hb); have n1_ := Aside0.mk (Kd.N_lower ho5 (below_size (by repeat (first | (with_reducible first | exact HB.out | apply below_alloc | apply pw_below_drewN | apply below_drew1 | refine below_set ?_ GE148.out) | exact HB.out)))); have n2_ := Aside0.mk (blk_below (g := gb148) (o := .cells #[.int .i64 a0_0, .string a0_1, .string a0_2, .slice A0_3 l0_3.length c0_3, .slice A0_4 l0_4.length c0_4] 25 (0, 0)) (by (with_reducible repeat (first | refine blk_drewN ?_ _ | refine blk_drew ?_ | refine blk_alloc ?_ _)); exact BK148.out) hb); have n3_ := Aside0.mk (below_step (by repeat (first | (with_reducible first | exact HB.out | apply below_alloc | apply pw_below_drewN | apply below_drew1 | refine below_set ?_ GE148.out) | exact HB.out)) hb); clear HO1; clear BK148; clear HB; have HO1 := n0_; have HO151 := n1_; have BK148 := n2_; have HB := n3_; clear n0_ n1_ n2_ n3_; clear hb ho5; have hcz6_0 : w4.cell? ⟨gb148, 0, none⟩ = some (.int .i64 a0_0) := (blk_cell BK148.out 0).trans rfl; have hcz6_1 : w4.cell? ⟨gb148, 1, none⟩ = some (.string a0_1) := (blk_cell BK148.out 1).trans rfl; have hcz6_2 : w4.cell? ⟨gb148, 2, none⟩ = some (.string a0_2) := (blk_cell BK148.out 2).trans rfl; have hcz6_3 : w4.cell? ⟨gb148, 3, none⟩ = some (.slice A0_3 l0_3.length c0_3) := (blk_cell BK148.out 3).trans rfl; have hcz6_4 : w4.cell? ⟨gb148, 4, none⟩ = some (.slice A0_4 l0_4.length c0_4) := (blk_cell BK148.out 4).trans rfl; have hfz6_0 := blk_frozen BK148.out 0; have hfz6_1 := blk_frozen BK148.out 1; have hfz6_2 := blk_frozen BK148.out 2; have hfz6_3 := blk_frozen BK148.out 3; have hfz6_4 := blk_frozen BK148.out 4))
  go_loopg [5, 13] k (fun kq v5 v13 w' => ∃ (x5_1 : List (List Int)) (x13_1 : Int), v13 = .int .i64 x13_1 ∧ Aside0 (spec_Walk29.l0 kq l1 x5_1 l0_4 (l0_4.length : Int) x13_1 = some r) ∧ Aside0 (kq ≤ k) ∧ Aside0 (Kd.V (Kd.int .i64) 3 w' w.heap.size (fun k_ => (P1_ k_ ∨ w.heap.size ≤ k_) ∧ some k_ ≠ (v5 : Value).ownBlock ∧ k_ ≠ gb148) (.slice A1 l1.length c1) l1) ∧ Aside0 (Kd.N (Kd.slice 3 (Kd.int .i64)) 32 w' w.heap.size (fun k_ => (P1_ k_ ∨ w.heap.size ≤ k_) ∧ k_ ≠ gb148) v5 x5_1) ∧ Aside0 (w'.heap[gb148]? = some (.cells #[.int .i64 a0_0, .string a0_1, .string a0_2, (.slice A0_3 l0_3.length c0_3), (.slice A0_4 l0_4.length c0_4)] 25 (0, 0))) ∧ Aside0 (Below w.heap.size w w'))
  case atStart => exact ⟨(y149), (0), (by first | rfl | (simp; done) | (simp [*]; done)), H', ⟨Nat.le_refl _⟩, ⟨by (with_reducible repeat (first | apply Kd.V_alloc | apply Kd.V_drewN | apply Kd.V_drew)); exact Kd.V_mono HO1.out (fun _ hk => ⟨hk.1.1, ⟨hk.2, hk.1.2⟩⟩)⟩, ⟨by (with_reducible repeat (first | apply Kd.N_alloc | apply Kd.N_drewN | apply Kd.N_drew)); exact HO151.out⟩, ⟨by (with_reducible repeat (first | refine blk_drewN ?_ _ | refine blk_drew ?_ | refine blk_alloc ?_ _)); exact BK148.out⟩, ⟨by repeat (first | (with_reducible first | exact HB.out | apply below_alloc | apply pw_below_drewN | apply below_drew1 | refine below_set ?_ GE148.out) | exact HB.out)⟩⟩
  case round =>
    clear H'
    try clear c1
    try clear p2
    try clear hcz6_0
    try clear hcz6_1
    try clear hcz6_2
    try clear hcz6_3
    try clear hcz6_4
    try clear hfz6_0
    try clear hfz6_1
    try clear hfz6_2
    try clear hfz6_3
    try clear hfz6_4
    obtain ⟨x5_1, x13_1, rfl, HA, HK1, HO_1, HO_5, BK148, HB⟩ := hrel
    cases gk with
    | zero => exact absurd HA.out (by simp [spec_Walk29.l0])
    | succ k1 =>
      have H := HA.out
      clear HA
      simp only [spec_Walk29.l0] at H
      by_cases c7 : x13_1 < (l0_4.length : Int)
      · rw [if_pos c7] at H
        have c7b0 : decide (x13_1 < (l0_4.length : Int)) = true := decide_eq_true c7
        clear c7
        by_cases c8 : 0 ≤ x13_1
        · rw [if_pos c8] at H
          have c8b0 : decide (0 ≤ x13_1) = true := decide_eq_true c8
          clear c8
          by_cases c9 : x13_1 < (l0_4.length : Int)
          · rw [if_pos c9] at H
            have c9b0 : decide (x13_1 < (l0_4.length : Int)) = true := decide_eq_true c9
            clear c9
            replace H := Option.bind_eq_some_iff.mp H
            obtain ⟨t154, A100, H⟩ := H
            replace H : ((spec_Walk29.f k1 ((rd_T25 l0_4 x13_1).f0) ((rd_T25 l0_4 x13_1).f1) ((rd_T25 l0_4 x13_1).f2) ((rd_T25 l0_4 x13_1).f3) ((rd_T25 l0_4 x13_1).f4) t154).bind fun t157 => (if x5_1.length + t157.length < 5864062014805 then (spec_Walk29.l0 k1 l1 (x5_1 ++ t157) l0_4 (l0_4.length : Int) (wrap64 (x13_1 + 1))) else (none))) = some r := H
            have A10 := Aside0.mk A100
            clear A100
            replace H := Option.bind_eq_some_iff.mp H
            obtain ⟨t157, A110, H⟩ := H
            replace H : (if x5_1.length + t157.length < 5864062014805 then (spec_Walk29.l0 k1 l1 (x5_1 ++ t157) l0_4 (l0_4.length : Int) (wrap64 (x13_1 + 1))) else (none)) = some r := H
            have A11 := Aside0.mk A110
            clear A110
            by_cases c12 : x5_1.length + t157.length < 5864062014805
            · rw [if_pos c12] at H
              have LMc12 := Aside0.mk c12
              clear c12
              obtain ⟨y160, hy160⟩ : ∃ y_ : List (List Int), y_ = (x5_1 ++ t157) := ⟨_, rfl⟩
              replace H : (spec_Walk29.l0 k1 l1 y160 l0_4 (l0_4.length : Int) (wrap64 (x13_1 + 1))) = some r := by first | (rw [hy160]; with_reducible exact H) | (have H2_ := (Option.bind_some _ _).symm.trans H; rw [hy160]; with_reducible exact H2_) | (have H2_ := (Option.bind_some _ _).symm.trans H; with_reducible exact H2_) | with_reducible exact H | (rw [hy160]; exact H) | exact H
              have Ny160 := Aside0.mk hy160
              clear hy160
              have H' := Aside0.mk H
              clear H
              have p152 : 0 ≤ (x13_1 : Int) := of_decide_eq_true (by first | (with_reducible assumption) | assumption)
              have q152 : x13_1 < (l0_4.length : Int) := of_decide_eq_true (by first | (with_reducible assumption) | assumption)
              obtain ⟨ad152, A152_3, c152_3, A152_4, c152_4, e152, hx152_0, hx152_1, hx152_2, hx152_3, hx152_4, hl152_3, hi152_3, hl152_4, hi152_4⟩ := at_T25 HR0_4.out x13_1 p152 q152
              cases e152
              replace hx152_0 := (HB.out.cell (World.block_lt_of_cell? w _ hx152_0)).trans hx152_0
              replace hx152_1 := (HB.out.cell (World.block_lt_of_cell? w _ hx152_1)).trans hx152_1
              replace hx152_2 := (HB.out.cell (World.block_lt_of_cell? w _ hx152_2)).trans hx152_2
              replace hx152_3 := (HB.out.cell (World.block_lt_of_cell? w _ hx152_3)).trans hx152_3
              replace hx152_4 := (HB.out.cell (World.block_lt_of_cell? w _ hx152_4)).trans hx152_4
              have HR152_3 := Aside0.mk hi152_3
              have HC152_3 := Aside0.mk hl152_3
              clear hi152_3 hl152_3
              have HR152_4 := Aside0.mk hi152_4
              have HC152_4 := Aside0.mk hl152_4
              clear hi152_4 hl152_4
              replace p152 := eq_true p152
              replace q152 := eq_true q152
              try go_wp2_with (first | ((with_reducible refine gate_dst (N := 7) rfl ?_); refine box_event ?hg (N := 7) ?hd (cs := #[.int .i64 0, .string (⟨#[]⟩ : ByteArray), .string (⟨#[]⟩ : ByteArray), .slice none 0 0, .slice none 0 0]) (t := 25) ?hr ?_; (case hd => rfl); (case hg => rfl); (case hr => first | (go_simp; done) | (go_simp; rfl)); intro gb153 hg w13 hbox hb; have n0_ := Aside0.mk (Kd.V_below (Kd.V_elderB (by (with_reducible repeat (first | apply Kd.V_alloc | apply Kd.V_drewN | apply Kd.V_drew)); exact HO_1.out) gb153 (Nat.le_of_eq hg.symm)) hb); have n1_ := Aside0.mk (Kd.N_below (Kd.N_elderB (by (with_reducible repeat (first | apply Kd.N_alloc | apply Kd.N_drewN | apply Kd.N_drew)); exact HO_5.out) gb153 (Nat.le_of_eq hg.symm)) hb); have n2_ := Aside0.mk (blk_below (g := gb148) (o := .cells #[.int .i64 a0_0, .string a0_1, .string a0_2, .slice A0_3 l0_3.length c0_3, .slice (some ad152) l0_4.length c0_4] 25 (0, 0)) (by (with_reducible repeat (first | refine blk_drewN ?_ _ | refine blk_drew ?_ | refine blk_alloc ?_ _)); exact BK148.out) hb); have n3_ := Aside0.mk (below_step (by repeat (first | (with_reducible first | exact HB.out | apply below_alloc | apply pw_below_drewN | apply below_drew1 | refine below_set ?_ GE148.out) | exact HB.out)) hb); have n4_ := Aside0.mk (hbox); have n5_ := Aside0.mk ((by rw [hg]; exact (below_size (by repeat (first | (with_reducible first | exact HB.out | apply below_alloc | apply pw_below_drewN | apply below_drew1 | refine below_set ?_ GE148.out) | exact HB.out))) : w.heap.size ≤ gb153)); have n6_ := Aside0.mk ((by rw [hg]; exact (below_size (by repeat (first | (with_reducible first | exact HB.out | apply below_alloc | apply pw_below_drewN | apply below_drew1 | refine below_set ?_ GE148.out) | exact HB.out))) : w.heap.size ≤ gb153)); have n7_ := Aside0.mk ((by rw [hg]; exact Nat.ne_of_lt (blk_lt (g := gb148) (o := .cells #[.int .i64 a0_0, .string a0_1, .string a0_2, .slice A0_3 l0_3.length c0_3, .slice (some ad152) l0_4.length c0_4] 25 (0, 0)) (by (with_reducible repeat (first | refine blk_drewN ?_ _ | refine blk_drew ?_ | refine blk_alloc ?_ _)); exact BK148.out)) : gb148 ≠ gb153)); have n8_ := Aside0.mk ((by rw [hg]; exact Nat.ne_of_gt (blk_lt (g := gb148) (o := .cells #[.int .i64 a0_0, .string a0_1, .string a0_2, .slice A0_3 l0_3.length c0_3, .slice (some ad152) l0_4.length c0_4] 25 (0, 0)) (by (with_reducible repeat (first | refine blk_drewN ?_ _ | refine blk_drew ?_ | refine blk_alloc ?_ _)); exact BK148.out)) : gb153 ≠ gb148)); clear HO_1; clear HO_5; clear BK148; clear HB; have HO_1 := n0_; have HO_5 := n1_; have BK148 := n2_; have HB := n3_; have BK153 := n4_; have GW153 := n5_; have GE153 := n6_; have NB148_153 := n7_; have NB153_148 := n8_; clear n0_ n1_ n2_ n3_ n4_ n5_ n6_ n7_ n8_; clear hb hbox hg; have hnb14 := NB153_148.out; have hnc14 := NB148_153.out; have hcz15_0 : w13.cell? ⟨gb153, 0, none⟩ = some (.int .i64 0) := (blk_cell BK153.out 0).trans rfl; have hcz15_1 : w13.cell? ⟨gb153, 1, none⟩ = some (.string (⟨#[]⟩ : ByteArray)) := (blk_cell BK153.out 1).trans rfl; have hcz15_2 : w13.cell? ⟨gb153, 2, none⟩ = some (.string (⟨#[]⟩ : ByteArray)) := (blk_cell BK153.out 2).trans rfl; have hcz15_3 : w13.cell? ⟨gb153, 3, none⟩ = some (.slice none 0 0) := (blk_cell BK153.out 3).trans rfl; have hcz15_4 : w13.cell? ⟨gb153, 4, none⟩ = some (.slice none 0 0) := (blk_cell BK153.out 4).trans rfl; have hfz15_0 := blk_frozen BK153.out 0; have hfz15_1 := blk_frozen BK153.out 1; have hfz15_2 := blk_frozen BK153.out 2; have hfz15_3 := blk_frozen BK153.out 3; have hfz15_4 := blk_frozen BK153.out 4))
              have n0_ : Aside0 (Kd.V (Kd.int .i64) 3 (((((w13.setCell ⟨gb153, 0, none⟩ (.int .i64 ((rd_T25 l0_4 x13_1).f0))).setCell ⟨gb153, 1, none⟩ (.string ((rd_T25 l0_4 x13_1).f1))).setCell ⟨gb153, 2, none⟩ (.string ((rd_T25 l0_4 x13_1).f2))).setCell ⟨gb153, 3, none⟩ (.slice A152_3 ((rd_T25 l0_4 x13_1).f3).length c152_3)).setCell ⟨gb153, 4, none⟩ (.slice A152_4 ((rd_T25 l0_4 x13_1).f4).length c152_4)) w.heap.size (fun k_ => (P1_ k_ ∨ w.heap.size ≤ k_) ∧ some k_ ≠ (u5 : Value).ownBlock ∧ k_ ≠ gb148 ∧ k_ ≠ gb153) (.slice A1 l1.length c1) l1) := ⟨by (with_reducible repeat (first | apply Kd.V_alloc | apply Kd.V_drewN | apply Kd.V_drew)); exact Kd.V_mono (Kd.V_far (p := ⟨gb153, 4, none⟩) (Kd.V_far (p := ⟨gb153, 3, none⟩) (Kd.V_far (p := ⟨gb153, 2, none⟩) (Kd.V_far (p := ⟨gb153, 1, none⟩) (Kd.V_far (p := ⟨gb153, 0, none⟩) (Kd.V_mono HO_1.out (fun k_ hk => (⟨hk, hk.2⟩ : _ ∧ k_ ≠ gb153))) (fun _ hk => hk.2) (.int .i64 ((rd_T25 l0_4 x13_1).f0))) (fun _ hk => hk.2) (.string ((rd_T25 l0_4 x13_1).f1))) (fun _ hk => hk.2) (.string ((rd_T25 l0_4 x13_1).f2))) (fun _ hk => hk.2) (.slice A152_3 ((rd_T25 l0_4 x13_1).f3).length c152_3)) (fun _ hk => hk.2) (.slice A152_4 ((rd_T25 l0_4 x13_1).f4).length c152_4)) (fun _ hk => ⟨hk.1.1.1, ⟨hk.1.1.2.1, ⟨hk.1.1.2.2, hk.1.2⟩⟩⟩)⟩
              have n1_ : Aside0 (Kd.N (Kd.slice 3 (Kd.int .i64)) 32 (((((w13.setCell ⟨gb153, 0, none⟩ (.int .i64 ((rd_T25 l0_4 x13_1).f0))).setCell ⟨gb153, 1, none⟩ (.string ((rd_T25 l0_4 x13_1).f1))).setCell ⟨gb153, 2, none⟩ (.string ((rd_T25 l0_4 x13_1).f2))).setCell ⟨gb153, 3, none⟩ (.slice A152_3 ((rd_T25 l0_4 x13_1).f3).length c152_3)).setCell ⟨gb153, 4, none⟩ (.slice A152_4 ((rd_T25 l0_4 x13_1).f4).length c152_4)) w.heap.size (fun k_ => (P1_ k_ ∨ w.heap.size ≤ k_) ∧ k_ ≠ gb148 ∧ k_ ≠ gb153) u5 x5_1) := ⟨by (with_reducible repeat (first | apply Kd.N_alloc | apply Kd.N_drewN | apply Kd.N_drew)); exact Kd.N_mono (Kd.N_far (p := ⟨gb153, 4, none⟩) (Kd.N_far (p := ⟨gb153, 3, none⟩) (Kd.N_far (p := ⟨gb153, 2, none⟩) (Kd.N_far (p := ⟨gb153, 1, none⟩) (Kd.N_far (p := ⟨gb153, 0, none⟩) (Kd.N_mono HO_5.out (fun k_ hk => (⟨hk, hk.2⟩ : _ ∧ k_ ≠ gb153))) (fun _ hk => hk.2) (.int .i64 ((rd_T25 l0_4 x13_1).f0))) (fun _ hk => hk.2) (.string ((rd_T25 l0_4 x13_1).f1))) (fun _ hk => hk.2) (.string ((rd_T25 l0_4 x13_1).f2))) (fun _ hk => hk.2) (.slice A152_3 ((rd_T25 l0_4 x13_1).f3).length c152_3)) (fun _ hk => hk.2) (.slice A152_4 ((rd_T25 l0_4 x13_1).f4).length c152_4)) (fun _ hk => ⟨hk.1.1.1, ⟨hk.1.1.2, hk.1.2⟩⟩)⟩
              have n2_ : Aside0 ((((((w13.setCell ⟨gb153, 0, none⟩ (.int .i64 ((rd_T25 l0_4 x13_1).f0))).setCell ⟨gb153, 1, none⟩ (.string ((rd_T25 l0_4 x13_1).f1))).setCell ⟨gb153, 2, none⟩ (.string ((rd_T25 l0_4 x13_1).f2))).setCell ⟨gb153, 3, none⟩ (.slice A152_3 ((rd_T25 l0_4 x13_1).f3).length c152_3)).setCell ⟨gb153, 4, none⟩ (.slice A152_4 ((rd_T25 l0_4 x13_1).f4).length c152_4)).heap[gb148]? = some (.cells #[.int .i64 a0_0, .string a0_1, .string a0_2, .slice A0_3 l0_3.length c0_3, .slice (some ad152) l0_4.length c0_4] 25 (0, 0))) := ⟨by (with_reducible repeat (first | refine blk_drewN ?_ _ | refine blk_drew ?_ | refine blk_alloc ?_ _)); refine blk_far ?_ NB148_153.out _; (with_reducible repeat (first | refine blk_drewN ?_ _ | refine blk_drew ?_ | refine blk_alloc ?_ _)); refine blk_far ?_ NB148_153.out _; (with_reducible repeat (first | refine blk_drewN ?_ _ | refine blk_drew ?_ | refine blk_alloc ?_ _)); refine blk_far ?_ NB148_153.out _; (with_reducible repeat (first | refine blk_drewN ?_ _ | refine blk_drew ?_ | refine blk_alloc ?_ _)); refine blk_far ?_ NB148_153.out _; (with_reducible repeat (first | refine blk_drewN ?_ _ | refine blk_drew ?_ | refine blk_alloc ?_ _)); refine blk_far ?_ NB148_153.out _; (with_reducible repeat (first | refine blk_drewN ?_ _ | refine blk_drew ?_ | refine blk_alloc ?_ _)); exact BK148.out⟩
              have n3_ : Aside0 ((((((w13.setCell ⟨gb153, 0, none⟩ (.int .i64 ((rd_T25 l0_4 x13_1).f0))).setCell ⟨gb153, 1, none⟩ (.string ((rd_T25 l0_4 x13_1).f1))).setCell ⟨gb153, 2, none⟩ (.string ((rd_T25 l0_4 x13_1).f2))).setCell ⟨gb153, 3, none⟩ (.slice A152_3 ((rd_T25 l0_4 x13_1).f3).length c152_3)).setCell ⟨gb153, 4, none⟩ (.slice A152_4 ((rd_T25 l0_4 x13_1).f4).length c152_4)).heap[gb153]? = some (.cells #[.int .i64 ((rd_T25 l0_4 x13_1).f0), .string ((rd_T25 l0_4 x13_1).f1), .string ((rd_T25 l0_4 x13_1).f2), .slice A152_3 ((rd_T25 l0_4 x13_1).f3).length c152_3, .slice A152_4 ((rd_T25 l0_4 x13_1).f4).length c152_4] 25 (0, 0))) := ⟨by (with_reducible repeat (first | refine blk_drewN ?_ _ | refine blk_drew ?_ | refine blk_alloc ?_ _)); refine blk_put (cs := #[.int .i64 ((rd_T25 l0_4 x13_1).f0), .string ((rd_T25 l0_4 x13_1).f1), .string ((rd_T25 l0_4 x13_1).f2), .slice A152_3 ((rd_T25 l0_4 x13_1).f3).length c152_3, .slice none 0 0]) ?_ 4 _ rfl; (with_reducible repeat (first | refine blk_drewN ?_ _ | refine blk_drew ?_ | refine blk_alloc ?_ _)); refine blk_put (cs := #[.int .i64 ((rd_T25 l0_4 x13_1).f0), .string ((rd_T25 l0_4 x13_1).f1), .string ((rd_T25 l0_4 x13_1).f2), .slice none 0 0, .slice none 0 0]) ?_ 3 _ rfl; (with_reducible repeat (first | refine blk_drewN ?_ _ | refine blk_drew ?_ | refine blk_alloc ?_ _)); refine blk_put (cs := #[.int .i64 ((rd_T25 l0_4 x13_1).f0), .string ((rd_T25 l0_4 x13_1).f1), .string (⟨#[]⟩ : ByteArray), .slice none 0 0, .slice none 0 0]) ?_ 2 _ rfl; (with_reducible repeat (first | refine blk_drewN ?_ _ | refine blk_drew ?_ | refine blk_alloc ?_ _)); refine blk_put (cs := #[.int .i64 ((rd_T25 l0_4 x13_1).f0), .string (⟨#[]⟩ : ByteArray), .string (⟨#[]⟩ : ByteArray), .slice none 0 0, .slice none 0 0]) ?_ 1 _ rfl; (with_reducible repeat (first | refine blk_drewN ?_ _ | refine blk_drew ?_ | refine blk_alloc ?_ _)); refine blk_put (cs := #[.int .i64 0, .string (⟨#[]⟩ : ByteArray), .string (⟨#[]⟩ : ByteArray), .slice none 0 0, .slice none 0 0]) ?_ 0 _ rfl; (with_reducible repeat (first | refine blk_drewN ?_ _ | refine blk_drew ?_ | refine blk_alloc ?_ _)); exact BK153.out⟩
              have n4_ : Aside0 (Below w.heap.size w (((((w13.setCell ⟨gb153, 0, none⟩ (.int .i64 ((rd_T25 l0_4 x13_1).f0))).setCell ⟨gb153, 1, none⟩ (.string ((rd_T25 l0_4 x13_1).f1))).setCell ⟨gb153, 2, none⟩ (.string ((rd_T25 l0_4 x13_1).f2))).setCell ⟨gb153, 3, none⟩ (.slice A152_3 ((rd_T25 l0_4 x13_1).f3).length c152_3)).setCell ⟨gb153, 4, none⟩ (.slice A152_4 ((rd_T25 l0_4 x13_1).f4).length c152_4))) := ⟨by repeat (first | (with_reducible first | exact HB.out | apply below_alloc | apply pw_below_drewN | apply below_drew1 | refine below_set ?_ GE148.out | refine below_set ?_ GE153.out) | exact HB.out)⟩
              (try clear HO_1)
              (try clear HO_5)
              (try clear BK148)
              (try clear BK153)
              (try clear HB)
              generalize (((((w13.setCell ⟨gb153, 0, none⟩ (.int .i64 ((rd_T25 l0_4 x13_1).f0))).setCell ⟨gb153, 1, none⟩ (.string ((rd_T25 l0_4 x13_1).f1))).setCell ⟨gb153, 2, none⟩ (.string ((rd_T25 l0_4 x13_1).f2))).setCell ⟨gb153, 3, none⟩ (.slice A152_3 ((rd_T25 l0_4 x13_1).f3).length c152_3)).setCell ⟨gb153, 4, none⟩ (.slice A152_4 ((rd_T25 l0_4 x13_1).f4).length c152_4)) = w16 at n0_ n1_ n2_ n3_ n4_ ⊢
              have HO_1 := n0_
              have HO_5 := n1_
              have BK148 := n2_
              have BK153 := n3_
              have HB := n4_
              clear n0_ n1_ n2_ n3_ n4_
              have n0_ := Aside0.mk (Kd.V_drew HO_1.out)
              have n1_ := Aside0.mk (Kd.N_drew HO_5.out)
              have n2_ := Aside0.mk (blk_drew BK148.out)
              have n3_ := Aside0.mk (blk_drew BK153.out)
              have n4_ := Aside0.mk (below_drew1 HB.out)
              clear HO_1
              clear HO_5
              clear BK148
              clear BK153
              clear HB
              have HO_1 := n0_
              have HO_5 := n1_
              have BK148 := n2_
              have BK153 := n3_
              have HB := n4_
              clear n0_ n1_ n2_ n3_ n4_
              refine start_ (n := 8) (S := fun w' => w'.cell? ⟨gb153, 0, none⟩ = some (.int .i64 ((rd_T25 l0_4 x13_1).f0)) ∧ w'.cell? ⟨gb153, 1, none⟩ = some (.string ((rd_T25 l0_4 x13_1).f1)) ∧ w'.cell? ⟨gb153, 2, none⟩ = some (.string ((rd_T25 l0_4 x13_1).f2)) ∧ w'.cell? ⟨gb153, 3, none⟩ = some (.slice A152_3 ((rd_T25 l0_4 x13_1).f3).length c152_3) ∧ w'.cell? ⟨gb153, 4, none⟩ = some (.slice A152_4 ((rd_T25 l0_4 x13_1).f4).length c152_4)) (ds := []) #[false, false, false, false, false, false, false, false] (by kernel_rfl) rfl rfl ⟨(blk_cell BK153.out 0).trans rfl, (blk_cell BK153.out 1).trans rfl, (blk_cell BK153.out 2).trans rfl, (blk_cell BK153.out 3).trans rfl, (blk_cell BK153.out 4).trans rfl⟩ (fun hHeld => ?_); refine with_tabW spec_Walk29.tab5 spec_Walk29.bits5 (fun HT_ HW_ => ?_)
              generalize w16.drew = w17 at HO_1 HO_5 BK148 BK153 HB hHeld ⊢
              refine pure_ (i := 0) (N := some 18) (v := ?_) (a' := ?_) #[true, false, false, false, false, false, false, false] rfl rfl (any_of HT_.out (by kernel_rfl)) (fun _ _ _ h => h) (Or.inl ⟨by rfl, ?_⟩) ?_ ?_
              rotate_left
              · intro w'
                go_simp
                with_reducible rfl
              rotate_left
              · simp only [Act.put, List.setIfInBounds_toArray, List.set_cons_zero, List.set_cons_succ, i64_w, i32_w]
                rfl
              refine pure_ (i := 2) (N := some 20) (v := ?_) (a' := ?_) #[true, false, true, false, false, false, false, false] rfl rfl (any_of HT_.out (by kernel_rfl)) (fun _ _ _ h => h) (Or.inl ⟨by rfl, ?_⟩) ?_ ?_
              rotate_left
              · intro w'
                go_simp
                with_reducible rfl
              rotate_left
              · simp only [Act.put, List.setIfInBounds_toArray, List.set_cons_zero, List.set_cons_succ, i64_w, i32_w]
                rfl
              refine pure_ (i := 3) (N := some 21) (v := ?_) (a' := ?_) #[true, false, true, true, false, false, false, false] rfl rfl (any_of HT_.out (by kernel_rfl)) (fun _ _ _ h => h) (Or.inl ⟨by rfl, ?_⟩) ?_ ?_
              rotate_left
              · intro w'
                go_simp
                with_reducible rfl
              rotate_left
              · simp only [Act.put, List.setIfInBounds_toArray, List.set_cons_zero, List.set_cons_succ, i64_w, i32_w]
                rfl
              refine take_ (i := 1) (N := some 19) (v := ?_) (a' := ?_) #[true, true, true, true, false, false, false, false] rfl rfl (take_ofW HT_.out HW_.out (by kernel_rfl)) (fun _ _ _ h => h) (Or.inl ⟨by rfl, ?_⟩) hHeld ?_ ?_
              rotate_left
              · rintro w' ⟨s0, s1, s2, s3, s4⟩
                go_simp
                with_reducible rfl
              rotate_left
              · simp only [Act.put, List.setIfInBounds_toArray, List.set_cons_zero, List.set_cons_succ, i64_w, i32_w]
                rfl
              refine one_ (i := 4) (N := some 22) #[true, true, true, true, true, false, false, false] rfl rfl (one_of HT_.out (by kernel_rfl)) (by decide) (fun K hK => ?_)
              refine goes_ Try.func40 (by kernel_rfl) rfl #[.slice A1 l1.length c1, .int .i64 x13_1] (by rfl) rfl rfl (by (try simp only [List.map_toArray, List.map_cons, List.map_nil]); first | done | rfl | (simp only [List.length_drop, List.length_take]; rfl)) ?_
              with_reducible refine (spec_Under29.calls _ _ l1 x13_1 t154 _ ?side1 ?side2 A10.out).mono ?_
              (case side1 => repeat (first | exact (Kd.V_reads' HO_1.out).2.2 | (with_reducible refine Kd.C_alloc ?_ _) | (with_reducible refine Kd.C_drewN ?_ _) | (with_reducible refine Kd.C_drew ?_)))
              (case side2 => exact (Kd.V_reads' HO_1.out).2.1)
              rintro e w18 ⟨v155, rfl, ho0, hb⟩
              refine ⟨_, rfl, ?_⟩
              have n0_ := Aside0.mk (Kd.V_elder' (by (with_reducible repeat (first | apply Kd.V_alloc | apply Kd.V_drewN | apply Kd.V_drew)); exact HO_1.out) (Kd.R_base ho0) hb)
              have n1_ := Aside0.mk (Kd.N_elder' (by (with_reducible repeat (first | apply Kd.N_alloc | apply Kd.N_drewN | apply Kd.N_drew)); exact HO_5.out) (Kd.R_base ho0) hb)
              have n2_ := Aside0.mk (Kd.R_lower (Kd.R_newM (M := fun k_ => (w.heap.size ≤ k_)) ho0 (below_size (by repeat (first | (with_reducible first | exact HB.out | apply below_alloc | apply pw_below_drewN | apply below_drew1 | refine below_set ?_ GE148.out | refine below_set ?_ GE153.out) | exact HB.out))) (fun k_ h_ => h_)) (below_size (by repeat (first | (with_reducible first | exact HB.out | apply below_alloc | apply pw_below_drewN | apply below_drew1 | refine below_set ?_ GE148.out | refine below_set ?_ GE153.out) | exact HB.out))))
              have n3_ := Aside0.mk (blk_below (g := gb148) (o := .cells #[.int .i64 a0_0, .string a0_1, .string a0_2, .slice A0_3 l0_3.length c0_3, .slice (some ad152) l0_4.length c0_4] 25 (0, 0)) (by (with_reducible repeat (first | refine blk_drewN ?_ _ | refine blk_drew ?_ | refine blk_alloc ?_ _)); exact BK148.out) hb)
              have n4_ := Aside0.mk (blk_below (g := gb153) (o := .cells #[.int .i64 ((rd_T25 l0_4 x13_1).f0), .string ((rd_T25 l0_4 x13_1).f1), .string ((rd_T25 l0_4 x13_1).f2), .slice A152_3 ((rd_T25 l0_4 x13_1).f3).length c152_3, .slice A152_4 ((rd_T25 l0_4 x13_1).f4).length c152_4] 25 (0, 0)) (by (with_reducible repeat (first | refine blk_drewN ?_ _ | refine blk_drew ?_ | refine blk_alloc ?_ _)); exact BK153.out) hb)
              have n5_ := Aside0.mk (below_step (by repeat (first | (with_reducible first | exact HB.out | apply below_alloc | apply pw_below_drewN | apply below_drew1 | refine below_set ?_ GE148.out | refine below_set ?_ GE153.out) | exact HB.out)) hb)
              clear HO_1
              clear HO_5
              clear BK148
              clear BK153
              clear HB
              have HO_1 := n0_
              have HO_5 := n1_
              have HO156 := n2_
              have BK148 := n3_
              have BK153 := n4_
              have HB := n5_
              clear n0_ n1_ n2_ n3_ n4_ n5_
              (try clear hb)
              (try clear hb2)
              (try clear hk)
              (try clear hi)
              (try clear ho0)
              obtain ⟨Ao19, co19, eo19⟩ := Kd.R_slice HO156.out
              (first | subst eo19 | (injection eo19 with f1_ f2_ f3_; have f4_ := f1_.symm; have f5_ := f3_.symm; clear f1_ f2_ f3_; subst f4_; subst f5_))
              refine hK.out _ _ ⟨(blk_cell BK153.out 0).trans rfl, (blk_cell BK153.out 1).trans rfl, (blk_cell BK153.out 2).trans rfl, (blk_cell BK153.out 3).trans rfl, (blk_cell BK153.out 4).trans rfl⟩ (fun hHeld => ?_)
              clear hK K
              refine norm_ (a' := ?_) ?_ ?_
              rotate_left
              · show Act.put _ (some 22) _ = _
                simp only [Act.put, List.setIfInBounds_toArray, List.set_cons_zero, List.set_cons_succ, i64_w, i32_w]
                rfl
              refine one_ (i := 5) (N := some 23) #[true, true, true, true, true, true, false, false] rfl rfl (one_of HT_.out (by kernel_rfl)) (by decide) (fun K hK => ?_)
              refine goes_ Try.func14 (by kernel_rfl) rfl #[.agg #[.int .i64 ((rd_T25 l0_4 x13_1).f0), .string ((rd_T25 l0_4 x13_1).f1), .string ((rd_T25 l0_4 x13_1).f2), .slice A152_3 ((rd_T25 l0_4 x13_1).f3).length c152_3, .slice A152_4 ((rd_T25 l0_4 x13_1).f4).length c152_4], .slice Ao19 t154.length co19] (by rfl) rfl rfl (by (try simp only [List.map_toArray, List.map_cons, List.map_nil]); first | done | rfl | (simp only [List.length_drop, List.length_take]; rfl)) ?_
              with_reducible refine (ih k1 (by have := HK1.out; omega) ((rd_T25 l0_4 x13_1).f0) ((rd_T25 l0_4 x13_1).f1) ((rd_T25 l0_4 x13_1).f2) _ _ ((rd_T25 l0_4 x13_1).f3) _ _ ((rd_T25 l0_4 x13_1).f4) (fun k_ => some k_ = (.slice Ao19 t154.length co19 : Value).ownBlock) _ _ t154 t157 _ ?side1 ?side2 ?side3 ?side4 ?side5 A11.out).mono ?_
              (case side1 => repeat (first | exact (Kd.C_below HR152_3.out HB.out) | (with_reducible refine Kd.C_alloc ?_ _) | (with_reducible refine Kd.C_drewN ?_ _) | (with_reducible refine Kd.C_drew ?_)))
              (case side2 => exact HC152_3.out)
              (case side3 => repeat (first | exact (Kd.C_below HR152_4.out HB.out) | (with_reducible refine Kd.C_alloc ?_ _) | (with_reducible refine Kd.C_drewN ?_ _) | (with_reducible refine Kd.C_drew ?_)))
              (case side4 => exact HC152_4.out)
              (case side5 => exact Kd.R_V (Kd.R_tight rfl (Kd.R_types (Kd.R_types (Kd.R_apart' (HO156.out) (Kd.N_typed HO_5.out) (by decide)) BK148.out (by decide)) BK153.out (by decide))))
              rintro e w20 ⟨v158, rfl, ho0, hb⟩
              refine ⟨_, rfl, ?_⟩
              have n0_ := Aside0.mk (Kd.V_elder' (by (with_reducible repeat (first | apply Kd.V_alloc | apply Kd.V_drewN | apply Kd.V_drew)); exact HO_1.out) (Kd.N_base ho0) hb)
              have n1_ := Aside0.mk (Kd.N_elder' (by (with_reducible repeat (first | apply Kd.N_alloc | apply Kd.N_drewN | apply Kd.N_drew)); exact HO_5.out) (Kd.N_base ho0) hb)
              have n2_ := Aside0.mk (Kd.R_below (by (with_reducible repeat (first | apply Kd.R_alloc | apply Kd.R_drewN | apply Kd.R_drew)); exact HO156.out) hb)
              have n3_ := Aside0.mk (Kd.N_lower (Kd.N_mono (ok' := fun k_ => (P1_ k_ ∨ w.heap.size ≤ k_) ∧ some k_ ≠ (u5 : Value).ownBlock ∧ k_ ≠ gb148 ∧ k_ ≠ gb153) ho0 (fun k_ hk_ => ⟨Or.elim hk_ (fun hs_ => (.inr (((Kd.R_types (Kd.R_types (Kd.R_apart' (HO156.out) (Kd.N_typed HO_5.out) (by decide)) BK148.out (by decide)) BK153.out (by decide)).1 k_ hs_.symm).1.1.1.1))) (fun hn_ => (.inr (Nat.le_trans (below_size (by repeat (first | (with_reducible first | exact HB.out | apply below_alloc | apply pw_below_drewN | apply below_drew1 | refine below_set ?_ GE148.out | refine below_set ?_ GE153.out) | exact HB.out))) hn_))), Or.elim hk_ (fun hs_ => ((Kd.R_types (Kd.R_types (Kd.R_apart' (HO156.out) (Kd.N_typed HO_5.out) (by decide)) BK148.out (by decide)) BK153.out (by decide)).1 k_ hs_.symm).1.1.2) (fun hn_ => (Kd.fresh' (Kd.N_lt (by (with_reducible repeat (first | apply Kd.N_alloc | apply Kd.N_drewN | apply Kd.N_drew)); exact HO_5.out)) k_ hn_)), Or.elim hk_ (fun hs_ => ((Kd.R_types (Kd.R_types (Kd.R_apart' (HO156.out) (Kd.N_typed HO_5.out) (by decide)) BK148.out (by decide)) BK153.out (by decide)).1 k_ hs_.symm).1.2) (fun hn_ => (Kd.freshB (g := gb148) (o := .cells #[.int .i64 a0_0, .string a0_1, .string a0_2, .slice A0_3 l0_3.length c0_3, .slice (some ad152) l0_4.length c0_4] 25 (0, 0)) (by (with_reducible repeat (first | refine blk_drewN ?_ _ | refine blk_drew ?_ | refine blk_alloc ?_ _)); exact BK148.out) k_ hn_)), Or.elim hk_ (fun hs_ => ((Kd.R_types (Kd.R_types (Kd.R_apart' (HO156.out) (Kd.N_typed HO_5.out) (by decide)) BK148.out (by decide)) BK153.out (by decide)).1 k_ hs_.symm).2) (fun hn_ => (Kd.freshB (g := gb153) (o := .cells #[.int .i64 ((rd_T25 l0_4 x13_1).f0), .string ((rd_T25 l0_4 x13_1).f1), .string ((rd_T25 l0_4 x13_1).f2), .slice A152_3 ((rd_T25 l0_4 x13_1).f3).length c152_3, .slice A152_4 ((rd_T25 l0_4 x13_1).f4).length c152_4] 25 (0, 0)) (by (with_reducible repeat (first | refine blk_drewN ?_ _ | refine blk_drew ?_ | refine blk_alloc ?_ _)); exact BK153.out) k_ hn_))⟩)) (below_size (by repeat (first | (with_reducible first | exact HB.out | apply below_alloc | apply pw_below_drewN | apply below_drew1 | refine below_set ?_ GE148.out | refine below_set ?_ GE153.out) | exact HB.out))))
              have n4_ := Aside0.mk (blk_below (g := gb148) (o := .cells #[.int .i64 a0_0, .string a0_1, .string a0_2, .slice A0_3 l0_3.length c0_3, .slice (some ad152) l0_4.length c0_4] 25 (0, 0)) (by (with_reducible repeat (first | refine blk_drewN ?_ _ | refine blk_drew ?_ | refine blk_alloc ?_ _)); exact BK148.out) hb)
              have n5_ := Aside0.mk (blk_below (g := gb153) (o := .cells #[.int .i64 ((rd_T25 l0_4 x13_1).f0), .string ((rd_T25 l0_4 x13_1).f1), .string ((rd_T25 l0_4 x13_1).f2), .slice A152_3 ((rd_T25 l0_4 x13_1).f3).length c152_3, .slice A152_4 ((rd_T25 l0_4 x13_1).f4).length c152_4] 25 (0, 0)) (by (with_reducible repeat (first | refine blk_drewN ?_ _ | refine blk_drew ?_ | refine blk_alloc ?_ _)); exact BK153.out) hb)
              have n6_ := Aside0.mk (below_step (by repeat (first | (with_reducible first | exact HB.out | apply below_alloc | apply pw_below_drewN | apply below_drew1 | refine below_set ?_ GE148.out | refine below_set ?_ GE153.out) | exact HB.out)) hb)
              clear HO_1
              clear HO_5
              clear HO156
              clear BK148
              clear BK153
              clear HB
              have HO_1 := n0_
              have HO_5 := n1_
              have HO156 := n2_
              have HO159 := n3_
              have BK148 := n4_
              have BK153 := n5_
              have HB := n6_
              clear n0_ n1_ n2_ n3_ n4_ n5_ n6_
              (try clear hb)
              (try clear hb2)
              (try clear hk)
              (try clear hi)
              (try clear ho0)
              obtain ⟨Ao22, co22, eo22⟩ := Kd.N_slice HO159.out
              (first | subst eo22 | (injection eo22 with f1_ f2_ f3_; have f4_ := f1_.symm; have f5_ := f3_.symm; clear f1_ f2_ f3_; subst f4_; subst f5_))
              refine hK.out _ _ ⟨(blk_cell BK153.out 0).trans rfl, (blk_cell BK153.out 1).trans rfl, (blk_cell BK153.out 2).trans rfl, (blk_cell BK153.out 3).trans rfl, (blk_cell BK153.out 4).trans rfl⟩ (fun hHeld => ?_)
              clear hK K
              refine norm_ (a' := ?_) ?_ ?_
              rotate_left
              · show Act.put _ (some 23) _ = _
                simp only [Act.put, List.setIfInBounds_toArray, List.set_cons_zero, List.set_cons_succ, i64_w, i32_w]
                rfl
              refine one_ (i := 6) (N := some 24) #[true, true, true, true, true, true, true, false] rfl rfl (one_of HT_.out (by kernel_rfl)) (by decide) (fun K hK => ?_)
              refine Kd.N_append_rows_step (Kd.slice 3 (Kd.int .i64)) (w0 := w) w.heap.size (by rfl) (.tmp 18) (.tmp 23) 29 32 (.slice none 0 0) 24 rfl Try.underlying29 info32 rfl (by decide) (by omega) u5 x5_1 t157 _ _ _ (fun k_ => (P1_ k_ ∨ w.heap.size ≤ k_) ∧ k_ ≠ gb148 ∧ k_ ≠ gb153) (fun k_ => ((fun k_ => (P1_ k_ ∨ w.heap.size ≤ k_) ∧ k_ ≠ gb148 ∧ k_ ≠ gb153)) k_ ∧ some k_ ≠ (u5 : Value).ownBlock) rfl rfl ?aO ?aR (fun _ hk => hk) ?aF ?aB ?aS ?aL ?_
              (case aR => exact (by skip; exact Kd.N_F (Kd.N_mono (ok' := (fun k_ => ((fun k_ => (P1_ k_ ∨ w.heap.size ≤ k_) ∧ k_ ≠ gb148 ∧ k_ ≠ gb153)) k_ ∧ some k_ ≠ (u5 : Value).ownBlock)) (HO159.out) (fun k_ hk => ⟨⟨hk.1, ⟨hk.2.2.1, hk.2.2.2⟩⟩, hk.2.1⟩))))
              (case aB => exact (by repeat (first | (with_reducible first | exact HB.out | apply below_alloc | apply pw_below_drewN | apply below_drew1 | refine below_set ?_ GE148.out | refine below_set ?_ GE153.out) | exact HB.out)))
              (case aF => exact (fun k_ hk => ⟨(.inr (Nat.le_trans (below_size (by repeat (first | (with_reducible first | exact HB.out | apply below_alloc | apply pw_below_drewN | apply below_drew1 | refine below_set ?_ GE148.out | refine below_set ?_ GE153.out) | exact HB.out))) hk)), Kd.freshB (g := gb148) (o := .cells #[.int .i64 a0_0, .string a0_1, .string a0_2, .slice A0_3 l0_3.length c0_3, .slice (some ad152) l0_4.length c0_4] 25 (0, 0)) (by (with_reducible repeat (first | refine blk_drewN ?_ _ | refine blk_drew ?_ | refine blk_alloc ?_ _)); exact BK148.out) k_ hk, Kd.freshB (g := gb153) (o := .cells #[.int .i64 ((rd_T25 l0_4 x13_1).f0), .string ((rd_T25 l0_4 x13_1).f1), .string ((rd_T25 l0_4 x13_1).f2), .slice A152_3 ((rd_T25 l0_4 x13_1).f3).length c152_3, .slice A152_4 ((rd_T25 l0_4 x13_1).f4).length c152_4] 25 (0, 0)) (by (with_reducible repeat (first | refine blk_drewN ?_ _ | refine blk_drew ?_ | refine blk_alloc ?_ _)); exact BK153.out) k_ hk⟩))
              (case aO => exact (by (with_reducible repeat (first | apply Kd.N_alloc | apply Kd.N_drewN | apply Kd.N_drew)); exact Kd.N_mono HO_5.out (fun _ hk => ⟨hk.1.1.1, ⟨hk.1.1.2.1, hk.1.1.2.2⟩⟩)))
              (case aS => exact (below_size (by repeat (first | (with_reducible first | exact HB.out | apply below_alloc | apply pw_below_drewN | apply below_drew1 | refine below_set ?_ GE148.out | refine below_set ?_ GE153.out) | exact HB.out))))
              (case aL => have := LMc12.out; omega)
              intro v161 w21 ho hb hg hat
              rw [← Ny160.out] at ho
              have n0_ := Aside0.mk (Kd.V_afterv (ok := (fun k_ => (P1_ k_ ∨ w.heap.size ≤ k_) ∧ some k_ ≠ (.slice Ao19 t154.length co19 : Value).ownBlock ∧ some k_ ≠ (.slice Ao22 t157.length co22 : Value).ownBlock ∧ k_ ≠ gb148 ∧ k_ ≠ gb153)) (by (with_reducible repeat (first | apply Kd.V_alloc | apply Kd.V_drewN | apply Kd.V_drew)); exact Kd.V_mono HO_1.out (fun _ hk => ⟨⟨hk.1.1.1, ⟨hk.1.2, ⟨hk.2, ⟨hk.1.1.2.2.1, hk.1.1.2.2.2⟩⟩⟩⟩, hk.1.1.2.1⟩)) hg hat)
              have n1_ := Aside0.mk (blk_grown (g := gb148) (o := .cells #[.int .i64 a0_0, .string a0_1, .string a0_2, .slice A0_3 l0_3.length c0_3, .slice (some ad152) l0_4.length c0_4] 25 (0, 0)) (by (with_reducible repeat (first | refine blk_drewN ?_ _ | refine blk_drew ?_ | refine blk_alloc ?_ _)); exact BK148.out) hg (Kd.N_ne HO_5.out BK148.out (by decide)))
              have n2_ := Aside0.mk (blk_grown (g := gb153) (o := .cells #[.int .i64 ((rd_T25 l0_4 x13_1).f0), .string ((rd_T25 l0_4 x13_1).f1), .string ((rd_T25 l0_4 x13_1).f2), .slice A152_3 ((rd_T25 l0_4 x13_1).f3).length c152_3, .slice A152_4 ((rd_T25 l0_4 x13_1).f4).length c152_4] 25 (0, 0)) (by (with_reducible repeat (first | refine blk_drewN ?_ _ | refine blk_drew ?_ | refine blk_alloc ?_ _)); exact BK153.out) hg (Kd.N_ne HO_5.out BK153.out (by decide)))
              have n3_ := Aside0.mk (Kd.R_over' (by (with_reducible repeat (first | apply Kd.R_alloc | apply Kd.R_drewN | apply Kd.R_drew)); exact HO156.out) (Kd.N_typed (by (with_reducible repeat (first | apply Kd.N_alloc | apply Kd.N_drewN | apply Kd.N_drew)); exact HO_5.out)) (by decide) hg)
              have n4_ := Aside0.mk (Kd.N_afterv (ok := (fun k_ => (P1_ k_ ∨ w.heap.size ≤ k_) ∧ k_ ≠ gb148 ∧ k_ ≠ gb153)) (by (with_reducible repeat (first | apply Kd.N_alloc | apply Kd.N_drewN | apply Kd.N_drew)); exact Kd.N_mono HO159.out (fun _ hk => ⟨⟨hk.1, ⟨hk.2.2.1, hk.2.2.2⟩⟩, hk.2.1⟩)) hg hat)
              have n5_ := Aside0.mk (hb)
              have n6_ := Aside0.mk (ho)
              clear HO_1
              clear BK148
              clear BK153
              clear HO156
              clear HO159
              clear HB
              clear HO_5
              have HO_1 := n0_
              have BK148 := n1_
              have BK153 := n2_
              have HO156 := n3_
              have HO159 := n4_
              have HB := n5_
              have HO162 := n6_
              clear n0_ n1_ n2_ n3_ n4_ n5_ n6_
              clear ho hb hg hat
              refine hK.out _ _ ⟨(blk_cell BK153.out 0).trans rfl, (blk_cell BK153.out 1).trans rfl, (blk_cell BK153.out 2).trans rfl, (blk_cell BK153.out 3).trans rfl, (blk_cell BK153.out 4).trans rfl⟩ (fun hHeld => ?_)
              clear hK K
              refine norm_ (a' := ?_) ?_ ?_
              rotate_left
              · show Act.put _ (some 24) _ = _
                simp only [Act.put, List.setIfInBounds_toArray, List.set_cons_zero, List.set_cons_succ, i64_w, i32_w]
                rfl
              refine pure_ (i := 7) (N := some 5) (v := ?_) (a' := ?_) #[true, true, true, true, true, true, true, true] rfl rfl (any_of HT_.out (by kernel_rfl)) (fun _ _ _ h => h) (Or.inl ⟨by rfl, ?_⟩) ?_ ?_
              rotate_left
              · intro w'
                go_simp
                with_reducible rfl
              rotate_left
              · simp only [Act.put, List.setIfInBounds_toArray, List.set_cons_zero, List.set_cons_succ, i64_w, i32_w]
                rfl
              refine done_ (done_of HT_.out (by kernel_rfl)) ?_
              try go_wp2
              go_roundg k1
              case measure => have := HK1.out; omega
              case rel => exact ⟨(y160), (wrap64 (x13_1 + 1)), (by first | rfl | (simp; done) | (simp [*]; done)), H', ⟨by have := HK1.out; omega⟩, ⟨by (with_reducible repeat (first | apply Kd.V_alloc | apply Kd.V_drewN | apply Kd.V_drew)); exact Kd.V_mono HO_1.out (fun _ hk => ⟨hk.1.1, ⟨hk.2, hk.1.2.2.2.1⟩⟩)⟩, ⟨by (with_reducible repeat (first | apply Kd.N_alloc | apply Kd.N_drewN | apply Kd.N_drew)); exact Kd.N_mono HO162.out (fun _ hk => ⟨hk.1, hk.2.1⟩)⟩, ⟨by (with_reducible repeat (first | refine blk_drewN ?_ _ | refine blk_drew ?_ | refine blk_alloc ?_ _)); exact BK148.out⟩, ⟨by repeat (first | (with_reducible first | exact HB.out | apply below_alloc | apply pw_below_drewN | apply below_drew1 | refine below_set ?_ GE148.out | refine below_set ?_ GE153.out) | exact HB.out)⟩⟩
            · rw [if_neg c12] at H
              exact absurd H (by simp)
          · rw [if_neg c9] at H
            exact absurd H (by simp)
        · rw [if_neg c8] at H
          exact absurd H (by simp)
      · rw [if_neg c7] at H
        have c7b0 : decide (x13_1 < (l0_4.length : Int)) = false := decide_eq_false c7
        clear c7
        obtain rfl := Option.some.inj H
        go_wp2
        go_ret
        exact ⟨_, by first | rfl | (simp [errW_none, errW_some] <;> rfl) | (simp [*, errW_none, errW_some] <;> rfl), by (with_reducible repeat (first | apply Kd.N_alloc | apply Kd.N_drewN | apply Kd.N_drew)); exact Kd.N_mono HO_5.out (fun _ hk => hk.1), by repeat (first | (with_reducible first | exact HB.out | apply below_alloc | apply pw_below_drewN | apply below_drew1 | refine below_set ?_ GE148.out) | exact HB.out)⟩

-- NOT PRINTED: function 4 (laws_FnDomAll)

/-! ### spec_At29: function 17 -/
def spec_At29.l0 : Nat → List Int → Int → Int → Int → ByteArray → ByteArray → List (S78) → List (S25) → Option (Int × ByteArray × ByteArray × (List (S78)) × (List (S25)) × Bool)
  | 0, _, _, _, _, _, _, _, _ => none
  | k + 1, x8, x9, x10, x168000, x168001, x168002, x168003, x168004 => if x10 < x9 then (if 0 ≤ x10 then (if x10 < (x8.length : Int) then (if (rd x8 x10) < 0 then (some (0, (⟨#[]⟩ : ByteArray), (⟨#[]⟩ : ByteArray), ([] : List (S78)), ([] : List (S25)), false)) else (if (rd x8 x10) ≥ (x168004.length : Int) then (some (0, (⟨#[]⟩ : ByteArray), (⟨#[]⟩ : ByteArray), ([] : List (S78)), ([] : List (S25)), false)) else (if 0 ≤ (rd x8 x10) then (if (rd x8 x10) < (x168004.length : Int) then (spec_At29.l0 k x8 x9 (wrap64 (x10 + 1)) ((rd_T25 x168004 (rd x8 x10)).f0) ((rd_T25 x168004 (rd x8 x10)).f1) ((rd_T25 x168004 (rd x8 x10)).f2) ((rd_T25 x168004 (rd x8 x10)).f3) ((rd_T25 x168004 (rd x8 x10)).f4)) else (none)) else (none)))) else (none)) else (none)) else (some (x168000, x168001, x168002, x168003, x168004, true))
def spec_At29.f (k : Nat) (a0_0 : Int) (a0_1 : ByteArray) (a0_2 : ByteArray) (l0_3 : List (S78)) (l0_4 : List (S25)) (l1 : List Int) : Option (Int × ByteArray × ByteArray × (List (S78)) × (List (S25)) × Bool) := spec_At29.l0 k l1 (l1.length : Int) 0 a0_0 a0_1 a0_2 l0_3 l0_4
theorem spec_At29.mono_l : ∀ k, (∀ y0 y1 y2 y3 y4 y5 y6 y7, LeO (spec_At29.l0 k y0 y1 y2 y3 y4 y5 y6 y7) (spec_At29.l0 (k + 1) y0 y1 y2 y3 y4 y5 y6 y7))
  | 0 => fun _ _ _ _ _ _ _ _ r h => by simp [spec_At29.l0] at h
  | k + 1 => by
    have ih0 := spec_At29.mono_l k
    · intro y0 y1 y2 y3 y4 y5 y6 y7
      unfold spec_At29.l0
      repeat' first
      | (with_reducible exact ih0 _ _ _ _ _ _ _ _)
      | (with_reducible exact LeO.refl _)
      | (with_reducible exact LeO.none _)
      | (with_reducible refine LeO.ite ?_ ?_)
      | (with_reducible refine LeO.bind ?_ (fun _ => ?_))
      | exact ih0 _ _ _ _ _ _ _ _
      | exact LeO.none _
      | refine LeO.ite ?_ ?_
      | refine LeO.bind ?_ (fun _ => ?_)
theorem spec_At29.mono : ∀ a0 a1 a2 a3 a4 a5 k, LeO (spec_At29.f k a0 a1 a2 a3 a4 a5) (spec_At29.f (k + 1) a0 a1 a2 a3 a4 a5) := by
  intro a0 a1 a2 a3 a4 a5 k
  have ih0 := spec_At29.mono_l k
  unfold spec_At29.f
  repeat' first
      | (with_reducible exact ih0 _ _ _ _ _ _ _ _)
      | (with_reducible exact LeO.refl _)
      | (with_reducible exact LeO.none _)
      | (with_reducible refine LeO.ite ?_ ?_)
      | (with_reducible refine LeO.bind ?_ (fun _ => ?_))
      | exact ih0 _ _ _ _ _ _ _ _
      | exact LeO.none _
      | refine LeO.ite ?_ ?_
      | refine LeO.bind ?_ (fun _ => ?_)
set_option maxHeartbeats 8000000 in
set_option maxRecDepth 100000 in
theorem spec_At29.calls (k : Nat) (a0_0 : Int) (a0_1 : ByteArray) (a0_2 : ByteArray) (P0_3_ : Nat → Prop) (A0_3 : Option Addr) (c0_3 : Nat) (l0_3 : List (S78)) (P0_4_ : Nat → Prop) (A0_4 : Option Addr) (c0_4 : Nat) (l0_4 : List (S25)) (A1 : Option Addr) (c1 : Nat) (l1 : List Int) (r1 : Int) (r2 : ByteArray) (r3 : ByteArray) (r4 : List (S78)) (r5 : List (S25)) (r6 : Bool) (w : World) (hs0_3 : Kd.V k78 78 w w.heap.size (fun k_ => P0_3_ k_) (.slice A0_3 l0_3.length c0_3) l0_3) (hs0_4 : Kd.V k25 25 w w.heap.size (fun k_ => P0_4_ k_) (.slice A0_4 l0_4.length c0_4) l0_4) (hr1 : Kd.C (Kd.int .i64) w A1 l1.length l1) (hc1 : l1.length ≤ c1) (h : spec_At29.f k a0_0 a0_1 a0_2 l0_3 l0_4 l1 = some (r1, r2, r3, r4, r5, r6)) :
    Calls Try.prog 17 #[.agg #[.int .i64 a0_0, .string a0_1, .string a0_2, .slice A0_3 l0_3.length c0_3, .slice A0_4 l0_4.length c0_4], .slice A1 l1.length c1] w fun e w' => ∃ v3_ v4_ : Value, e = .returned (.tuple #[.agg #[.int .i64 r1, .string r2, .string r3, v3_, v4_], .bool r6]) ∧ Kd.V k78 78 w' w.heap.size (fun k_ => ((P0_3_ k_ ∨ P0_4_ k_) ∨ w.heap.size ≤ k_)) v3_ r4 ∧ Kd.V k25 25 w' w.heap.size (fun k_ => ((P0_3_ k_ ∨ P0_4_ k_) ∨ w.heap.size ≤ k_)) v4_ r5 ∧ Below w.heap.size w w' := by
  have hu25 := Try.underlying25
  have HO0_3 := Aside0.mk (show Kd.V k78 78 w w.heap.size (fun k_ => ((P0_3_ k_ ∨ P0_4_ k_) ∨ w.heap.size ≤ k_)) (.slice A0_3 l0_3.length c0_3) l0_3 from Kd.V_mono hs0_3 (fun k_ hk => .inl (.inl hk)))
  have HO0_4 := Aside0.mk (show Kd.V k25 25 w w.heap.size (fun k_ => ((P0_3_ k_ ∨ P0_4_ k_) ∨ w.heap.size ≤ k_)) (.slice A0_4 l0_4.length c0_4) l0_4 from Kd.V_mono hs0_4 (fun k_ hk => .inl (.inr hk)))
  have HR1 := Aside0.mk hr1
  have HC1 := Aside0.mk hc1
  clear hr1 hc1
  have HB := Aside0.mk (Below.refl w.heap.size w)
  have H : (spec_At29.l0 k l1 (l1.length : Int) 0 a0_0 a0_1 a0_2 l0_3 l0_4) = some (r1, r2, r3, r4, r5, r6) := h
  clear h
  have H' := Aside0.mk H
  clear H
  go_enter Try.func17, Try.ntmps17
  go_wp2_with (first | ((with_reducible refine gate_dst (N := 2) rfl ?_); (try (refine gate_guard (by rfl) ?_; dsimp only)); refine box_event ?hg (N := 2) ?hd (cs := #[.int .i64 a0_0, .string a0_1, .string a0_2, .slice A0_3 l0_3.length c0_3, .slice A0_4 l0_4.length c0_4]) (t := 25) ?hr ?_; (case hd => rfl); (case hg => rfl); (case hr => first | (go_simp; done) | (go_simp; rfl)); intro gb167 hg w3 hbox hb; have n0_ := Aside0.mk (Kd.V_below (Kd.V_elderB (by (with_reducible repeat (first | apply Kd.V_alloc | apply Kd.V_drewN | apply Kd.V_drew)); exact HO0_3.out) gb167 (Nat.le_of_eq hg.symm)) hb); have n1_ := Aside0.mk (Kd.V_below (Kd.V_elderB (by (with_reducible repeat (first | apply Kd.V_alloc | apply Kd.V_drewN | apply Kd.V_drew)); exact HO0_4.out) gb167 (Nat.le_of_eq hg.symm)) hb); have n2_ := Aside0.mk (below_step (by repeat (first | (with_reducible first | exact HB.out | apply below_alloc | apply pw_below_drewN | apply below_drew1) | exact HB.out)) hb); have n3_ := Aside0.mk (hbox); have n4_ := Aside0.mk ((by rw [hg]; exact (below_size (by repeat (first | (with_reducible first | exact HB.out | apply below_alloc | apply pw_below_drewN | apply below_drew1) | exact HB.out))) : w.heap.size ≤ gb167)); have n5_ := Aside0.mk ((by rw [hg]; exact (below_size (by repeat (first | (with_reducible first | exact HB.out | apply below_alloc | apply pw_below_drewN | apply below_drew1) | exact HB.out))) : w.heap.size ≤ gb167)); clear HO0_3; clear HO0_4; clear HB; have HO0_3 := n0_; have HO0_4 := n1_; have HB := n2_; have BK167 := n3_; have GW167 := n4_; have GE167 := n5_; clear n0_ n1_ n2_ n3_ n4_ n5_; clear hb hbox hg) | ((with_reducible refine gate_dst (N := 4) rfl ?_); (try (refine gate_guard (by rfl) ?_; dsimp only)); refine box_event ?hg (N := 4) ?hd (cs := #[.int .i64 0, .string (⟨#[]⟩ : ByteArray), .string (⟨#[]⟩ : ByteArray), .slice none 0 0, .slice none 0 0]) (t := 25) ?hr ?_; (case hd => rfl); (case hg => rfl); (case hr => first | (go_simp; done) | (go_simp; rfl)); intro gb168 hg w4 hbox hb; have n0_ := Aside0.mk (Kd.V_below (Kd.V_elderB (by (with_reducible repeat (first | apply Kd.V_alloc | apply Kd.V_drewN | apply Kd.V_drew)); exact HO0_3.out) gb168 (Nat.le_of_eq hg.symm)) hb); have n1_ := Aside0.mk (Kd.V_below (Kd.V_elderB (by (with_reducible repeat (first | apply Kd.V_alloc | apply Kd.V_drewN | apply Kd.V_drew)); exact HO0_4.out) gb168 (Nat.le_of_eq hg.symm)) hb); have n2_ := Aside0.mk (blk_below (g := gb167) (o := .cells #[.int .i64 a0_0, .string a0_1, .string a0_2, .slice A0_3 l0_3.length c0_3, .slice A0_4 l0_4.length c0_4] 25 (0, 0)) (by (with_reducible repeat (first | refine blk_drewN ?_ _ | refine blk_drew ?_ | refine blk_alloc ?_ _)); exact BK167.out) hb); have n3_ := Aside0.mk (below_step (by repeat (first | (with_reducible first | exact HB.out | apply below_alloc | apply pw_below_drewN | apply below_drew1 | refine below_set ?_ GE167.out) | exact HB.out)) hb); have n4_ := Aside0.mk (hbox); have n5_ := Aside0.mk ((by rw [hg]; exact (below_size (by repeat (first | (with_reducible first | exact HB.out | apply below_alloc | apply pw_below_drewN | apply below_drew1 | refine below_set ?_ GE167.out) | exact HB.out))) : w.heap.size ≤ gb168)); have n6_ := Aside0.mk ((by rw [hg]; exact (below_size (by repeat (first | (with_reducible first | exact HB.out | apply below_alloc | apply pw_below_drewN | apply below_drew1 | refine below_set ?_ GE167.out) | exact HB.out))) : w.heap.size ≤ gb168)); have n7_ := Aside0.mk ((by rw [hg]; exact Nat.ne_of_lt (blk_lt (g := gb167) (o := .cells #[.int .i64 a0_0, .string a0_1, .string a0_2, .slice A0_3 l0_3.length c0_3, .slice A0_4 l0_4.length c0_4] 25 (0, 0)) (by (with_reducible repeat (first | refine blk_drewN ?_ _ | refine blk_drew ?_ | refine blk_alloc ?_ _)); exact BK167.out)) : gb167 ≠ gb168)); have n8_ := Aside0.mk ((by rw [hg]; exact Nat.ne_of_gt (blk_lt (g := gb167) (o := .cells #[.int .i64 a0_0, .string a0_1, .string a0_2, .slice A0_3 l0_3.length c0_3, .slice A0_4 l0_4.length c0_4] 25 (0, 0)) (by (with_reducible repeat (first | refine blk_drewN ?_ _ | refine blk_drew ?_ | refine blk_alloc ?_ _)); exact BK167.out)) : gb168 ≠ gb167)); clear HO0_3; clear HO0_4; clear BK167; clear HB; have HO0_3 := n0_; have HO0_4 := n1_; have BK167 := n2_; have HB := n3_; have BK168 := n4_; have GW168 := n5_; have GE168 := n6_; have NB167_168 := n7_; have NB168_167 := n8_; clear n0_ n1_ n2_ n3_ n4_ n5_ n6_ n7_ n8_; clear hb hbox hg))
  go_loopg [10] k (fun kq v10 w' => ∃ (x10_1 : Int) (x168000_1 : Int) (x168001_1 : ByteArray) (x168002_1 : ByteArray) (x168003_1 : List (S78)) (x168004_1 : List (S25)) (x169000_1 : Int) (x169001_1 : ByteArray) (x169002_1 : ByteArray) (u168003 : Value) (u168004 : Value), v10 = .int .i64 x10_1 ∧ Aside0 (spec_At29.l0 kq l1 (l1.length : Int) x10_1 x168000_1 x168001_1 x168002_1 x168003_1 x168004_1 = some (r1, r2, r3, r4, r5, r6)) ∧ Aside0 (kq ≤ k) ∧ Aside0 (Kd.V k78 78 w' w.heap.size (fun k_ => ((P0_3_ k_ ∨ P0_4_ k_) ∨ w.heap.size ≤ k_) ∧ k_ ≠ gb167 ∧ k_ ≠ gb168) u168003 x168003_1) ∧ Aside0 (Kd.V k25 25 w' w.heap.size (fun k_ => ((P0_3_ k_ ∨ P0_4_ k_) ∨ w.heap.size ≤ k_) ∧ k_ ≠ gb167 ∧ k_ ≠ gb168) u168004 x168004_1) ∧ Aside0 (w'.heap[gb167]? = some (.cells #[.int .i64 x168000_1, .string x168001_1, .string x168002_1, u168003, u168004] 25 (0, 0))) ∧ Aside0 (w'.heap[gb168]? = some (.cells #[.int .i64 x169000_1, .string x169001_1, .string x169002_1, (.slice none 0 0), (.slice none 0 0)] 25 (0, 0))) ∧ Aside0 (Below w.heap.size w w'))
  case atStart => exact ⟨(0), (a0_0), (a0_1), (a0_2), (l0_3), (l0_4), (0), ((⟨#[]⟩ : ByteArray)), ((⟨#[]⟩ : ByteArray)), (.slice A0_3 l0_3.length c0_3), (.slice A0_4 l0_4.length c0_4), (by first | rfl | (simp; done) | (simp [*]; done)), H', ⟨Nat.le_refl _⟩, ⟨by (with_reducible repeat (first | apply Kd.V_alloc | apply Kd.V_drewN | apply Kd.V_drew)); exact Kd.V_mono HO0_3.out (fun _ hk => ⟨hk.1.1, ⟨hk.1.2, hk.2⟩⟩)⟩, ⟨by (with_reducible repeat (first | apply Kd.V_alloc | apply Kd.V_drewN | apply Kd.V_drew)); exact Kd.V_mono HO0_4.out (fun _ hk => ⟨hk.1.1, ⟨hk.1.2, hk.2⟩⟩)⟩, ⟨by (with_reducible repeat (first | refine blk_drewN ?_ _ | refine blk_drew ?_ | refine blk_alloc ?_ _)); exact BK167.out⟩, ⟨by (with_reducible repeat (first | refine blk_drewN ?_ _ | refine blk_drew ?_ | refine blk_alloc ?_ _)); exact BK168.out⟩, ⟨by repeat (first | (with_reducible first | exact HB.out | apply below_alloc | apply pw_below_drewN | apply below_drew1 | refine below_set ?_ GE167.out | refine below_set ?_ GE168.out) | exact HB.out)⟩⟩
  case round =>
    clear H'
    try clear c1
    try clear p2
    obtain ⟨x10_1, x168000_1, x168001_1, x168002_1, x168003_1, x168004_1, x169000_1, x169001_1, x169002_1, u168003, u168004, rfl, HA, HK1, HO_168003, HO_168004, BK167, BK168, HB⟩ := hrel
    cases gk with
    | zero => exact absurd HA.out (by simp [spec_At29.l0])
    | succ k1 =>
      have H := HA.out
      clear HA
      simp only [spec_At29.l0] at H
      by_cases c5 : x10_1 < (l1.length : Int)
      · rw [if_pos c5] at H
        have c5b0 : decide (x10_1 < (l1.length : Int)) = true := decide_eq_true c5
        clear c5
        by_cases c6 : 0 ≤ x10_1
        · rw [if_pos c6] at H
          have c6b0 : decide (0 ≤ x10_1) = true := decide_eq_true c6
          clear c6
          by_cases c7 : x10_1 < (l1.length : Int)
          · rw [if_pos c7] at H
            have c7b0 : decide (x10_1 < (l1.length : Int)) = true := decide_eq_true c7
            clear c7
            by_cases c8 : (rd l1 x10_1) < 0
            · rw [if_pos c8] at H
              have c8b0 : decide ((rd l1 x10_1) < 0) = true := decide_eq_true c8
              clear c8
              simp only [Option.some.injEq, Prod.mk.injEq] at H
              obtain ⟨rfl, rfl, rfl, rfl, rfl, rfl⟩ := H
              have p169 : 0 ≤ (x10_1 : Int) := of_decide_eq_true (by first | (with_reducible assumption) | assumption)
              have q169 : x10_1 < (l1.length : Int) := of_decide_eq_true (by first | (with_reducible assumption) | assumption)
              obtain ⟨ad169, e169, hx169_0⟩ := Kd.at_int HR1.out x10_1 p169 q169
              cases e169
              replace hx169_0 := (HB.out.cell (World.block_lt_of_cell? w _ hx169_0)).trans hx169_0
              replace p169 := eq_true p169
              replace q169 := eq_true q169
              have hnb9 := NB168_167.out
              have hnc9 := NB167_168.out
              have hcz10_0 : wr.cell? ⟨gb168, 0, none⟩ = some (.int .i64 x169000_1) := (blk_cell BK168.out 0).trans rfl
              have hcz10_1 : wr.cell? ⟨gb168, 1, none⟩ = some (.string x169001_1) := (blk_cell BK168.out 1).trans rfl
              have hcz10_2 : wr.cell? ⟨gb168, 2, none⟩ = some (.string x169002_1) := (blk_cell BK168.out 2).trans rfl
              have hcz10_3 : wr.cell? ⟨gb168, 3, none⟩ = some (.slice none 0 0) := (blk_cell BK168.out 3).trans rfl
              have hcz10_4 : wr.cell? ⟨gb168, 4, none⟩ = some (.slice none 0 0) := (blk_cell BK168.out 4).trans rfl
              have hfz10_0 := blk_frozen BK168.out 0
              have hfz10_1 := blk_frozen BK168.out 1
              have hfz10_2 := blk_frozen BK168.out 2
              have hfz10_3 := blk_frozen BK168.out 3
              have hfz10_4 := blk_frozen BK168.out 4
              go_wp2
              refine bodyPost_ret (results_ct rfl _ _ gb168 25 #[.int .i64 0, .string (⟨#[]⟩ : ByteArray), .string (⟨#[]⟩ : ByteArray), .slice none 0 0, .slice none 0 0] (0, 0) _ rfl (by (with_reducible repeat (first | refine blk_drewN ?_ _ | refine blk_drew ?_ | refine blk_alloc ?_ _)); refine blk_put (cs := #[.int .i64 0, .string (⟨#[]⟩ : ByteArray), .string (⟨#[]⟩ : ByteArray), .slice none 0 0, .slice none 0 0]) ?_ 4 _ rfl; (with_reducible repeat (first | refine blk_drewN ?_ _ | refine blk_drew ?_ | refine blk_alloc ?_ _)); refine blk_put (cs := #[.int .i64 0, .string (⟨#[]⟩ : ByteArray), .string (⟨#[]⟩ : ByteArray), .slice none 0 0, .slice none 0 0]) ?_ 3 _ rfl; (with_reducible repeat (first | refine blk_drewN ?_ _ | refine blk_drew ?_ | refine blk_alloc ?_ _)); refine blk_put (cs := #[.int .i64 0, .string (⟨#[]⟩ : ByteArray), .string x169002_1, .slice none 0 0, .slice none 0 0]) ?_ 2 _ rfl; (with_reducible repeat (first | refine blk_drewN ?_ _ | refine blk_drew ?_ | refine blk_alloc ?_ _)); refine blk_put (cs := #[.int .i64 0, .string x169001_1, .string x169002_1, .slice none 0 0, .slice none 0 0]) ?_ 1 _ rfl; (with_reducible repeat (first | refine blk_drewN ?_ _ | refine blk_drew ?_ | refine blk_alloc ?_ _)); refine blk_put (cs := #[.int .i64 x169000_1, .string x169001_1, .string x169002_1, .slice none 0 0, .slice none 0 0]) ?_ 0 _ rfl; (with_reducible repeat (first | refine blk_drewN ?_ _ | refine blk_drew ?_ | refine blk_alloc ?_ _)); exact BK168.out) Try.underlying25 rfl (by kernel_rfl)) rfl ?_
              exact ⟨_, _, by first | rfl | (simp [errW_none, errW_some] <;> rfl) | (simp [*, errW_none, errW_some] <;> rfl), Kd.V_nil _ _ _ _ _, Kd.V_nil _ _ _ _ _, by repeat (first | (with_reducible first | exact HB.out | apply below_alloc | apply pw_below_drewN | apply below_drew1 | refine below_set ?_ GE167.out | refine below_set ?_ GE168.out) | exact HB.out)⟩
            · rw [if_neg c8] at H
              have c8b0 : decide ((rd l1 x10_1) < 0) = false := decide_eq_false c8
              clear c8
              by_cases c11 : (rd l1 x10_1) ≥ (x168004_1.length : Int)
              · rw [if_pos c11] at H
                have c11b0 : decide ((x168004_1.length : Int) ≤ (rd l1 x10_1)) = true := decide_eq_true c11
                clear c11
                simp only [Option.some.injEq, Prod.mk.injEq] at H
                obtain ⟨rfl, rfl, rfl, rfl, rfl, rfl⟩ := H
                have p169 : 0 ≤ (x10_1 : Int) := of_decide_eq_true (by first | (with_reducible assumption) | assumption)
                have q169 : x10_1 < (l1.length : Int) := of_decide_eq_true (by first | (with_reducible assumption) | assumption)
                obtain ⟨ad169, e169, hx169_0⟩ := Kd.at_int HR1.out x10_1 p169 q169
                cases e169
                replace hx169_0 := (HB.out.cell (World.block_lt_of_cell? w _ hx169_0)).trans hx169_0
                replace p169 := eq_true p169
                replace q169 := eq_true q169
                have hnb12 := NB167_168.out
                have hnc12 := NB168_167.out
                have hcz13_0 : wr.cell? ⟨gb167, 0, none⟩ = some (.int .i64 x168000_1) := (blk_cell BK167.out 0).trans rfl
                have hcz13_1 : wr.cell? ⟨gb167, 1, none⟩ = some (.string x168001_1) := (blk_cell BK167.out 1).trans rfl
                have hcz13_2 : wr.cell? ⟨gb167, 2, none⟩ = some (.string x168002_1) := (blk_cell BK167.out 2).trans rfl
                have hcz13_3 : wr.cell? ⟨gb167, 3, none⟩ = some (u168003) := (blk_cell BK167.out 3).trans rfl
                have hcz13_4 : wr.cell? ⟨gb167, 4, none⟩ = some (u168004) := (blk_cell BK167.out 4).trans rfl
                have hfz13_0 := blk_frozen BK167.out 0
                have hfz13_1 := blk_frozen BK167.out 1
                have hfz13_2 := blk_frozen BK167.out 2
                have hfz13_3 := blk_frozen BK167.out 3
                have hfz13_4 := blk_frozen BK167.out 4
                obtain ⟨Ao14, co14, eo14⟩ := Kd.V_slice HO_168004.out
                subst eo14
                have hcz15_0 : wr.cell? ⟨gb168, 0, none⟩ = some (.int .i64 x169000_1) := (blk_cell BK168.out 0).trans rfl
                have hcz15_1 : wr.cell? ⟨gb168, 1, none⟩ = some (.string x169001_1) := (blk_cell BK168.out 1).trans rfl
                have hcz15_2 : wr.cell? ⟨gb168, 2, none⟩ = some (.string x169002_1) := (blk_cell BK168.out 2).trans rfl
                have hcz15_3 : wr.cell? ⟨gb168, 3, none⟩ = some (.slice none 0 0) := (blk_cell BK168.out 3).trans rfl
                have hcz15_4 : wr.cell? ⟨gb168, 4, none⟩ = some (.slice none 0 0) := (blk_cell BK168.out 4).trans rfl
                have hfz15_0 := blk_frozen BK168.out 0
                have hfz15_1 := blk_frozen BK168.out 1
                have hfz15_2 := blk_frozen BK168.out 2
                have hfz15_3 := blk_frozen BK168.out 3
                have hfz15_4 := blk_frozen BK168.out 4
                go_wp2
                refine bodyPost_ret (results_ct rfl _ _ gb168 25 #[.int .i64 0, .string (⟨#[]⟩ : ByteArray), .string (⟨#[]⟩ : ByteArray), .slice none 0 0, .slice none 0 0] (0, 0) _ rfl (by (with_reducible repeat (first | refine blk_drewN ?_ _ | refine blk_drew ?_ | refine blk_alloc ?_ _)); refine blk_put (cs := #[.int .i64 0, .string (⟨#[]⟩ : ByteArray), .string (⟨#[]⟩ : ByteArray), .slice none 0 0, .slice none 0 0]) ?_ 4 _ rfl; (with_reducible repeat (first | refine blk_drewN ?_ _ | refine blk_drew ?_ | refine blk_alloc ?_ _)); refine blk_put (cs := #[.int .i64 0, .string (⟨#[]⟩ : ByteArray), .string (⟨#[]⟩ : ByteArray), .slice none 0 0, .slice none 0 0]) ?_ 3 _ rfl; (with_reducible repeat (first | refine blk_drewN ?_ _ | refine blk_drew ?_ | refine blk_alloc ?_ _)); refine blk_put (cs := #[.int .i64 0, .string (⟨#[]⟩ : ByteArray), .string x169002_1, .slice none 0 0, .slice none 0 0]) ?_ 2 _ rfl; (with_reducible repeat (first | refine blk_drewN ?_ _ | refine blk_drew ?_ | refine blk_alloc ?_ _)); refine blk_put (cs := #[.int .i64 0, .string x169001_1, .string x169002_1, .slice none 0 0, .slice none 0 0]) ?_ 1 _ rfl; (with_reducible repeat (first | refine blk_drewN ?_ _ | refine blk_drew ?_ | refine blk_alloc ?_ _)); refine blk_put (cs := #[.int .i64 x169000_1, .string x169001_1, .string x169002_1, .slice none 0 0, .slice none 0 0]) ?_ 0 _ rfl; (with_reducible repeat (first | refine blk_drewN ?_ _ | refine blk_drew ?_ | refine blk_alloc ?_ _)); exact BK168.out) Try.underlying25 rfl (by kernel_rfl)) rfl ?_
                exact ⟨_, _, by first | rfl | (simp [errW_none, errW_some] <;> rfl) | (simp [*, errW_none, errW_some] <;> rfl), Kd.V_nil _ _ _ _ _, Kd.V_nil _ _ _ _ _, by repeat (first | (with_reducible first | exact HB.out | apply below_alloc | apply pw_below_drewN | apply below_drew1 | refine below_set ?_ GE167.out | refine below_set ?_ GE168.out) | exact HB.out)⟩
              · rw [if_neg c11] at H
                have c11b0 : decide ((x168004_1.length : Int) ≤ (rd l1 x10_1)) = false := decide_eq_false c11
                clear c11
                by_cases c16 : 0 ≤ (rd l1 x10_1)
                · rw [if_pos c16] at H
                  have c16b0 : decide (0 ≤ (rd l1 x10_1)) = true := decide_eq_true c16
                  clear c16
                  by_cases c17 : (rd l1 x10_1) < (x168004_1.length : Int)
                  · rw [if_pos c17] at H
                    have c17b0 : decide ((rd l1 x10_1) < (x168004_1.length : Int)) = true := decide_eq_true c17
                    clear c17
                    have H' := Aside0.mk H
                    clear H
                    have p169 : 0 ≤ (x10_1 : Int) := of_decide_eq_true (by first | (with_reducible assumption) | assumption)
                    have q169 : x10_1 < (l1.length : Int) := of_decide_eq_true (by first | (with_reducible assumption) | assumption)
                    obtain ⟨ad169, e169, hx169_0⟩ := Kd.at_int HR1.out x10_1 p169 q169
                    cases e169
                    replace hx169_0 := (HB.out.cell (World.block_lt_of_cell? w _ hx169_0)).trans hx169_0
                    replace p169 := eq_true p169
                    replace q169 := eq_true q169
                    have hnb18 := NB167_168.out
                    have hnc18 := NB168_167.out
                    have hcz19_0 : wr.cell? ⟨gb167, 0, none⟩ = some (.int .i64 x168000_1) := (blk_cell BK167.out 0).trans rfl
                    have hcz19_1 : wr.cell? ⟨gb167, 1, none⟩ = some (.string x168001_1) := (blk_cell BK167.out 1).trans rfl
                    have hcz19_2 : wr.cell? ⟨gb167, 2, none⟩ = some (.string x168002_1) := (blk_cell BK167.out 2).trans rfl
                    have hcz19_3 : wr.cell? ⟨gb167, 3, none⟩ = some (u168003) := (blk_cell BK167.out 3).trans rfl
                    have hcz19_4 : wr.cell? ⟨gb167, 4, none⟩ = some (u168004) := (blk_cell BK167.out 4).trans rfl
                    have hfz19_0 := blk_frozen BK167.out 0
                    have hfz19_1 := blk_frozen BK167.out 1
                    have hfz19_2 := blk_frozen BK167.out 2
                    have hfz19_3 := blk_frozen BK167.out 3
                    have hfz19_4 := blk_frozen BK167.out 4
                    obtain ⟨Ao20, co20, eo20⟩ := Kd.V_slice HO_168004.out
                    subst eo20
                    have p170 : 0 ≤ ((rd l1 x10_1) : Int) := of_decide_eq_true (by first | (with_reducible assumption) | assumption)
                    have q170 : (rd l1 x10_1) < (x168004_1.length : Int) := of_decide_eq_true (by first | (with_reducible assumption) | assumption)
                    obtain ⟨ad170, A170_3, c170_3, A170_4, c170_4, e170, hx170_0, hx170_1, hx170_2, hx170_3, hx170_4, hl170_3, hi170_3, hl170_4, hi170_4⟩ := at_T25 (Kd.V_reads' HO_168004.out).2.2 (rd l1 x10_1) p170 q170
                    cases e170
                    obtain ⟨ce170, hce170, hMe170, hcc170⟩ := Kd.V_get HO_168004.out z25 (rd l1 x10_1) p170 (by first | exact q170 | exact of_decide_eq_true (by first | (with_reducible assumption) | assumption) | (have e_ := (Kd.V_reads' HO_168004.out).1; omega))
                    obtain ⟨ua170_3, uc170_3, ua170_4, uc170_4, rfl, ul170_3, ge170_3, ul170_4, ge170_4⟩ := k25_openF hMe170
                    have hv170_3 := hcc170 3 _ rfl
                    rw [add_field _ _ 3 (by omega)] at hv170_3
                    replace hv170_3 := Option.some.inj (hv170_3.symm.trans hx170_3)
                    injection hv170_3 with hva_ hvn_ hvc_
                    rw [hva_] at ge170_3
                    rw [hvc_] at ul170_3
                    have HL170_3 := Aside0.mk (show Kd.V k78 78 _ w.heap.size _ _ ((rd_T25 x168004_1 (rd l1 x10_1)).f3) from Kd.V_mk ul170_3 ge170_3)
                    clear hva_ hvn_ hvc_ ge170_3 ul170_3
                    have hv170_4 := hcc170 4 _ rfl
                    rw [add_field _ _ 4 (by omega)] at hv170_4
                    replace hv170_4 := Option.some.inj (hv170_4.symm.trans hx170_4)
                    injection hv170_4 with hva_ hvn_ hvc_
                    rw [hva_] at ge170_4
                    rw [hvc_] at ul170_4
                    have HL170_4 := Aside0.mk (show Kd.V k25 25 _ w.heap.size _ _ ((rd_T25 x168004_1 (rd l1 x10_1)).f4) from Kd.V_mk ul170_4 ge170_4)
                    clear hva_ hvn_ hvc_ ge170_4 ul170_4
                    clear hcc170 hce170
                    have HR170_3 := Aside0.mk hi170_3
                    have HC170_3 := Aside0.mk hl170_3
                    clear hi170_3 hl170_3
                    have HR170_4 := Aside0.mk hi170_4
                    have HC170_4 := Aside0.mk hl170_4
                    clear hi170_4 hl170_4
                    replace p170 := eq_true p170
                    replace q170 := eq_true q170
                    go_wp2
                    go_roundg k1
                    case measure => have := HK1.out; omega
                    case rel => exact ⟨(wrap64 (x10_1 + 1)), ((rd_T25 x168004_1 (rd l1 x10_1)).f0), ((rd_T25 x168004_1 (rd l1 x10_1)).f1), ((rd_T25 x168004_1 (rd l1 x10_1)).f2), ((rd_T25 x168004_1 (rd l1 x10_1)).f3), ((rd_T25 x168004_1 (rd l1 x10_1)).f4), (x169000_1), (x169001_1), (x169002_1), (.slice A170_3 ((rd_T25 x168004_1 (rd l1 x10_1)).f3).length c170_3), (.slice A170_4 ((rd_T25 x168004_1 (rd l1 x10_1)).f4).length c170_4), (by first | rfl | (simp; done) | (simp [*]; done)), H', ⟨by have := HK1.out; omega⟩, ⟨by (with_reducible repeat (first | apply Kd.V_alloc | apply Kd.V_drewN | apply Kd.V_drew)); exact Kd.V_mono (Kd.V_far (p := ⟨gb167, 4, none⟩) (Kd.V_far (p := ⟨gb167, 3, none⟩) (Kd.V_far (p := ⟨gb167, 2, none⟩) (Kd.V_far (p := ⟨gb167, 1, none⟩) (Kd.V_far (p := ⟨gb167, 0, none⟩) (Kd.V_mono HL170_3.out (fun k_ hk => (⟨hk, hk.2.1⟩ : _ ∧ k_ ≠ gb167))) (fun _ hk => hk.2) (.int .i64 ((rd_T25 x168004_1 (rd l1 x10_1)).f0))) (fun _ hk => hk.2) (.string ((rd_T25 x168004_1 (rd l1 x10_1)).f1))) (fun _ hk => hk.2) (.string ((rd_T25 x168004_1 (rd l1 x10_1)).f2))) (fun _ hk => hk.2) (.slice A170_3 ((rd_T25 x168004_1 (rd l1 x10_1)).f3).length c170_3)) (fun _ hk => hk.2) (.slice A170_4 ((rd_T25 x168004_1 (rd l1 x10_1)).f4).length c170_4)) (fun _ hk => ⟨hk.1.1, ⟨hk.1.2.1, hk.1.2.2⟩⟩)⟩, ⟨by (with_reducible repeat (first | apply Kd.V_alloc | apply Kd.V_drewN | apply Kd.V_drew)); exact Kd.V_mono (Kd.V_far (p := ⟨gb167, 4, none⟩) (Kd.V_far (p := ⟨gb167, 3, none⟩) (Kd.V_far (p := ⟨gb167, 2, none⟩) (Kd.V_far (p := ⟨gb167, 1, none⟩) (Kd.V_far (p := ⟨gb167, 0, none⟩) (Kd.V_mono HL170_4.out (fun k_ hk => (⟨hk, hk.2.1⟩ : _ ∧ k_ ≠ gb167))) (fun _ hk => hk.2) (.int .i64 ((rd_T25 x168004_1 (rd l1 x10_1)).f0))) (fun _ hk => hk.2) (.string ((rd_T25 x168004_1 (rd l1 x10_1)).f1))) (fun _ hk => hk.2) (.string ((rd_T25 x168004_1 (rd l1 x10_1)).f2))) (fun _ hk => hk.2) (.slice A170_3 ((rd_T25 x168004_1 (rd l1 x10_1)).f3).length c170_3)) (fun _ hk => hk.2) (.slice A170_4 ((rd_T25 x168004_1 (rd l1 x10_1)).f4).length c170_4)) (fun _ hk => ⟨hk.1.1, ⟨hk.1.2.1, hk.1.2.2⟩⟩)⟩, ⟨by (with_reducible repeat (first | refine blk_drewN ?_ _ | refine blk_drew ?_ | refine blk_alloc ?_ _)); refine blk_put (cs := #[.int .i64 ((rd_T25 x168004_1 (rd l1 x10_1)).f0), .string ((rd_T25 x168004_1 (rd l1 x10_1)).f1), .string ((rd_T25 x168004_1 (rd l1 x10_1)).f2), .slice A170_3 ((rd_T25 x168004_1 (rd l1 x10_1)).f3).length c170_3, .slice (some ad170) x168004_1.length co20]) ?_ 4 _ rfl; (with_reducible repeat (first | refine blk_drewN ?_ _ | refine blk_drew ?_ | refine blk_alloc ?_ _)); refine blk_put (cs := #[.int .i64 ((rd_T25 x168004_1 (rd l1 x10_1)).f0), .string ((rd_T25 x168004_1 (rd l1 x10_1)).f1), .string ((rd_T25 x168004_1 (rd l1 x10_1)).f2), u168003, .slice (some ad170) x168004_1.length co20]) ?_ 3 _ rfl; (with_reducible repeat (first | refine blk_drewN ?_ _ | refine blk_drew ?_ | refine blk_alloc ?_ _)); refine blk_put (cs := #[.int .i64 ((rd_T25 x168004_1 (rd l1 x10_1)).f0), .string ((rd_T25 x168004_1 (rd l1 x10_1)).f1), .string x168002_1, u168003, .slice (some ad170) x168004_1.length co20]) ?_ 2 _ rfl; (with_reducible repeat (first | refine blk_drewN ?_ _ | refine blk_drew ?_ | refine blk_alloc ?_ _)); refine blk_put (cs := #[.int .i64 ((rd_T25 x168004_1 (rd l1 x10_1)).f0), .string x168001_1, .string x168002_1, u168003, .slice (some ad170) x168004_1.length co20]) ?_ 1 _ rfl; (with_reducible repeat (first | refine blk_drewN ?_ _ | refine blk_drew ?_ | refine blk_alloc ?_ _)); refine blk_put (cs := #[.int .i64 x168000_1, .string x168001_1, .string x168002_1, u168003, .slice (some ad170) x168004_1.length co20]) ?_ 0 _ rfl; (with_reducible repeat (first | refine blk_drewN ?_ _ | refine blk_drew ?_ | refine blk_alloc ?_ _)); exact BK167.out⟩, ⟨by (with_reducible repeat (first | refine blk_drewN ?_ _ | refine blk_drew ?_ | refine blk_alloc ?_ _)); refine blk_far ?_ NB168_167.out _; (with_reducible repeat (first | refine blk_drewN ?_ _ | refine blk_drew ?_ | refine blk_alloc ?_ _)); refine blk_far ?_ NB168_167.out _; (with_reducible repeat (first | refine blk_drewN ?_ _ | refine blk_drew ?_ | refine blk_alloc ?_ _)); refine blk_far ?_ NB168_167.out _; (with_reducible repeat (first | refine blk_drewN ?_ _ | refine blk_drew ?_ | refine blk_alloc ?_ _)); refine blk_far ?_ NB168_167.out _; (with_reducible repeat (first | refine blk_drewN ?_ _ | refine blk_drew ?_ | refine blk_alloc ?_ _)); refine blk_far ?_ NB168_167.out _; (with_reducible repeat (first | refine blk_drewN ?_ _ | refine blk_drew ?_ | refine blk_alloc ?_ _)); exact BK168.out⟩, ⟨by repeat (first | (with_reducible first | exact HB.out | apply below_alloc | apply pw_below_drewN | apply below_drew1 | refine below_set ?_ GE167.out | refine below_set ?_ GE168.out) | exact HB.out)⟩⟩
                  · rw [if_neg c17] at H
                    exact absurd H (by simp)
                · rw [if_neg c16] at H
                  exact absurd H (by simp)
          · rw [if_neg c7] at H
            exact absurd H (by simp)
        · rw [if_neg c6] at H
          exact absurd H (by simp)
      · rw [if_neg c5] at H
        have c5b0 : decide (x10_1 < (l1.length : Int)) = false := decide_eq_false c5
        clear c5
        simp only [Option.some.injEq, Prod.mk.injEq] at H
        obtain ⟨rfl, rfl, rfl, rfl, rfl, rfl⟩ := H
        have hnb21 := NB167_168.out
        have hnc21 := NB168_167.out
        have hcz22_0 : wr.cell? ⟨gb167, 0, none⟩ = some (.int .i64 x168000_1) := (blk_cell BK167.out 0).trans rfl
        have hcz22_1 : wr.cell? ⟨gb167, 1, none⟩ = some (.string x168001_1) := (blk_cell BK167.out 1).trans rfl
        have hcz22_2 : wr.cell? ⟨gb167, 2, none⟩ = some (.string x168002_1) := (blk_cell BK167.out 2).trans rfl
        have hcz22_3 : wr.cell? ⟨gb167, 3, none⟩ = some (u168003) := (blk_cell BK167.out 3).trans rfl
        have hcz22_4 : wr.cell? ⟨gb167, 4, none⟩ = some (u168004) := (blk_cell BK167.out 4).trans rfl
        have hfz22_0 := blk_frozen BK167.out 0
        have hfz22_1 := blk_frozen BK167.out 1
        have hfz22_2 := blk_frozen BK167.out 2
        have hfz22_3 := blk_frozen BK167.out 3
        have hfz22_4 := blk_frozen BK167.out 4
        have hcz23_0 : wr.cell? ⟨gb168, 0, none⟩ = some (.int .i64 x169000_1) := (blk_cell BK168.out 0).trans rfl
        have hcz23_1 : wr.cell? ⟨gb168, 1, none⟩ = some (.string x169001_1) := (blk_cell BK168.out 1).trans rfl
        have hcz23_2 : wr.cell? ⟨gb168, 2, none⟩ = some (.string x169002_1) := (blk_cell BK168.out 2).trans rfl
        have hcz23_3 : wr.cell? ⟨gb168, 3, none⟩ = some (.slice none 0 0) := (blk_cell BK168.out 3).trans rfl
        have hcz23_4 : wr.cell? ⟨gb168, 4, none⟩ = some (.slice none 0 0) := (blk_cell BK168.out 4).trans rfl
        have hfz23_0 := blk_frozen BK168.out 0
        have hfz23_1 := blk_frozen BK168.out 1
        have hfz23_2 := blk_frozen BK168.out 2
        have hfz23_3 := blk_frozen BK168.out 3
        have hfz23_4 := blk_frozen BK168.out 4
        obtain ⟨Ao24, co24, eo24⟩ := Kd.V_slice HO_168003.out
        subst eo24
        obtain ⟨Ao25, co25, eo25⟩ := Kd.V_slice HO_168004.out
        subst eo25
        go_wp2
        refine bodyPost_ret (results_ct rfl _ _ gb168 25 #[.int .i64 x168000_1, .string x168001_1, .string x168002_1, .slice Ao24 x168003_1.length co24, .slice Ao25 x168004_1.length co25] (0, 0) _ rfl (by (with_reducible repeat (first | refine blk_drewN ?_ _ | refine blk_drew ?_ | refine blk_alloc ?_ _)); refine blk_put (cs := #[.int .i64 x168000_1, .string x168001_1, .string x168002_1, .slice Ao24 x168003_1.length co24, .slice none 0 0]) ?_ 4 _ rfl; (with_reducible repeat (first | refine blk_drewN ?_ _ | refine blk_drew ?_ | refine blk_alloc ?_ _)); refine blk_put (cs := #[.int .i64 x168000_1, .string x168001_1, .string x168002_1, .slice none 0 0, .slice none 0 0]) ?_ 3 _ rfl; (with_reducible repeat (first | refine blk_drewN ?_ _ | refine blk_drew ?_ | refine blk_alloc ?_ _)); refine blk_put (cs := #[.int .i64 x168000_1, .string x168001_1, .string x169002_1, .slice none 0 0, .slice none 0 0]) ?_ 2 _ rfl; (with_reducible repeat (first | refine blk_drewN ?_ _ | refine blk_drew ?_ | refine blk_alloc ?_ _)); refine blk_put (cs := #[.int .i64 x168000_1, .string x169001_1, .string x169002_1, .slice none 0 0, .slice none 0 0]) ?_ 1 _ rfl; (with_reducible repeat (first | refine blk_drewN ?_ _ | refine blk_drew ?_ | refine blk_alloc ?_ _)); refine blk_put (cs := #[.int .i64 x169000_1, .string x169001_1, .string x169002_1, .slice none 0 0, .slice none 0 0]) ?_ 0 _ rfl; (with_reducible repeat (first | refine blk_drewN ?_ _ | refine blk_drew ?_ | refine blk_alloc ?_ _)); exact BK168.out) Try.underlying25 rfl (by kernel_rfl)) rfl ?_
        exact ⟨_, _, by first | rfl | (simp [errW_none, errW_some] <;> rfl) | (simp [*, errW_none, errW_some] <;> rfl), by (with_reducible repeat (first | apply Kd.V_alloc | apply Kd.V_drewN | apply Kd.V_drew)); exact Kd.V_mono (Kd.V_far (p := ⟨gb168, 4, none⟩) (Kd.V_far (p := ⟨gb168, 3, none⟩) (Kd.V_far (p := ⟨gb168, 2, none⟩) (Kd.V_far (p := ⟨gb168, 1, none⟩) (Kd.V_far (p := ⟨gb168, 0, none⟩) (Kd.V_mono HO_168003.out (fun k_ hk => (⟨hk, hk.2.2⟩ : _ ∧ k_ ≠ gb168))) (fun _ hk => hk.2) (.int .i64 x168000_1)) (fun _ hk => hk.2) (.string x168001_1)) (fun _ hk => hk.2) (.string x168002_1)) (fun _ hk => hk.2) (.slice Ao24 x168003_1.length co24)) (fun _ hk => hk.2) (.slice Ao25 x168004_1.length co25)) (fun _ hk => hk.1.1), by (with_reducible repeat (first | apply Kd.V_alloc | apply Kd.V_drewN | apply Kd.V_drew)); exact Kd.V_mono (Kd.V_far (p := ⟨gb168, 4, none⟩) (Kd.V_far (p := ⟨gb168, 3, none⟩) (Kd.V_far (p := ⟨gb168, 2, none⟩) (Kd.V_far (p := ⟨gb168, 1, none⟩) (Kd.V_far (p := ⟨gb168, 0, none⟩) (Kd.V_mono HO_168004.out (fun k_ hk => (⟨hk, hk.2.2⟩ : _ ∧ k_ ≠ gb168))) (fun _ hk => hk.2) (.int .i64 x168000_1)) (fun _ hk => hk.2) (.string x168001_1)) (fun _ hk => hk.2) (.string x168002_1)) (fun _ hk => hk.2) (.slice Ao24 x168003_1.length co24)) (fun _ hk => hk.2) (.slice Ao25 x168004_1.length co25)) (fun _ hk => hk.1.1), by repeat (first | (with_reducible first | exact HB.out | apply below_alloc | apply pw_below_drewN | apply below_drew1 | refine below_set ?_ GE167.out | refine below_set ?_ GE168.out) | exact HB.out)⟩

end Go.Proofs.Ytibfoaahdbdogaa.PDom

/- What the reference tells of paths: Walk29, and that a list of paths is itself. Plain facts. -/
namespace Go.Proofs.Ytibfoaahdbdogaa.PDom
open Go.RowKit Go.Proofs.YtibfoaahdbdogaaW.PrintWords Go.Proofs.YtibfoaahdbdogaaW.PrintLast Go.Proofs.YtibfoaahdbdogaaW.PrintMore Go.Proofs.Ytibfoaahdbdogaa.Dom
set_option linter.unusedVariables false
set_option linter.unusedSimpArgs false

mutual
theorem pathsT_len (p : List Int) : ∀ t : T, (pathsT p t).length = countT t
  | ⟨_, _, _, _, ks⟩ => by
    simp only [pathsT, countT, List.length_cons]
    have := pathsTL_len p 0 ks
    omega
theorem pathsTL_len (p : List Int) (j : Nat) : ∀ l : List T, (pathsTL p j l).length = countTL l
  | [] => rfl
  | k :: ks => by
    simp only [pathsTL, countTL, List.length_append]
    rw [pathsT_len, pathsTL_len]
end
theorem Ev.some {α : Type} {g : Nat → Option α} {r : α} (h : ∀ k, g k = some r) : Ev g r := ⟨0, fun k _ => h k⟩
theorem Ev.next {α : Type} {g f : Nat → Option α} {r : α} (h : ∀ k, g (k + 1) = f k) (hf : Ev f r) : Ev g r := Ev.step h hf
theorem under_eq (p : List Int) (j : Int) (hp : p.length < 10000) : spec_Under29.f p j = some (p ++ [j]) := by
  unfold spec_Under29.f
  rw [Option.bind_some, if_pos (by simp; omega), Option.bind_some, if_pos (by simp; omega)]
  rfl
theorem walk_ev {t : T} (ht : Fit t) : ∀ (p : List Int), p.length + countT t ≤ 1000 → Ev (fun k => spec_Walk29.f k t.f0 t.f1 t.f2 t.f3 t.f4 p) (pathsT p t) := by
  induction ht with
  | mk t ha hk hall ih =>
    intro p hc
    rw [countT_eq] at hc
    refine Ev.step (f := fun k => spec_Walk29.l0 k p [p] t.f4 (t.f4.length : Int) ((0 : Nat) : Int)) (fun k => rfl) ?_
    have key : ∀ (n j : Nat) (acc : List (List Int)), t.f4.length = j + n → acc.length + countTL (t.f4.drop j) ≤ 1000 → Ev (fun k => spec_Walk29.l0 k p acc t.f4 (t.f4.length : Int) (j : Int)) (acc ++ pathsTL p j (t.f4.drop j)) := by
      intro n
      induction n with
      | zero =>
        intro j acc hj _
        rw [List.drop_eq_nil_of_le (by omega)]
        refine Ev.step (f := fun _ => some acc) (fun k => ?_) (by simpa [pathsTL] using Ev.now acc)
        simp only [spec_Walk29.l0]
        rw [if_neg (by omega)]
      | succ n ihn =>
        intro j acc hj hac
        have hlt : j < t.f4.length := by omega
        have hd : t.f4.drop j = t.f4[j] :: t.f4.drop (j + 1) := List.drop_eq_getElem_cons hlt
        have hcl : countTL (t.f4.drop j) = countT t.f4[j] + countTL (t.f4.drop (j + 1)) := by rw [hd]; rfl
        have hle : countTL (t.f4.drop j) ≤ countTL t.f4 := by
          have := congrArg countTL (List.take_append_drop j t.f4)
          rw [countTL_append] at this
          omega
        have e1 := ih _ (List.getElem_mem hlt) (p ++ [(j : Int)]) (by rw [List.length_append, List.length_singleton]; omega)
        have hpl : (pathsT (p ++ [(j : Int)]) t.f4[j]).length = countT t.f4[j] := pathsT_len _ _
        have e2 := ihn (j + 1) (acc ++ pathsT (p ++ [(j : Int)]) t.f4[j]) (by omega) (by rw [List.length_append, hpl]; omega)
        rw [hd]
        simp only [pathsTL]
        rw [← List.append_assoc]
        refine Ev.step (f := fun k => (spec_Walk29.f k t.f4[j].f0 t.f4[j].f1 t.f4[j].f2 t.f4[j].f3 t.f4[j].f4 (p ++ [(j : Int)])).bind fun y => if acc.length + y.length < 5864062014805 then spec_Walk29.l0 k p (acc ++ y) t.f4 (t.f4.length : Int) ((j + 1 : Nat) : Int) else none) (fun k => ?_) ?_
        · simp only [spec_Walk29.l0]
          rw [if_pos (by omega), if_pos (by omega), if_pos (by omega), rd_at t.f4 hlt, under_eq p _ (by omega), Option.bind_some, succ_wrap j (by omega)]
        · refine Ev.bind e1 ?_
          have h3 : acc.length + (pathsT (p ++ [(j : Int)]) t.f4[j]).length < 5864062014805 := by rw [hpl]; omega
          simp only [if_pos h3]
          exact e2
    have := key t.f4.length 0 [p] (by omega) (by simp; omega)
    rw [pathsT_eq]
    simpa using this
theorem path_self (l : List Int) (hl : l.length ≤ 4398046510976) : Ev (fun k => laws_path29.f k l l) true := by
  have key : ∀ (n j : Nat), l.length = j + n → Ev (fun k => laws_path29.l0 k l l (l.length : Int) (j : Int)) true := by
    intro n
    induction n with
    | zero =>
      intro j hj
      refine Ev.step (f := fun _ => some true) (fun k => ?_) (Ev.now _)
      simp only [laws_path29.l0]
      rw [if_neg (by omega)]
    | succ n ih =>
      intro j hj
      refine Ev.step (f := fun k => laws_path29.l0 k l l (l.length : Int) ((j + 1 : Nat) : Int)) (fun k => ?_) (ih (j + 1) (by omega))
      simp only [laws_path29.l0]
      rw [if_pos (by omega), if_pos (by omega), if_pos (by omega), if_pos (by omega), succ_wrap j (by omega)]
      simp
  have := key l.length 0 (by omega)
  refine Ev.congr (f := fun k => laws_path29.l0 k l l (l.length : Int) ((0 : Nat) : Int)) (fun k => ?_) this
  unfold laws_path29.f
  rw [if_pos rfl]
  rfl
theorem paths_self (l : List (List Int)) (hl : l.length ≤ 4398046510976) (hq : ∀ q ∈ l, q.length ≤ 4398046510976) : Ev (fun k => laws_paths29.f k l l) true := by
  have key : ∀ (n j : Nat), l.length = j + n → Ev (fun k => laws_paths29.l0 k l l (l.length : Int) (j : Int)) true := by
    intro n
    induction n with
    | zero =>
      intro j hj
      refine Ev.step (f := fun _ => some true) (fun k => ?_) (Ev.now _)
      simp only [laws_paths29.l0]
      rw [if_neg (by omega)]
    | succ n ih =>
      intro j hj
      have hlt : j < l.length := by omega
      have he : rd_L5 l (j : Int) = l[j] := by simp [rd_L5, List.getD_eq_getElem?_getD, List.getElem?_eq_getElem hlt]
      refine Ev.step (f := fun k => (laws_path29.f k l[j] l[j]).bind fun b => if b = true then laws_paths29.l0 k l l (l.length : Int) ((j + 1 : Nat) : Int) else some false) (fun k => ?_) ?_
      · simp only [laws_paths29.l0]
        rw [if_pos (by omega), if_pos (by omega), if_pos (by omega), if_pos (by omega), succ_wrap j (by omega), he]
      · refine Ev.bind (path_self _ (hq _ (List.getElem_mem hlt))) ?_
        simpa using ih (j + 1) (by omega)
  have := key l.length 0 (by omega)
  refine Ev.congr (f := fun k => laws_paths29.l0 k l l (l.length : Int) ((0 : Nat) : Int)) (fun k => ?_) this
  unfold laws_paths29.f
  rw [if_pos rfl]
  rfl
mutual
theorem pathsT_small (p : List Int) : ∀ t : T, ∀ q ∈ pathsT p t, q.length ≤ p.length + countT t
  | ⟨_, _, _, _, ks⟩, q, h => by
    simp only [pathsT, List.mem_cons] at h
    simp only [countT]
    rcases h with rfl | h
    · omega
    · have := pathsTL_small p 0 ks q h
      omega
theorem pathsTL_small (p : List Int) (j : Nat) : ∀ l : List T, ∀ q ∈ pathsTL p j l, q.length ≤ p.length + 1 + countTL l
  | [], q, h => by simp [pathsTL] at h
  | k :: ks, q, h => by
    simp only [pathsTL, List.mem_append] at h
    simp only [countTL]
    rcases h with h | h
    · have := pathsT_small (p ++ [(j : Int)]) k q h
      rw [List.length_append, List.length_singleton] at this
      omega
    · have := pathsTL_small p (j + 1) ks q h
      omega
end
/-- The guards of all these laws tell something, in the end always the same. -/
theorem fits2_ev (t : T) (ht : Fit t) : ∃ b, Ev (fun k => laws_zzFits2.f k t.f0 t.f1 t.f2 t.f3 t.f4) b := by
  obtain ⟨_, ha, _, _⟩ := ht
  obtain ⟨b, hb⟩ := fits2_tot t.f0 t.f1 t.f2 t.f3 t.f4 (by omega) (t.f3.length + 1) (by omega)
  exact ⟨b, Ev.of (fun k => laws_zzFits2.mono _ _ _ _ _ k) hb⟩
theorem tree_ev (t : T) (ht : FitS t) : ∃ b, Ev (fun k => laws_tree29.f k t.f0 t.f1 t.f2 t.f3 t.f4) b := by
  obtain ⟨k, b, hb⟩ := tree_tot ht
  exact ⟨b, Ev.of (fun k => laws_tree29.mono _ _ _ _ _ k) hb⟩
theorem fitB_ev (t : T) (ht : Fit t) : ∃ K, ∀ k, K ≤ k → fitB k ⟨t.f0, t.f1, t.f2, t.f3, t.f4⟩ = true := by
  obtain ⟨n, h⟩ := fit_fitB ht
  exact ⟨n, fun k hk => by have := fitB_le hk h; cases t; exact this⟩
end Go.Proofs.Ytibfoaahdbdogaa.PDom

/- Printed by the program extprint.py of this session, out of the kit's print and contracts of this session's own; Lean checks it. -/
namespace Go.Proofs.Ytibfoaahdbdogaa.PDom
open Go.RowKit Go.Proofs.YtibfoaahdbdogaaW.PrintWords Go.Proofs.YtibfoaahdbdogaaW.PrintLast Go.Proofs.YtibfoaahdbdogaaW.PrintMore
attribute [local go_sem] max2_int min2_int max_two min_two max_three min_three max_four min_four   -- for this text's walks alone
set_option linter.unusedVariables false
set_option linter.unusedSimpArgs false

/-! ### laws_tag29: function 46 -/
def laws_tag29.f (a0 : ByteArray) (l1 : List (S25)) : Option (Int × ByteArray × ByteArray × (List (S78)) × (List (S25))) := some (0, a0, (⟨#[]⟩ : ByteArray), ([] : List (S78)), l1)
set_option maxHeartbeats 8000000 in
set_option maxRecDepth 100000 in
theorem laws_tag29.calls (a0 : ByteArray) (P1_ : Nat → Prop) (A1 : Option Addr) (c1 : Nat) (l1 : List (S25)) (r1 : Int) (r2 : ByteArray) (r3 : ByteArray) (r4 : List (S78)) (r5 : List (S25)) (w : World) (hs1 : Kd.V k25 25 w w.heap.size (fun k_ => P1_ k_) (.slice A1 l1.length c1) l1) (h : laws_tag29.f a0 l1 = some (r1, r2, r3, r4, r5)) :
    Calls Try.prog 46 #[.string a0, .slice A1 l1.length c1] w fun e w' => ∃ v3_ v4_ : Value, e = .returned (.agg #[.int .i64 r1, .string r2, .string r3, v3_, v4_]) ∧ Kd.R k78 78 w' w.heap.size (fun k_ => (w.heap.size ≤ k_)) v3_ r4 ∧ Kd.V k25 25 w' w.heap.size (fun k_ => (P1_ k_ ∨ w.heap.size ≤ k_) ∧ some k_ ≠ (v3_ : Value).ownBlock) v4_ r5 ∧ Below w.heap.size w w' := by
  have hu25 := Try.underlying25
  have HO1 := Aside0.mk (show Kd.V k25 25 w w.heap.size (fun k_ => (P1_ k_ ∨ w.heap.size ≤ k_)) (.slice A1 l1.length c1) l1 from Kd.V_mono hs1 (fun k_ hk => .inl hk))
  have HB := Aside0.mk (Below.refl w.heap.size w)
  have H : (some (0, a0, (⟨#[]⟩ : ByteArray), ([] : List (S78)), l1)) = some (r1, r2, r3, r4, r5) := h
  clear h
  simp only [Option.some.injEq, Prod.mk.injEq] at H
  obtain ⟨rfl, rfl, rfl, rfl, rfl⟩ := H
  go_enter Try.func46, Try.ntmps46
  go_wp2_with (first | ((with_reducible refine gate_dst (N := 4) rfl ?_); refine box_event ?hg (N := 4) ?hd (cs := #[.int .i64 0, .string (⟨#[]⟩ : ByteArray), .string (⟨#[]⟩ : ByteArray), .slice none 0 0, .slice none 0 0]) (t := 25) ?hr ?_; (case hd => rfl); (case hg => rfl); (case hr => first | (go_simp; done) | (go_simp; rfl)); intro gb176 hg w3 hbox hb; have n0_ := Aside0.mk (Kd.V_below (Kd.V_elderB (by (with_reducible repeat (first | apply Kd.V_alloc | apply Kd.V_drewN | apply Kd.V_drew)); exact HO1.out) gb176 (Nat.le_of_eq hg.symm)) hb); have n1_ := Aside0.mk (below_step (by repeat (first | (with_reducible first | exact HB.out | apply below_alloc | apply pw_below_drewN | apply below_drew1) | exact HB.out)) hb); have n2_ := Aside0.mk (hbox); have n3_ := Aside0.mk ((by rw [hg]; exact (below_size (by repeat (first | (with_reducible first | exact HB.out | apply below_alloc | apply pw_below_drewN | apply below_drew1) | exact HB.out))) : w.heap.size ≤ gb176)); have n4_ := Aside0.mk ((by rw [hg]; exact (below_size (by repeat (first | (with_reducible first | exact HB.out | apply below_alloc | apply pw_below_drewN | apply below_drew1) | exact HB.out))) : w.heap.size ≤ gb176)); clear HO1; clear HB; have HO1 := n0_; have HB := n1_; have BK176 := n2_; have GW176 := n3_; have GE176 := n4_; clear n0_ n1_ n2_ n3_ n4_; clear hb hbox hg; have hcz4_0 : w3.cell? ⟨gb176, 0, none⟩ = some (.int .i64 0) := (blk_cell BK176.out 0).trans rfl; have hcz4_1 : w3.cell? ⟨gb176, 1, none⟩ = some (.string (⟨#[]⟩ : ByteArray)) := (blk_cell BK176.out 1).trans rfl; have hcz4_2 : w3.cell? ⟨gb176, 2, none⟩ = some (.string (⟨#[]⟩ : ByteArray)) := (blk_cell BK176.out 2).trans rfl; have hcz4_3 : w3.cell? ⟨gb176, 3, none⟩ = some (.slice none 0 0) := (blk_cell BK176.out 3).trans rfl; have hcz4_4 : w3.cell? ⟨gb176, 4, none⟩ = some (.slice none 0 0) := (blk_cell BK176.out 4).trans rfl; have hfz4_0 := blk_frozen BK176.out 0; have hfz4_1 := blk_frozen BK176.out 1; have hfz4_2 := blk_frozen BK176.out 2; have hfz4_3 := blk_frozen BK176.out 3; have hfz4_4 := blk_frozen BK176.out 4))
  refine bodyPost_ret (results_cell_row rfl _ _ gb176 25 #[.int .i64 0, .string a0, .string (⟨#[]⟩ : ByteArray), .slice none 0 0, .slice A1 l1.length c1] (0, 0) _ rfl (by (with_reducible repeat (first | refine blk_drewN ?_ _ | refine blk_drew ?_ | refine blk_alloc ?_ _)); refine blk_put (cs := #[.int .i64 0, .string a0, .string (⟨#[]⟩ : ByteArray), .slice none 0 0, .slice none 0 0]) ?_ 4 _ rfl; (with_reducible repeat (first | refine blk_drewN ?_ _ | refine blk_drew ?_ | refine blk_alloc ?_ _)); refine blk_put (cs := #[.int .i64 0, .string a0, .string (⟨#[]⟩ : ByteArray), .slice none 0 0, .slice none 0 0]) ?_ 3 _ rfl; (with_reducible repeat (first | refine blk_drewN ?_ _ | refine blk_drew ?_ | refine blk_alloc ?_ _)); refine blk_put (cs := #[.int .i64 0, .string a0, .string (⟨#[]⟩ : ByteArray), .slice none 0 0, .slice none 0 0]) ?_ 2 _ rfl; (with_reducible repeat (first | refine blk_drewN ?_ _ | refine blk_drew ?_ | refine blk_alloc ?_ _)); refine blk_put (cs := #[.int .i64 0, .string (⟨#[]⟩ : ByteArray), .string (⟨#[]⟩ : ByteArray), .slice none 0 0, .slice none 0 0]) ?_ 1 _ rfl; (with_reducible repeat (first | refine blk_drewN ?_ _ | refine blk_drew ?_ | refine blk_alloc ?_ _)); refine blk_put (cs := #[.int .i64 0, .string (⟨#[]⟩ : ByteArray), .string (⟨#[]⟩ : ByteArray), .slice none 0 0, .slice none 0 0]) ?_ 0 _ rfl; (with_reducible repeat (first | refine blk_drewN ?_ _ | refine blk_drew ?_ | refine blk_alloc ?_ _)); exact BK176.out) Try.underlying25 rfl (by kernel_rfl)) rfl ?_
  exact ⟨_, _, by first | rfl | (simp [errW_none, errW_some] <;> rfl) | (simp [*, errW_none, errW_some] <;> rfl), by first | exact Kd.R_nil _ _ _ _ _ | exact Kd.N_nil _ _ _ _ _ | exact Kd.V_nil _ _ _ _ _ | exact Kd.Q_nil _ _ _ _ _ | exact Kd.S_nil _ _ _ _ _, by (with_reducible repeat (first | apply Kd.V_alloc | apply Kd.V_drewN | apply Kd.V_drew)); exact Kd.V_mono (Kd.V_far (p := ⟨gb176, 4, none⟩) (Kd.V_far (p := ⟨gb176, 3, none⟩) (Kd.V_far (p := ⟨gb176, 2, none⟩) (Kd.V_far (p := ⟨gb176, 1, none⟩) (Kd.V_far (p := ⟨gb176, 0, none⟩) (Kd.V_mono HO1.out (fun k_ hk => (⟨hk, hk.2⟩ : _ ∧ k_ ≠ gb176))) (fun _ hk => hk.2) (.int .i64 0)) (fun _ hk => hk.2) (.string a0)) (fun _ hk => hk.2) (.string (⟨#[]⟩ : ByteArray))) (fun _ hk => hk.2) (.slice none 0 0)) (fun _ hk => hk.2) (.slice A1 l1.length c1)) (fun _ hk => ⟨hk.1.1, (by simp [Value.ownBlock])⟩), by repeat (first | (with_reducible first | exact HB.out | apply below_alloc | apply pw_below_drewN | apply below_drew1 | refine below_set ?_ GE176.out) | exact HB.out)⟩

/-! ### laws_text29: function 47 -/
def laws_text29.f (a0 : ByteArray) : Option (Int × ByteArray × ByteArray × (List (S78)) × (List (S25))) := some (1, (⟨#[]⟩ : ByteArray), a0, ([] : List (S78)), ([] : List (S25)))
set_option maxHeartbeats 8000000 in
set_option maxRecDepth 100000 in
theorem laws_text29.calls (a0 : ByteArray) (r1 : Int) (r2 : ByteArray) (r3 : ByteArray) (r4 : List (S78)) (r5 : List (S25)) (w : World) (h : laws_text29.f a0 = some (r1, r2, r3, r4, r5)) :
    Calls Try.prog 47 #[.string a0] w fun e w' => ∃ v3_ v4_ : Value, e = .returned (.agg #[.int .i64 r1, .string r2, .string r3, v3_, v4_]) ∧ Kd.R k78 78 w' w.heap.size (fun _ => True) v3_ r4 ∧ Kd.R k25 25 w' w.heap.size (fun k_ => some k_ ≠ (v3_ : Value).ownBlock) v4_ r5 ∧ Below w.heap.size w w' := by
  have hu25 := Try.underlying25
  have HB := Aside0.mk (Below.refl w.heap.size w)
  have H : (some (1, (⟨#[]⟩ : ByteArray), a0, ([] : List (S78)), ([] : List (S25)))) = some (r1, r2, r3, r4, r5) := h
  clear h
  simp only [Option.some.injEq, Prod.mk.injEq] at H
  obtain ⟨rfl, rfl, rfl, rfl, rfl⟩ := H
  go_enter Try.func47, Try.ntmps47
  go_wp2_with (first | ((with_reducible refine gate_dst (N := 2) rfl ?_); refine box_event ?hg (N := 2) ?hd (cs := #[.int .i64 0, .string (⟨#[]⟩ : ByteArray), .string (⟨#[]⟩ : ByteArray), .slice none 0 0, .slice none 0 0]) (t := 25) ?hr ?_; (case hd => rfl); (case hg => rfl); (case hr => first | (go_simp; done) | (go_simp; rfl)); intro gb177 hg w2 hbox hb; have n0_ := Aside0.mk (below_step (by repeat (first | (with_reducible first | exact HB.out | apply below_alloc | apply pw_below_drewN | apply below_drew1) | exact HB.out)) hb); have n1_ := Aside0.mk (hbox); have n2_ := Aside0.mk ((by rw [hg]; exact (below_size (by repeat (first | (with_reducible first | exact HB.out | apply below_alloc | apply pw_below_drewN | apply below_drew1) | exact HB.out))) : w.heap.size ≤ gb177)); have n3_ := Aside0.mk ((by rw [hg]; exact (below_size (by repeat (first | (with_reducible first | exact HB.out | apply below_alloc | apply pw_below_drewN | apply below_drew1) | exact HB.out))) : w.heap.size ≤ gb177)); clear HB; have HB := n0_; have BK177 := n1_; have GW177 := n2_; have GE177 := n3_; clear n0_ n1_ n2_ n3_; clear hb hbox hg; have hcz3_0 : w2.cell? ⟨gb177, 0, none⟩ = some (.int .i64 0) := (blk_cell BK177.out 0).trans rfl; have hcz3_1 : w2.cell? ⟨gb177, 1, none⟩ = some (.string (⟨#[]⟩ : ByteArray)) := (blk_cell BK177.out 1).trans rfl; have hcz3_2 : w2.cell? ⟨gb177, 2, none⟩ = some (.string (⟨#[]⟩ : ByteArray)) := (blk_cell BK177.out 2).trans rfl; have hcz3_3 : w2.cell? ⟨gb177, 3, none⟩ = some (.slice none 0 0) := (blk_cell BK177.out 3).trans rfl; have hcz3_4 : w2.cell? ⟨gb177, 4, none⟩ = some (.slice none 0 0) := (blk_cell BK177.out 4).trans rfl; have hfz3_0 := blk_frozen BK177.out 0; have hfz3_1 := blk_frozen BK177.out 1; have hfz3_2 := blk_frozen BK177.out 2; have hfz3_3 := blk_frozen BK177.out 3; have hfz3_4 := blk_frozen BK177.out 4))
  refine bodyPost_ret (results_cell_row rfl _ _ gb177 25 #[.int .i64 1, .string (⟨#[]⟩ : ByteArray), .string a0, .slice none 0 0, .slice none 0 0] (0, 0) _ rfl (by (with_reducible repeat (first | refine blk_drewN ?_ _ | refine blk_drew ?_ | refine blk_alloc ?_ _)); refine blk_put (cs := #[.int .i64 1, .string (⟨#[]⟩ : ByteArray), .string a0, .slice none 0 0, .slice none 0 0]) ?_ 4 _ rfl; (with_reducible repeat (first | refine blk_drewN ?_ _ | refine blk_drew ?_ | refine blk_alloc ?_ _)); refine blk_put (cs := #[.int .i64 1, .string (⟨#[]⟩ : ByteArray), .string a0, .slice none 0 0, .slice none 0 0]) ?_ 3 _ rfl; (with_reducible repeat (first | refine blk_drewN ?_ _ | refine blk_drew ?_ | refine blk_alloc ?_ _)); refine blk_put (cs := #[.int .i64 1, .string (⟨#[]⟩ : ByteArray), .string (⟨#[]⟩ : ByteArray), .slice none 0 0, .slice none 0 0]) ?_ 2 _ rfl; (with_reducible repeat (first | refine blk_drewN ?_ _ | refine blk_drew ?_ | refine blk_alloc ?_ _)); refine blk_put (cs := #[.int .i64 1, .string (⟨#[]⟩ : ByteArray), .string (⟨#[]⟩ : ByteArray), .slice none 0 0, .slice none 0 0]) ?_ 1 _ rfl; (with_reducible repeat (first | refine blk_drewN ?_ _ | refine blk_drew ?_ | refine blk_alloc ?_ _)); refine blk_put (cs := #[.int .i64 0, .string (⟨#[]⟩ : ByteArray), .string (⟨#[]⟩ : ByteArray), .slice none 0 0, .slice none 0 0]) ?_ 0 _ rfl; (with_reducible repeat (first | refine blk_drewN ?_ _ | refine blk_drew ?_ | refine blk_alloc ?_ _)); exact BK177.out) Try.underlying25 rfl (by kernel_rfl)) rfl ?_
  exact ⟨_, _, by first | rfl | (simp [errW_none, errW_some] <;> rfl) | (simp [*, errW_none, errW_some] <;> rfl), by first | exact Kd.R_nil _ _ _ _ _ | exact Kd.N_nil _ _ _ _ _ | exact Kd.V_nil _ _ _ _ _ | exact Kd.Q_nil _ _ _ _ _ | exact Kd.S_nil _ _ _ _ _, by first | exact Kd.R_nil _ _ _ _ _ | exact Kd.N_nil _ _ _ _ _ | exact Kd.V_nil _ _ _ _ _ | exact Kd.Q_nil _ _ _ _ _ | exact Kd.S_nil _ _ _ _ _, by repeat (first | (with_reducible first | exact HB.out | apply below_alloc | apply pw_below_drewN | apply below_drew1 | refine below_set ?_ GE177.out) | exact HB.out)⟩

-- NOT PRINTED: function 23 (laws_living29)

-- NOT PRINTED: function 5 (laws_FnDomFind)

/-! ### spec_among29: function 48 -/
def spec_among29.f (a0_0 : Int) (a0_1 : ByteArray) (a0_2 : ByteArray) (l0_3 : List (S78)) (l0_4 : List (S25)) (a1 : Bool) : Option (Bool) := if a1 = true then (some (a0_0 == 0)) else (some true)
set_option maxHeartbeats 8000000 in
set_option maxRecDepth 100000 in
theorem spec_among29.calls (a0_0 : Int) (a0_1 : ByteArray) (a0_2 : ByteArray) (A0_3 : Option Addr) (c0_3 : Nat) (l0_3 : List (S78)) (A0_4 : Option Addr) (c0_4 : Nat) (l0_4 : List (S25)) (a1 : Bool) (r : Bool) (w : World) (hr0_3 : Kd.C k78 w A0_3 l0_3.length l0_3) (hc0_3 : l0_3.length ≤ c0_3) (hr0_4 : Kd.C k25 w A0_4 l0_4.length l0_4) (hc0_4 : l0_4.length ≤ c0_4) (h : spec_among29.f a0_0 a0_1 a0_2 l0_3 l0_4 a1 = some r) :
    Calls Try.prog 48 #[.agg #[.int .i64 a0_0, .string a0_1, .string a0_2, .slice A0_3 l0_3.length c0_3, .slice A0_4 l0_4.length c0_4], .bool a1] w fun e w' => e = .returned (.bool r) ∧ Below w.heap.size w w' := by
  have hu25 := Try.underlying25
  have HR0_3 := Aside0.mk hr0_3
  have HC0_3 := Aside0.mk hc0_3
  clear hr0_3 hc0_3
  have HR0_4 := Aside0.mk hr0_4
  have HC0_4 := Aside0.mk hc0_4
  clear hr0_4 hc0_4
  have HB := Aside0.mk (Below.refl w.heap.size w)
  have H : (if a1 = true then (some (a0_0 == 0)) else (some true)) = some r := h
  clear h
  by_cases c3 : a1 = true
  · subst c3
    have H1 : (some (a0_0 == 0)) = some r := by rw [if_pos rfl] at H; exact H
    clear H
    have H := H1
    clear H1
    obtain rfl := Option.some.inj H
    go_enter Try.func48, Try.ntmps48
    go_wp2_with (first | ((with_reducible refine gate_dst (N := 2) rfl ?_); refine box_event ?hg (N := 2) ?hd (cs := #[.int .i64 a0_0, .string a0_1, .string a0_2, .slice A0_3 l0_3.length c0_3, .slice A0_4 l0_4.length c0_4]) (t := 25) ?hr ?_; (case hd => rfl); (case hg => rfl); (case hr => first | (go_simp; done) | (go_simp; rfl)); intro gb250 hg w4 hbox hb; have n0_ := Aside0.mk (below_step (by repeat (first | (with_reducible first | exact HB.out | apply below_alloc | apply pw_below_drewN | apply below_drew1) | exact HB.out)) hb); have n1_ := Aside0.mk (hbox); have n2_ := Aside0.mk ((by rw [hg]; exact (below_size (by repeat (first | (with_reducible first | exact HB.out | apply below_alloc | apply pw_below_drewN | apply below_drew1) | exact HB.out))) : w.heap.size ≤ gb250)); have n3_ := Aside0.mk ((by rw [hg]; exact (below_size (by repeat (first | (with_reducible first | exact HB.out | apply below_alloc | apply pw_below_drewN | apply below_drew1) | exact HB.out))) : w.heap.size ≤ gb250)); clear HB; have HB := n0_; have BK250 := n1_; have GW250 := n2_; have GE250 := n3_; clear n0_ n1_ n2_ n3_; clear hb hbox hg; have hcz5_0 : w4.cell? ⟨gb250, 0, none⟩ = some (.int .i64 a0_0) := (blk_cell BK250.out 0).trans rfl; have hcz5_1 : w4.cell? ⟨gb250, 1, none⟩ = some (.string a0_1) := (blk_cell BK250.out 1).trans rfl; have hcz5_2 : w4.cell? ⟨gb250, 2, none⟩ = some (.string a0_2) := (blk_cell BK250.out 2).trans rfl; have hcz5_3 : w4.cell? ⟨gb250, 3, none⟩ = some (.slice A0_3 l0_3.length c0_3) := (blk_cell BK250.out 3).trans rfl; have hcz5_4 : w4.cell? ⟨gb250, 4, none⟩ = some (.slice A0_4 l0_4.length c0_4) := (blk_cell BK250.out 4).trans rfl; have hfz5_0 := blk_frozen BK250.out 0; have hfz5_1 := blk_frozen BK250.out 1; have hfz5_2 := blk_frozen BK250.out 2; have hfz5_3 := blk_frozen BK250.out 3; have hfz5_4 := blk_frozen BK250.out 4))
    go_ret
    exact ⟨by first | rfl | (simp [errW_none, errW_some] <;> rfl) | (simp [*, errW_none, errW_some] <;> rfl), by repeat (first | (with_reducible first | exact HB.out | apply below_alloc | apply pw_below_drewN | apply below_drew1 | refine below_set ?_ GE250.out) | exact HB.out)⟩
  · replace c3 := Bool.eq_false_iff.mpr c3
    subst c3
    have H1 : (some true) = some r := by rw [if_neg (show ¬ (false = true) by decide)] at H; exact H
    clear H
    have H := H1
    clear H1
    obtain rfl := Option.some.inj H
    go_enter Try.func48, Try.ntmps48
    go_wp2_with (first | ((with_reducible refine gate_dst (N := 2) rfl ?_); refine box_event ?hg (N := 2) ?hd (cs := #[.int .i64 a0_0, .string a0_1, .string a0_2, .slice A0_3 l0_3.length c0_3, .slice A0_4 l0_4.length c0_4]) (t := 25) ?hr ?_; (case hd => rfl); (case hg => rfl); (case hr => first | (go_simp; done) | (go_simp; rfl)); intro gb250 hg w6 hbox hb; have n0_ := Aside0.mk (below_step (by repeat (first | (with_reducible first | exact HB.out | apply below_alloc | apply pw_below_drewN | apply below_drew1) | exact HB.out)) hb); have n1_ := Aside0.mk (hbox); have n2_ := Aside0.mk ((by rw [hg]; exact (below_size (by repeat (first | (with_reducible first | exact HB.out | apply below_alloc | apply pw_below_drewN | apply below_drew1) | exact HB.out))) : w.heap.size ≤ gb250)); have n3_ := Aside0.mk ((by rw [hg]; exact (below_size (by repeat (first | (with_reducible first | exact HB.out | apply below_alloc | apply pw_below_drewN | apply below_drew1) | exact HB.out))) : w.heap.size ≤ gb250)); clear HB; have HB := n0_; have BK250 := n1_; have GW250 := n2_; have GE250 := n3_; clear n0_ n1_ n2_ n3_; clear hb hbox hg))
    go_ret
    exact ⟨by first | rfl | (simp [errW_none, errW_some] <;> rfl) | (simp [*, errW_none, errW_some] <;> rfl), by repeat (first | (with_reducible first | exact HB.out | apply below_alloc | apply pw_below_drewN | apply below_drew1 | refine below_set ?_ GE250.out) | exact HB.out)⟩

/-! ### spec_First29: function 24 -/
def spec_First29.l0 : Nat → List Int → Bool → List (S25) → Int → Int → Option (List Int × Bool)
  | 0, _, _, _, _, _ => none
  | k + 1, x1, x2, x19, x20, x21 => if x21 < x20 then (if 0 ≤ x21 then (if x21 < (x19.length : Int) then ((spec_among29.f ((rd_T25 x19 x21).f0) ((rd_T25 x19 x21).f1) ((rd_T25 x19 x21).f2) ((rd_T25 x19 x21).f3) ((rd_T25 x19 x21).f4) x2).bind fun t265 => (if t265 = true then ((spec_Under29.f x1 x21).bind fun t266 => (some (t266, true))) else (spec_First29.l0 k x1 x2 x19 x20 (wrap64 (x21 + 1))))) else (none)) else (none)) else (some (([] : List Int), false))
def spec_First29.f (k : Nat) (a0_0 : Int) (a0_1 : ByteArray) (a0_2 : ByteArray) (l0_3 : List (S78)) (l0_4 : List (S25)) (l1 : List Int) (a2 : Bool) : Option (List Int × Bool) := (spec_At29.f k a0_0 a0_1 a0_2 l0_3 l0_4 l1).bind fun bt252 => (spec_First29.l0 k l1 a2 bt252.2.2.2.2.1 (bt252.2.2.2.2.1.length : Int) 0)
theorem spec_First29.mono_l : ∀ k, (∀ y0 y1 y2 y3 y4, LeO (spec_First29.l0 k y0 y1 y2 y3 y4) (spec_First29.l0 (k + 1) y0 y1 y2 y3 y4))
  | 0 => fun _ _ _ _ _ r h => by simp [spec_First29.l0] at h
  | k + 1 => by
    have ih0 := spec_First29.mono_l k
    · intro y0 y1 y2 y3 y4
      unfold spec_First29.l0
      repeat' first
      | (with_reducible exact ih0 _ _ _ _ _)
      | (with_reducible exact spec_At29.mono _ _ _ _ _ _ _)
      | (with_reducible exact LeO.refl _)
      | (with_reducible exact LeO.none _)
      | (with_reducible refine LeO.ite ?_ ?_)
      | (with_reducible refine LeO.bind ?_ (fun _ => ?_))
      | exact ih0 _ _ _ _ _
      | exact spec_At29.mono _ _ _ _ _ _ _
      | exact LeO.none _
      | refine LeO.ite ?_ ?_
      | refine LeO.bind ?_ (fun _ => ?_)
theorem spec_First29.mono : ∀ a0 a1 a2 a3 a4 a5 a6 k, LeO (spec_First29.f k a0 a1 a2 a3 a4 a5 a6) (spec_First29.f (k + 1) a0 a1 a2 a3 a4 a5 a6) := by
  intro a0 a1 a2 a3 a4 a5 a6 k
  have ih0 := spec_First29.mono_l k
  unfold spec_First29.f
  repeat' first
      | (with_reducible exact ih0 _ _ _ _ _)
      | (with_reducible exact spec_At29.mono _ _ _ _ _ _ _)
      | (with_reducible exact LeO.refl _)
      | (with_reducible exact LeO.none _)
      | (with_reducible refine LeO.ite ?_ ?_)
      | (with_reducible refine LeO.bind ?_ (fun _ => ?_))
      | exact ih0 _ _ _ _ _
      | exact spec_At29.mono _ _ _ _ _ _ _
      | exact LeO.none _
      | refine LeO.ite ?_ ?_
      | refine LeO.bind ?_ (fun _ => ?_)
set_option maxHeartbeats 8000000 in
set_option maxRecDepth 100000 in
theorem spec_First29.calls (k : Nat) (a0_0 : Int) (a0_1 : ByteArray) (a0_2 : ByteArray) (A0_3 : Option Addr) (c0_3 : Nat) (l0_3 : List (S78)) (A0_4 : Option Addr) (c0_4 : Nat) (l0_4 : List (S25)) (A1 : Option Addr) (c1 : Nat) (l1 : List Int) (a2 : Bool) (r1 : List Int) (r2 : Bool) (w : World) (hr0_3 : Kd.C k78 w A0_3 l0_3.length l0_3) (hc0_3 : l0_3.length ≤ c0_3) (hr0_4 : Kd.C k25 w A0_4 l0_4.length l0_4) (hc0_4 : l0_4.length ≤ c0_4) (hr1 : Kd.C (Kd.int .i64) w A1 l1.length l1) (hc1 : l1.length ≤ c1) (h : spec_First29.f k a0_0 a0_1 a0_2 l0_3 l0_4 l1 a2 = some (r1, r2)) :
    Calls Try.prog 24 #[.agg #[.int .i64 a0_0, .string a0_1, .string a0_2, .slice A0_3 l0_3.length c0_3, .slice A0_4 l0_4.length c0_4], .slice A1 l1.length c1, .bool a2] w fun e w' => ∃ v0_ : Value, e = .returned (.tuple #[v0_, .bool r2]) ∧ Kd.R (Kd.int .i64) 3 w' w.heap.size (fun _ => True) v0_ r1 ∧ Below w.heap.size w w' := by
  have hu25 := Try.underlying25
  have HR0_3 := Aside0.mk hr0_3
  have HC0_3 := Aside0.mk hc0_3
  clear hr0_3 hc0_3
  have HR0_4 := Aside0.mk hr0_4
  have HC0_4 := Aside0.mk hc0_4
  clear hr0_4 hc0_4
  have HR1 := Aside0.mk hr1
  have HC1 := Aside0.mk hc1
  clear hr1 hc1
  have HB := Aside0.mk (Below.refl w.heap.size w)
  have H : ((spec_At29.f k a0_0 a0_1 a0_2 l0_3 l0_4 l1).bind fun bt252 => (spec_First29.l0 k l1 a2 bt252.2.2.2.2.1 (bt252.2.2.2.2.1.length : Int) 0)) = some (r1, r2) := h
  clear h
  replace H := Option.bind_eq_some_iff.mp H
  obtain ⟨⟨t252, t253, t254, t255, t258, t261⟩, A40, H⟩ := H
  replace H : (spec_First29.l0 k l1 a2 t258 (t258.length : Int) 0) = some (r1, r2) := H
  have A4 := Aside0.mk A40
  clear A40
  have H' := Aside0.mk H
  clear H
  go_enter Try.func24, Try.ntmps24
  go_wp2_with (first | ((with_reducible refine gate_dst (N := 3) rfl ?_); refine box_event ?hg (N := 3) ?hd (cs := #[.int .i64 a0_0, .string a0_1, .string a0_2, .slice A0_3 l0_3.length c0_3, .slice A0_4 l0_4.length c0_4]) (t := 25) ?hr ?_; (case hd => rfl); (case hg => rfl); (case hr => first | (go_simp; done) | (go_simp; rfl)); intro gb251 hg w5 hbox hb; have n0_ := Aside0.mk (below_step (by repeat (first | (with_reducible first | exact HB.out | apply below_alloc | apply pw_below_drewN | apply below_drew1) | exact HB.out)) hb); have n1_ := Aside0.mk (hbox); have n2_ := Aside0.mk ((by rw [hg]; exact (below_size (by repeat (first | (with_reducible first | exact HB.out | apply below_alloc | apply pw_below_drewN | apply below_drew1) | exact HB.out))) : w.heap.size ≤ gb251)); have n3_ := Aside0.mk ((by rw [hg]; exact (below_size (by repeat (first | (with_reducible first | exact HB.out | apply below_alloc | apply pw_below_drewN | apply below_drew1) | exact HB.out))) : w.heap.size ≤ gb251)); clear HB; have HB := n0_; have BK251 := n1_; have GW251 := n2_; have GE251 := n3_; clear n0_ n1_ n2_ n3_; clear hb hbox hg; have hcz6_0 : w5.cell? ⟨gb251, 0, none⟩ = some (.int .i64 a0_0) := (blk_cell BK251.out 0).trans rfl; have hcz6_1 : w5.cell? ⟨gb251, 1, none⟩ = some (.string a0_1) := (blk_cell BK251.out 1).trans rfl; have hcz6_2 : w5.cell? ⟨gb251, 2, none⟩ = some (.string a0_2) := (blk_cell BK251.out 2).trans rfl; have hcz6_3 : w5.cell? ⟨gb251, 3, none⟩ = some (.slice A0_3 l0_3.length c0_3) := (blk_cell BK251.out 3).trans rfl; have hcz6_4 : w5.cell? ⟨gb251, 4, none⟩ = some (.slice A0_4 l0_4.length c0_4) := (blk_cell BK251.out 4).trans rfl; have hfz6_0 := blk_frozen BK251.out 0; have hfz6_1 := blk_frozen BK251.out 1; have hfz6_2 := blk_frozen BK251.out 2; have hfz6_3 := blk_frozen BK251.out 3; have hfz6_4 := blk_frozen BK251.out 4) | ((with_reducible refine gate_callee (f := 17) rfl ?_); refine goesL_ (some 15) rfl rfl Try.func17 (by kernel_rfl) rfl #[.agg #[.int .i64 a0_0, .string a0_1, .string a0_2, .slice A0_3 l0_3.length c0_3, .slice A0_4 l0_4.length c0_4], .slice A1 l1.length c1] rfl (by (try simp only [List.map_toArray, List.map_cons, List.map_nil]); first | done | rfl | (simp only [List.length_drop, List.length_take]; rfl)) ?_; (with_reducible refine (spec_At29.calls k a0_0 a0_1 a0_2 (fun k_ => k_ < w.heap.size) _ _ l0_3 (fun k_ => k_ < w.heap.size) _ _ l0_4 _ _ l1 t252 t253 t254 t255 t258 t261 _ ?side1 ?side2 ?side3 ?side4 A4.out).mono ?_); (case side1 => exact Kd.V_mk HC0_3.out (Kd.F_below (Kd.C_F k78_heap HR0_3.out) (by repeat (first | (with_reducible first | exact HB.out | apply below_alloc | apply pw_below_drewN | apply below_drew1 | refine below_set ?_ GE251.out) | exact HB.out)))); (case side2 => exact Kd.V_mk HC0_4.out (Kd.F_below (Kd.C_F k25_heap HR0_4.out) (by repeat (first | (with_reducible first | exact HB.out | apply below_alloc | apply pw_below_drewN | apply below_drew1 | refine below_set ?_ GE251.out) | exact HB.out)))); (case side3 => repeat (first | exact (Kd.C_below HR1.out HB.out) | (with_reducible refine Kd.C_alloc ?_ _) | (with_reducible refine Kd.C_drewN ?_ _) | (with_reducible refine Kd.C_drew ?_))); (case side4 => exact HC1.out); rintro e w7 ⟨v256, v259, rfl, ho0, ho1, hb⟩; refine ⟨_, rfl, ?_⟩; have n0_ := Aside0.mk (Kd.V_lower (Kd.V_mono (ok' := fun k_ => k_ ≠ gb251) ho0 (fun k_ hk_ => Or.elim hk_ (fun hs_ => Or.elim hs_ (fun hs_ => fun e_ => Nat.not_le.2 hs_ (by rw [e_]; exact GW251.out)) (fun hs_ => fun e_ => Nat.not_le.2 hs_ (by rw [e_]; exact GW251.out))) (fun hn_ => (Kd.freshB (g := gb251) (o := .cells #[.int .i64 a0_0, .string a0_1, .string a0_2, .slice A0_3 l0_3.length c0_3, .slice A0_4 l0_4.length c0_4] 25 (0, 0)) (by (with_reducible repeat (first | refine blk_drewN ?_ _ | refine blk_drew ?_ | refine blk_alloc ?_ _)); exact BK251.out) k_ hn_)))) (below_size (by repeat (first | (with_reducible first | exact HB.out | apply below_alloc | apply pw_below_drewN | apply below_drew1 | refine below_set ?_ GE251.out) | exact HB.out)))); have n1_ := Aside0.mk (Kd.V_lower (Kd.V_mono (ok' := fun k_ => k_ ≠ gb251) ho1 (fun k_ hk_ => Or.elim hk_ (fun hs_ => Or.elim hs_ (fun hs_ => fun e_ => Nat.not_le.2 hs_ (by rw [e_]; exact GW251.out)) (fun hs_ => fun e_ => Nat.not_le.2 hs_ (by rw [e_]; exact GW251.out))) (fun hn_ => (Kd.freshB (g := gb251) (o := .cells #[.int .i64 a0_0, .string a0_1, .string a0_2, .slice A0_3 l0_3.length c0_3, .slice A0_4 l0_4.length c0_4] 25 (0, 0)) (by (with_reducible repeat (first | refine blk_drewN ?_ _ | refine blk_drew ?_ | refine blk_alloc ?_ _)); exact BK251.out) k_ hn_)))) (below_size (by repeat (first | (with_reducible first | exact HB.out | apply below_alloc | apply pw_below_drewN | apply below_drew1 | refine below_set ?_ GE251.out) | exact HB.out)))); have n2_ := Aside0.mk (blk_below (g := gb251) (o := .cells #[.int .i64 a0_0, .string a0_1, .string a0_2, .slice A0_3 l0_3.length c0_3, .slice A0_4 l0_4.length c0_4] 25 (0, 0)) (by (with_reducible repeat (first | refine blk_drewN ?_ _ | refine blk_drew ?_ | refine blk_alloc ?_ _)); exact BK251.out) hb); have n3_ := Aside0.mk (below_step (by repeat (first | (with_reducible first | exact HB.out | apply below_alloc | apply pw_below_drewN | apply below_drew1 | refine below_set ?_ GE251.out) | exact HB.out)) hb); clear BK251; clear HB; have HO257 := n0_; have HO260 := n1_; have BK251 := n2_; have HB := n3_; clear n0_ n1_ n2_ n3_; (try clear hb); (try clear hb2); (try clear hk); (try clear hi); (try clear ho0); (try clear ho1)) | ((with_reducible refine gate_dst (N := 8) rfl ?_); refine box_event ?hg (N := 8) ?hd (cs := #[.int .i64 0, .string (⟨#[]⟩ : ByteArray), .string (⟨#[]⟩ : ByteArray), .slice none 0 0, .slice none 0 0]) (t := 25) ?hr ?_; (case hd => rfl); (case hg => rfl); (case hr => first | (go_simp; done) | (go_simp; rfl)); intro gb262 hg w8 hbox hb; have n0_ := Aside0.mk (Kd.V_below (Kd.V_elderB (by (with_reducible repeat (first | apply Kd.V_alloc | apply Kd.V_drewN | apply Kd.V_drew)); exact HO257.out) gb262 (Nat.le_of_eq hg.symm)) hb); have n1_ := Aside0.mk (Kd.V_below (Kd.V_elderB (by (with_reducible repeat (first | apply Kd.V_alloc | apply Kd.V_drewN | apply Kd.V_drew)); exact HO260.out) gb262 (Nat.le_of_eq hg.symm)) hb); have n2_ := Aside0.mk (blk_below (g := gb251) (o := .cells #[.int .i64 a0_0, .string a0_1, .string a0_2, .slice A0_3 l0_3.length c0_3, .slice A0_4 l0_4.length c0_4] 25 (0, 0)) (by (with_reducible repeat (first | refine blk_drewN ?_ _ | refine blk_drew ?_ | refine blk_alloc ?_ _)); exact BK251.out) hb); have n3_ := Aside0.mk (below_step (by repeat (first | (with_reducible first | exact HB.out | apply below_alloc | apply pw_below_drewN | apply below_drew1 | refine below_set ?_ GE251.out) | exact HB.out)) hb); have n4_ := Aside0.mk (hbox); have n5_ := Aside0.mk ((by rw [hg]; exact (below_size (by repeat (first | (with_reducible first | exact HB.out | apply below_alloc | apply pw_below_drewN | apply below_drew1 | refine below_set ?_ GE251.out) | exact HB.out))) : w.heap.size ≤ gb262)); have n6_ := Aside0.mk ((by rw [hg]; exact (below_size (by repeat (first | (with_reducible first | exact HB.out | apply below_alloc | apply pw_below_drewN | apply below_drew1 | refine below_set ?_ GE251.out) | exact HB.out))) : w.heap.size ≤ gb262)); have n7_ := Aside0.mk ((by rw [hg]; exact Nat.ne_of_lt (blk_lt (g := gb251) (o := .cells #[.int .i64 a0_0, .string a0_1, .string a0_2, .slice A0_3 l0_3.length c0_3, .slice A0_4 l0_4.length c0_4] 25 (0, 0)) (by (with_reducible repeat (first | refine blk_drewN ?_ _ | refine blk_drew ?_ | refine blk_alloc ?_ _)); exact BK251.out)) : gb251 ≠ gb262)); have n8_ := Aside0.mk ((by rw [hg]; exact Nat.ne_of_gt (blk_lt (g := gb251) (o := .cells #[.int .i64 a0_0, .string a0_1, .string a0_2, .slice A0_3 l0_3.length c0_3, .slice A0_4 l0_4.length c0_4] 25 (0, 0)) (by (with_reducible repeat (first | refine blk_drewN ?_ _ | refine blk_drew ?_ | refine blk_alloc ?_ _)); exact BK251.out)) : gb262 ≠ gb251)); clear HO257; clear HO260; clear BK251; clear HB; have HO257 := n0_; have HO260 := n1_; have BK251 := n2_; have HB := n3_; have BK262 := n4_; have GW262 := n5_; have GE262 := n6_; have NB251_262 := n7_; have NB262_251 := n8_; clear n0_ n1_ n2_ n3_ n4_ n5_ n6_ n7_ n8_; clear hb hbox hg; have hnb9 := NB262_251.out; have hnc9 := NB251_262.out; have hcz10_0 : w8.cell? ⟨gb262, 0, none⟩ = some (.int .i64 0) := (blk_cell BK262.out 0).trans rfl; have hcz10_1 : w8.cell? ⟨gb262, 1, none⟩ = some (.string (⟨#[]⟩ : ByteArray)) := (blk_cell BK262.out 1).trans rfl; have hcz10_2 : w8.cell? ⟨gb262, 2, none⟩ = some (.string (⟨#[]⟩ : ByteArray)) := (blk_cell BK262.out 2).trans rfl; have hcz10_3 : w8.cell? ⟨gb262, 3, none⟩ = some (.slice none 0 0) := (blk_cell BK262.out 3).trans rfl; have hcz10_4 : w8.cell? ⟨gb262, 4, none⟩ = some (.slice none 0 0) := (blk_cell BK262.out 4).trans rfl; have hfz10_0 := blk_frozen BK262.out 0; have hfz10_1 := blk_frozen BK262.out 1; have hfz10_2 := blk_frozen BK262.out 2; have hfz10_3 := blk_frozen BK262.out 3; have hfz10_4 := blk_frozen BK262.out 4; obtain ⟨Ao11, co11, eo11⟩ := Kd.V_slice HO257.out; subst eo11; obtain ⟨Ao12, co12, eo12⟩ := Kd.V_slice HO260.out; subst eo12))
  go_loopg [21] k (fun kq v21 w' => ∃ (x21_1 : Int), v21 = .int .i64 x21_1 ∧ Aside0 (spec_First29.l0 kq l1 a2 t258 (t258.length : Int) x21_1 = some (r1, r2)) ∧ Aside0 (kq ≤ k) ∧ Aside0 (Kd.V k25 25 w' w.heap.size (fun k_ => k_ ≠ gb251 ∧ k_ ≠ gb262) (.slice Ao12 t258.length co12) t258) ∧ Aside0 (Kd.V k78 78 w' w.heap.size (fun k_ => k_ ≠ gb251 ∧ k_ ≠ gb262) (.slice Ao11 t255.length co11) t255) ∧ Aside0 (Kd.V k25 25 w' w.heap.size (fun k_ => k_ ≠ gb251 ∧ k_ ≠ gb262) (.slice Ao12 t258.length co12) t258) ∧ Aside0 (w'.heap[gb251]? = some (.cells #[.int .i64 a0_0, .string a0_1, .string a0_2, (.slice A0_3 l0_3.length c0_3), (.slice A0_4 l0_4.length c0_4)] 25 (0, 0))) ∧ Aside0 (w'.heap[gb262]? = some (.cells #[.int .i64 t252, .string t253, .string t254, (.slice Ao11 t255.length co11), (.slice Ao12 t258.length co12)] 25 (0, 0))) ∧ Aside0 (Below w.heap.size w w'))
  case atStart => exact ⟨(0), (by first | rfl | (simp; done) | (simp [*]; done)), H', ⟨Nat.le_refl _⟩, ⟨by (with_reducible repeat (first | apply Kd.V_alloc | apply Kd.V_drewN | apply Kd.V_drew)); exact Kd.V_mono (Kd.V_far (p := ⟨gb262, 4, none⟩) (Kd.V_far (p := ⟨gb262, 3, none⟩) (Kd.V_far (p := ⟨gb262, 2, none⟩) (Kd.V_far (p := ⟨gb262, 1, none⟩) (Kd.V_far (p := ⟨gb262, 0, none⟩) (Kd.V_mono HO260.out (fun k_ hk => (⟨hk, hk.2⟩ : _ ∧ k_ ≠ gb262))) (fun _ hk => hk.2) (.int .i64 t252)) (fun _ hk => hk.2) (.string t253)) (fun _ hk => hk.2) (.string t254)) (fun _ hk => hk.2) (.slice Ao11 t255.length co11)) (fun _ hk => hk.2) (.slice Ao12 t258.length co12)) (fun _ hk => ⟨hk.1.1, hk.1.2⟩)⟩, ⟨by (with_reducible repeat (first | apply Kd.V_alloc | apply Kd.V_drewN | apply Kd.V_drew)); exact Kd.V_mono (Kd.V_far (p := ⟨gb262, 4, none⟩) (Kd.V_far (p := ⟨gb262, 3, none⟩) (Kd.V_far (p := ⟨gb262, 2, none⟩) (Kd.V_far (p := ⟨gb262, 1, none⟩) (Kd.V_far (p := ⟨gb262, 0, none⟩) (Kd.V_mono HO257.out (fun k_ hk => (⟨hk, hk.2⟩ : _ ∧ k_ ≠ gb262))) (fun _ hk => hk.2) (.int .i64 t252)) (fun _ hk => hk.2) (.string t253)) (fun _ hk => hk.2) (.string t254)) (fun _ hk => hk.2) (.slice Ao11 t255.length co11)) (fun _ hk => hk.2) (.slice Ao12 t258.length co12)) (fun _ hk => ⟨hk.1.1, hk.1.2⟩)⟩, ⟨by (with_reducible repeat (first | apply Kd.V_alloc | apply Kd.V_drewN | apply Kd.V_drew)); exact Kd.V_mono (Kd.V_far (p := ⟨gb262, 4, none⟩) (Kd.V_far (p := ⟨gb262, 3, none⟩) (Kd.V_far (p := ⟨gb262, 2, none⟩) (Kd.V_far (p := ⟨gb262, 1, none⟩) (Kd.V_far (p := ⟨gb262, 0, none⟩) (Kd.V_mono HO260.out (fun k_ hk => (⟨hk, hk.2⟩ : _ ∧ k_ ≠ gb262))) (fun _ hk => hk.2) (.int .i64 t252)) (fun _ hk => hk.2) (.string t253)) (fun _ hk => hk.2) (.string t254)) (fun _ hk => hk.2) (.slice Ao11 t255.length co11)) (fun _ hk => hk.2) (.slice Ao12 t258.length co12)) (fun _ hk => ⟨hk.1.1, hk.1.2⟩)⟩, ⟨by (with_reducible repeat (first | refine blk_drewN ?_ _ | refine blk_drew ?_ | refine blk_alloc ?_ _)); refine blk_far ?_ NB251_262.out _; (with_reducible repeat (first | refine blk_drewN ?_ _ | refine blk_drew ?_ | refine blk_alloc ?_ _)); refine blk_far ?_ NB251_262.out _; (with_reducible repeat (first | refine blk_drewN ?_ _ | refine blk_drew ?_ | refine blk_alloc ?_ _)); refine blk_far ?_ NB251_262.out _; (with_reducible repeat (first | refine blk_drewN ?_ _ | refine blk_drew ?_ | refine blk_alloc ?_ _)); refine blk_far ?_ NB251_262.out _; (with_reducible repeat (first | refine blk_drewN ?_ _ | refine blk_drew ?_ | refine blk_alloc ?_ _)); refine blk_far ?_ NB251_262.out _; (with_reducible repeat (first | refine blk_drewN ?_ _ | refine blk_drew ?_ | refine blk_alloc ?_ _)); exact BK251.out⟩, ⟨by (with_reducible repeat (first | refine blk_drewN ?_ _ | refine blk_drew ?_ | refine blk_alloc ?_ _)); refine blk_put (cs := #[.int .i64 t252, .string t253, .string t254, .slice Ao11 t255.length co11, .slice none 0 0]) ?_ 4 _ rfl; (with_reducible repeat (first | refine blk_drewN ?_ _ | refine blk_drew ?_ | refine blk_alloc ?_ _)); refine blk_put (cs := #[.int .i64 t252, .string t253, .string t254, .slice none 0 0, .slice none 0 0]) ?_ 3 _ rfl; (with_reducible repeat (first | refine blk_drewN ?_ _ | refine blk_drew ?_ | refine blk_alloc ?_ _)); refine blk_put (cs := #[.int .i64 t252, .string t253, .string (⟨#[]⟩ : ByteArray), .slice none 0 0, .slice none 0 0]) ?_ 2 _ rfl; (with_reducible repeat (first | refine blk_drewN ?_ _ | refine blk_drew ?_ | refine blk_alloc ?_ _)); refine blk_put (cs := #[.int .i64 t252, .string (⟨#[]⟩ : ByteArray), .string (⟨#[]⟩ : ByteArray), .slice none 0 0, .slice none 0 0]) ?_ 1 _ rfl; (with_reducible repeat (first | refine blk_drewN ?_ _ | refine blk_drew ?_ | refine blk_alloc ?_ _)); refine blk_put (cs := #[.int .i64 0, .string (⟨#[]⟩ : ByteArray), .string (⟨#[]⟩ : ByteArray), .slice none 0 0, .slice none 0 0]) ?_ 0 _ rfl; (with_reducible repeat (first | refine blk_drewN ?_ _ | refine blk_drew ?_ | refine blk_alloc ?_ _)); exact BK262.out⟩, ⟨by repeat (first | (with_reducible first | exact HB.out | apply below_alloc | apply pw_below_drewN | apply below_drew1 | refine below_set ?_ GE251.out | refine below_set ?_ GE262.out) | exact HB.out)⟩⟩
  case round =>
    clear H'
    try clear c1
    try clear c2
    try clear p2
    try clear c9
    try clear hcz10_0
    try clear hcz10_1
    try clear hcz10_2
    try clear hcz10_3
    try clear hcz10_4
    try clear hcz6_0
    try clear hcz6_1
    try clear hcz6_2
    try clear hcz6_3
    try clear hcz6_4
    try clear hfz10_0
    try clear hfz10_1
    try clear hfz10_2
    try clear hfz10_3
    try clear hfz10_4
    try clear hfz6_0
    try clear hfz6_1
    try clear hfz6_2
    try clear hfz6_3
    try clear hfz6_4
    obtain ⟨x21_1, rfl, HA, HK1, HO_19, HO_263003, HO_263004, BK251, BK262, HB⟩ := hrel
    cases gk with
    | zero => exact absurd HA.out (by simp [spec_First29.l0])
    | succ k1 =>
      have H := HA.out
      clear HA
      simp only [spec_First29.l0] at H
      by_cases c13 : x21_1 < (t258.length : Int)
      · rw [if_pos c13] at H
        have c13b0 : decide (x21_1 < (t258.length : Int)) = true := decide_eq_true c13
        clear c13
        by_cases c14 : 0 ≤ x21_1
        · rw [if_pos c14] at H
          have c14b0 : decide (0 ≤ x21_1) = true := decide_eq_true c14
          clear c14
          by_cases c15 : x21_1 < (t258.length : Int)
          · rw [if_pos c15] at H
            have c15b0 : decide (x21_1 < (t258.length : Int)) = true := decide_eq_true c15
            clear c15
            replace H := Option.bind_eq_some_iff.mp H
            obtain ⟨t265, A160, H⟩ := H
            replace H : (if t265 = true then ((spec_Under29.f l1 x21_1).bind fun t266 => (some (t266, true))) else (spec_First29.l0 k1 l1 a2 t258 (t258.length : Int) (wrap64 (x21_1 + 1)))) = some (r1, r2) := H
            have A16 := Aside0.mk A160
            clear A160
            by_cases c17 : t265 = true
            · subst c17
              have H1 : ((spec_Under29.f l1 x21_1).bind fun t266 => (some (t266, true))) = some (r1, r2) := by rw [if_pos rfl] at H; exact H
              clear H
              have H := H1
              clear H1
              replace H := Option.bind_eq_some_iff.mp H
              obtain ⟨t266, A180, H⟩ := H
              replace H : (some (t266, true)) = some (r1, r2) := H
              have A18 := Aside0.mk A180
              clear A180
              simp only [Option.some.injEq, Prod.mk.injEq] at H
              obtain ⟨rfl, rfl⟩ := H
              have p263 : 0 ≤ (x21_1 : Int) := of_decide_eq_true (by first | (with_reducible assumption) | assumption)
              have q263 : x21_1 < (t258.length : Int) := of_decide_eq_true (by first | (with_reducible assumption) | assumption)
              obtain ⟨ad263, A263_3, c263_3, A263_4, c263_4, e263, hx263_0, hx263_1, hx263_2, hx263_3, hx263_4, hl263_3, hi263_3, hl263_4, hi263_4⟩ := at_T25 (Kd.V_reads' HO_19.out).2.2 x21_1 p263 q263
              cases e263
              obtain ⟨ce263, hce263, hMe263, hcc263⟩ := Kd.V_get HO_19.out z25 x21_1 p263 (by first | exact q263 | exact of_decide_eq_true (by first | (with_reducible assumption) | assumption) | (have e_ := (Kd.V_reads' HO_19.out).1; omega))
              obtain ⟨ua263_3, uc263_3, ua263_4, uc263_4, rfl, ul263_3, ge263_3, ul263_4, ge263_4⟩ := k25_openF hMe263
              have hv263_3 := hcc263 3 _ rfl
              rw [add_field _ _ 3 (by omega)] at hv263_3
              replace hv263_3 := Option.some.inj (hv263_3.symm.trans hx263_3)
              injection hv263_3 with hva_ hvn_ hvc_
              rw [hva_] at ge263_3
              rw [hvc_] at ul263_3
              have HL263_3 := Aside0.mk (show Kd.V k78 78 _ w.heap.size _ _ ((rd_T25 t258 x21_1).f3) from Kd.V_mk ul263_3 ge263_3)
              clear hva_ hvn_ hvc_ ge263_3 ul263_3
              have hv263_4 := hcc263 4 _ rfl
              rw [add_field _ _ 4 (by omega)] at hv263_4
              replace hv263_4 := Option.some.inj (hv263_4.symm.trans hx263_4)
              injection hv263_4 with hva_ hvn_ hvc_
              rw [hva_] at ge263_4
              rw [hvc_] at ul263_4
              have HL263_4 := Aside0.mk (show Kd.V k25 25 _ w.heap.size _ _ ((rd_T25 t258 x21_1).f4) from Kd.V_mk ul263_4 ge263_4)
              clear hva_ hvn_ hvc_ ge263_4 ul263_4
              clear hcc263 hce263
              have HR263_3 := Aside0.mk hi263_3
              have HC263_3 := Aside0.mk hl263_3
              clear hi263_3 hl263_3
              have HR263_4 := Aside0.mk hi263_4
              have HC263_4 := Aside0.mk hl263_4
              clear hi263_4 hl263_4
              replace p263 := eq_true p263
              replace q263 := eq_true q263
              go_wp2_with (first | ((with_reducible refine gate_dst (N := 11) rfl ?_); refine box_event ?hg (N := 11) ?hd (cs := #[.int .i64 0, .string (⟨#[]⟩ : ByteArray), .string (⟨#[]⟩ : ByteArray), .slice none 0 0, .slice none 0 0]) (t := 25) ?hr ?_; (case hd => rfl); (case hg => rfl); (case hr => first | (go_simp; done) | (go_simp; rfl)); intro gb264 hg w19 hbox hb; have n0_ := Aside0.mk (Kd.V_below (Kd.V_elderB (by (with_reducible repeat (first | apply Kd.V_alloc | apply Kd.V_drewN | apply Kd.V_drew)); exact HO_19.out) gb264 (Nat.le_of_eq hg.symm)) hb); have n1_ := Aside0.mk (Kd.V_below (Kd.V_elderB (by (with_reducible repeat (first | apply Kd.V_alloc | apply Kd.V_drewN | apply Kd.V_drew)); exact HO_263003.out) gb264 (Nat.le_of_eq hg.symm)) hb); have n2_ := Aside0.mk (Kd.V_below (Kd.V_elderB (by (with_reducible repeat (first | apply Kd.V_alloc | apply Kd.V_drewN | apply Kd.V_drew)); exact HO_263004.out) gb264 (Nat.le_of_eq hg.symm)) hb); have n3_ := Aside0.mk (Kd.V_below (Kd.V_elderB (by (with_reducible repeat (first | apply Kd.V_alloc | apply Kd.V_drewN | apply Kd.V_drew)); exact HL263_3.out) gb264 (Nat.le_of_eq hg.symm)) hb); have n4_ := Aside0.mk (Kd.V_below (Kd.V_elderB (by (with_reducible repeat (first | apply Kd.V_alloc | apply Kd.V_drewN | apply Kd.V_drew)); exact HL263_4.out) gb264 (Nat.le_of_eq hg.symm)) hb); have n5_ := Aside0.mk (blk_below (g := gb251) (o := .cells #[.int .i64 a0_0, .string a0_1, .string a0_2, .slice A0_3 l0_3.length c0_3, .slice A0_4 l0_4.length c0_4] 25 (0, 0)) (by (with_reducible repeat (first | refine blk_drewN ?_ _ | refine blk_drew ?_ | refine blk_alloc ?_ _)); exact BK251.out) hb); have n6_ := Aside0.mk (blk_below (g := gb262) (o := .cells #[.int .i64 t252, .string t253, .string t254, .slice Ao11 t255.length co11, .slice (some ad263) t258.length co12] 25 (0, 0)) (by (with_reducible repeat (first | refine blk_drewN ?_ _ | refine blk_drew ?_ | refine blk_alloc ?_ _)); exact BK262.out) hb); have n7_ := Aside0.mk (Kd.C_below (by repeat (first | (with_reducible exact HR263_3.out) | (with_reducible refine Kd.C_alloc ?_ _) | (with_reducible refine Kd.C_drewN ?_ _) | (with_reducible refine Kd.C_drew ?_) | exact HR263_3.out)) hb); have n8_ := Aside0.mk (Kd.C_below (by repeat (first | (with_reducible exact HR263_4.out) | (with_reducible refine Kd.C_alloc ?_ _) | (with_reducible refine Kd.C_drewN ?_ _) | (with_reducible refine Kd.C_drew ?_) | exact HR263_4.out)) hb); have n9_ := Aside0.mk (below_step (by repeat (first | (with_reducible first | exact HB.out | apply below_alloc | apply pw_below_drewN | apply below_drew1 | refine below_set ?_ GE251.out | refine below_set ?_ GE262.out) | exact HB.out)) hb); have n10_ := Aside0.mk (hbox); have n11_ := Aside0.mk ((by rw [hg]; exact (below_size (by repeat (first | (with_reducible first | exact HB.out | apply below_alloc | apply pw_below_drewN | apply below_drew1 | refine below_set ?_ GE251.out | refine below_set ?_ GE262.out) | exact HB.out))) : w.heap.size ≤ gb264)); have n12_ := Aside0.mk ((by rw [hg]; exact (below_size (by repeat (first | (with_reducible first | exact HB.out | apply below_alloc | apply pw_below_drewN | apply below_drew1 | refine below_set ?_ GE251.out | refine below_set ?_ GE262.out) | exact HB.out))) : w.heap.size ≤ gb264)); have n13_ := Aside0.mk ((by rw [hg]; exact Nat.ne_of_lt (blk_lt (g := gb251) (o := .cells #[.int .i64 a0_0, .string a0_1, .string a0_2, .slice A0_3 l0_3.length c0_3, .slice A0_4 l0_4.length c0_4] 25 (0, 0)) (by (with_reducible repeat (first | refine blk_drewN ?_ _ | refine blk_drew ?_ | refine blk_alloc ?_ _)); exact BK251.out)) : gb251 ≠ gb264)); have n14_ := Aside0.mk ((by rw [hg]; exact Nat.ne_of_gt (blk_lt (g := gb251) (o := .cells #[.int .i64 a0_0, .string a0_1, .string a0_2, .slice A0_3 l0_3.length c0_3, .slice A0_4 l0_4.length c0_4] 25 (0, 0)) (by (with_reducible repeat (first | refine blk_drewN ?_ _ | refine blk_drew ?_ | refine blk_alloc ?_ _)); exact BK251.out)) : gb264 ≠ gb251)); have n15_ := Aside0.mk ((by rw [hg]; exact Nat.ne_of_lt (blk_lt (g := gb262) (o := .cells #[.int .i64 t252, .string t253, .string t254, .slice Ao11 t255.length co11, .slice (some ad263) t258.length co12] 25 (0, 0)) (by (with_reducible repeat (first | refine blk_drewN ?_ _ | refine blk_drew ?_ | refine blk_alloc ?_ _)); exact BK262.out)) : gb262 ≠ gb264)); have n16_ := Aside0.mk ((by rw [hg]; exact Nat.ne_of_gt (blk_lt (g := gb262) (o := .cells #[.int .i64 t252, .string t253, .string t254, .slice Ao11 t255.length co11, .slice (some ad263) t258.length co12] 25 (0, 0)) (by (with_reducible repeat (first | refine blk_drewN ?_ _ | refine blk_drew ?_ | refine blk_alloc ?_ _)); exact BK262.out)) : gb264 ≠ gb262)); clear HO_19; clear HO_263003; clear HO_263004; clear HL263_3; clear HL263_4; clear BK251; clear BK262; clear HR263_3; clear HR263_4; clear HB; have HO_19 := n0_; have HO_263003 := n1_; have HO_263004 := n2_; have HL263_3 := n3_; have HL263_4 := n4_; have BK251 := n5_; have BK262 := n6_; have HR263_3 := n7_; have HR263_4 := n8_; have HB := n9_; have BK264 := n10_; have GW264 := n11_; have GE264 := n12_; have NB251_264 := n13_; have NB264_251 := n14_; have NB262_264 := n15_; have NB264_262 := n16_; clear n0_ n1_ n2_ n3_ n4_ n5_ n6_ n7_ n8_ n9_ n10_ n11_ n12_ n13_ n14_ n15_ n16_; clear hb hbox hg; have hnb20 := NB264_251.out; have hnc20 := NB251_264.out; have hnb21 := NB264_262.out; have hnc21 := NB262_264.out; have hcz22_0 : w19.cell? ⟨gb264, 0, none⟩ = some (.int .i64 0) := (blk_cell BK264.out 0).trans rfl; have hcz22_1 : w19.cell? ⟨gb264, 1, none⟩ = some (.string (⟨#[]⟩ : ByteArray)) := (blk_cell BK264.out 1).trans rfl; have hcz22_2 : w19.cell? ⟨gb264, 2, none⟩ = some (.string (⟨#[]⟩ : ByteArray)) := (blk_cell BK264.out 2).trans rfl; have hcz22_3 : w19.cell? ⟨gb264, 3, none⟩ = some (.slice none 0 0) := (blk_cell BK264.out 3).trans rfl; have hcz22_4 : w19.cell? ⟨gb264, 4, none⟩ = some (.slice none 0 0) := (blk_cell BK264.out 4).trans rfl; have hfz22_0 := blk_frozen BK264.out 0; have hfz22_1 := blk_frozen BK264.out 1; have hfz22_2 := blk_frozen BK264.out 2; have hfz22_3 := blk_frozen BK264.out 3; have hfz22_4 := blk_frozen BK264.out 4) | ((with_reducible refine gate_callee (f := 48) rfl ?_); refine goesL_ (some 28) rfl rfl Try.func48 (by kernel_rfl) rfl #[.agg #[.int .i64 ((rd_T25 t258 x21_1).f0), .string ((rd_T25 t258 x21_1).f1), .string ((rd_T25 t258 x21_1).f2), .slice A263_3 ((rd_T25 t258 x21_1).f3).length c263_3, .slice A263_4 ((rd_T25 t258 x21_1).f4).length c263_4], .bool a2] rfl (by (try simp only [List.map_toArray, List.map_cons, List.map_nil]); first | done | rfl | (simp only [List.length_drop, List.length_take]; rfl)) ?_; (with_reducible refine (spec_among29.calls ((rd_T25 t258 x21_1).f0) ((rd_T25 t258 x21_1).f1) ((rd_T25 t258 x21_1).f2) _ _ ((rd_T25 t258 x21_1).f3) _ _ ((rd_T25 t258 x21_1).f4) a2 true _ ?side1 ?side2 ?side3 ?side4 A16.out).mono ?_); (case side1 => repeat (first | exact ((Kd.V_reads' (by (with_reducible repeat (first | apply Kd.V_alloc | apply Kd.V_drewN | apply Kd.V_drew)); exact (Kd.V_mono (Kd.V_far (p := ⟨gb264, 4, none⟩) (Kd.V_far (p := ⟨gb264, 3, none⟩) (Kd.V_far (p := ⟨gb264, 2, none⟩) (Kd.V_far (p := ⟨gb264, 1, none⟩) (Kd.V_far (p := ⟨gb264, 0, none⟩) (Kd.V_mono HL263_3.out (fun k_ hk => (⟨hk, hk.2⟩ : _ ∧ k_ ≠ gb264))) (fun _ hk => hk.2) (.int .i64 ((rd_T25 t258 x21_1).f0))) (fun _ hk => hk.2) (.string ((rd_T25 t258 x21_1).f1))) (fun _ hk => hk.2) (.string ((rd_T25 t258 x21_1).f2))) (fun _ hk => hk.2) (.slice A263_3 ((rd_T25 t258 x21_1).f3).length c263_3)) (fun _ hk => hk.2) (.slice A263_4 ((rd_T25 t258 x21_1).f4).length c263_4)) (fun _ h_ => h_.1)))).2.2) | (with_reducible refine Kd.C_alloc ?_ _) | (with_reducible refine Kd.C_drewN ?_ _) | (with_reducible refine Kd.C_drew ?_))); (case side2 => exact HC263_3.out); (case side3 => repeat (first | exact ((Kd.V_reads' (by (with_reducible repeat (first | apply Kd.V_alloc | apply Kd.V_drewN | apply Kd.V_drew)); exact (Kd.V_mono (Kd.V_far (p := ⟨gb264, 4, none⟩) (Kd.V_far (p := ⟨gb264, 3, none⟩) (Kd.V_far (p := ⟨gb264, 2, none⟩) (Kd.V_far (p := ⟨gb264, 1, none⟩) (Kd.V_far (p := ⟨gb264, 0, none⟩) (Kd.V_mono HL263_4.out (fun k_ hk => (⟨hk, hk.2⟩ : _ ∧ k_ ≠ gb264))) (fun _ hk => hk.2) (.int .i64 ((rd_T25 t258 x21_1).f0))) (fun _ hk => hk.2) (.string ((rd_T25 t258 x21_1).f1))) (fun _ hk => hk.2) (.string ((rd_T25 t258 x21_1).f2))) (fun _ hk => hk.2) (.slice A263_3 ((rd_T25 t258 x21_1).f3).length c263_3)) (fun _ hk => hk.2) (.slice A263_4 ((rd_T25 t258 x21_1).f4).length c263_4)) (fun _ h_ => h_.1)))).2.2) | (with_reducible refine Kd.C_alloc ?_ _) | (with_reducible refine Kd.C_drewN ?_ _) | (with_reducible refine Kd.C_drew ?_))); (case side4 => exact HC263_4.out); rintro e w23 ⟨rfl, hb⟩; refine ⟨_, rfl, ?_⟩; have n0_ := Aside0.mk (Kd.V_below (by (with_reducible repeat (first | apply Kd.V_alloc | apply Kd.V_drewN | apply Kd.V_drew)); exact (Kd.V_mono (Kd.V_far (p := ⟨gb264, 4, none⟩) (Kd.V_far (p := ⟨gb264, 3, none⟩) (Kd.V_far (p := ⟨gb264, 2, none⟩) (Kd.V_far (p := ⟨gb264, 1, none⟩) (Kd.V_far (p := ⟨gb264, 0, none⟩) (Kd.V_mono HO_19.out (fun k_ hk => (⟨hk, hk.2⟩ : _ ∧ k_ ≠ gb264))) (fun _ hk => hk.2) (.int .i64 ((rd_T25 t258 x21_1).f0))) (fun _ hk => hk.2) (.string ((rd_T25 t258 x21_1).f1))) (fun _ hk => hk.2) (.string ((rd_T25 t258 x21_1).f2))) (fun _ hk => hk.2) (.slice A263_3 ((rd_T25 t258 x21_1).f3).length c263_3)) (fun _ hk => hk.2) (.slice A263_4 ((rd_T25 t258 x21_1).f4).length c263_4)) (fun _ h_ => h_.1))) hb); have n1_ := Aside0.mk (Kd.V_below (by (with_reducible repeat (first | apply Kd.V_alloc | apply Kd.V_drewN | apply Kd.V_drew)); exact (Kd.V_mono (Kd.V_far (p := ⟨gb264, 4, none⟩) (Kd.V_far (p := ⟨gb264, 3, none⟩) (Kd.V_far (p := ⟨gb264, 2, none⟩) (Kd.V_far (p := ⟨gb264, 1, none⟩) (Kd.V_far (p := ⟨gb264, 0, none⟩) (Kd.V_mono HO_263003.out (fun k_ hk => (⟨hk, hk.2⟩ : _ ∧ k_ ≠ gb264))) (fun _ hk => hk.2) (.int .i64 ((rd_T25 t258 x21_1).f0))) (fun _ hk => hk.2) (.string ((rd_T25 t258 x21_1).f1))) (fun _ hk => hk.2) (.string ((rd_T25 t258 x21_1).f2))) (fun _ hk => hk.2) (.slice A263_3 ((rd_T25 t258 x21_1).f3).length c263_3)) (fun _ hk => hk.2) (.slice A263_4 ((rd_T25 t258 x21_1).f4).length c263_4)) (fun _ h_ => h_.1))) hb); have n2_ := Aside0.mk (Kd.V_below (by (with_reducible repeat (first | apply Kd.V_alloc | apply Kd.V_drewN | apply Kd.V_drew)); exact (Kd.V_mono (Kd.V_far (p := ⟨gb264, 4, none⟩) (Kd.V_far (p := ⟨gb264, 3, none⟩) (Kd.V_far (p := ⟨gb264, 2, none⟩) (Kd.V_far (p := ⟨gb264, 1, none⟩) (Kd.V_far (p := ⟨gb264, 0, none⟩) (Kd.V_mono HO_263004.out (fun k_ hk => (⟨hk, hk.2⟩ : _ ∧ k_ ≠ gb264))) (fun _ hk => hk.2) (.int .i64 ((rd_T25 t258 x21_1).f0))) (fun _ hk => hk.2) (.string ((rd_T25 t258 x21_1).f1))) (fun _ hk => hk.2) (.string ((rd_T25 t258 x21_1).f2))) (fun _ hk => hk.2) (.slice A263_3 ((rd_T25 t258 x21_1).f3).length c263_3)) (fun _ hk => hk.2) (.slice A263_4 ((rd_T25 t258 x21_1).f4).length c263_4)) (fun _ h_ => h_.1))) hb); have n3_ := Aside0.mk (Kd.V_below (by (with_reducible repeat (first | apply Kd.V_alloc | apply Kd.V_drewN | apply Kd.V_drew)); exact (Kd.V_mono (Kd.V_far (p := ⟨gb264, 4, none⟩) (Kd.V_far (p := ⟨gb264, 3, none⟩) (Kd.V_far (p := ⟨gb264, 2, none⟩) (Kd.V_far (p := ⟨gb264, 1, none⟩) (Kd.V_far (p := ⟨gb264, 0, none⟩) (Kd.V_mono HL263_3.out (fun k_ hk => (⟨hk, hk.2⟩ : _ ∧ k_ ≠ gb264))) (fun _ hk => hk.2) (.int .i64 ((rd_T25 t258 x21_1).f0))) (fun _ hk => hk.2) (.string ((rd_T25 t258 x21_1).f1))) (fun _ hk => hk.2) (.string ((rd_T25 t258 x21_1).f2))) (fun _ hk => hk.2) (.slice A263_3 ((rd_T25 t258 x21_1).f3).length c263_3)) (fun _ hk => hk.2) (.slice A263_4 ((rd_T25 t258 x21_1).f4).length c263_4)) (fun _ h_ => h_.1))) hb); have n4_ := Aside0.mk (Kd.V_below (by (with_reducible repeat (first | apply Kd.V_alloc | apply Kd.V_drewN | apply Kd.V_drew)); exact (Kd.V_mono (Kd.V_far (p := ⟨gb264, 4, none⟩) (Kd.V_far (p := ⟨gb264, 3, none⟩) (Kd.V_far (p := ⟨gb264, 2, none⟩) (Kd.V_far (p := ⟨gb264, 1, none⟩) (Kd.V_far (p := ⟨gb264, 0, none⟩) (Kd.V_mono HL263_4.out (fun k_ hk => (⟨hk, hk.2⟩ : _ ∧ k_ ≠ gb264))) (fun _ hk => hk.2) (.int .i64 ((rd_T25 t258 x21_1).f0))) (fun _ hk => hk.2) (.string ((rd_T25 t258 x21_1).f1))) (fun _ hk => hk.2) (.string ((rd_T25 t258 x21_1).f2))) (fun _ hk => hk.2) (.slice A263_3 ((rd_T25 t258 x21_1).f3).length c263_3)) (fun _ hk => hk.2) (.slice A263_4 ((rd_T25 t258 x21_1).f4).length c263_4)) (fun _ h_ => h_.1))) hb); have n5_ := Aside0.mk (blk_below (g := gb251) (o := .cells #[.int .i64 a0_0, .string a0_1, .string a0_2, .slice A0_3 l0_3.length c0_3, .slice A0_4 l0_4.length c0_4] 25 (0, 0)) (by (with_reducible repeat (first | refine blk_drewN ?_ _ | refine blk_drew ?_ | refine blk_alloc ?_ _)); refine blk_far ?_ NB251_264.out _; (with_reducible repeat (first | refine blk_drewN ?_ _ | refine blk_drew ?_ | refine blk_alloc ?_ _)); refine blk_far ?_ NB251_264.out _; (with_reducible repeat (first | refine blk_drewN ?_ _ | refine blk_drew ?_ | refine blk_alloc ?_ _)); refine blk_far ?_ NB251_264.out _; (with_reducible repeat (first | refine blk_drewN ?_ _ | refine blk_drew ?_ | refine blk_alloc ?_ _)); refine blk_far ?_ NB251_264.out _; (with_reducible repeat (first | refine blk_drewN ?_ _ | refine blk_drew ?_ | refine blk_alloc ?_ _)); refine blk_far ?_ NB251_264.out _; (with_reducible repeat (first | refine blk_drewN ?_ _ | refine blk_drew ?_ | refine blk_alloc ?_ _)); exact BK251.out) hb); have n6_ := Aside0.mk (blk_below (g := gb262) (o := .cells #[.int .i64 t252, .string t253, .string t254, .slice Ao11 t255.length co11, .slice (some ad263) t258.length co12] 25 (0, 0)) (by (with_reducible repeat (first | refine blk_drewN ?_ _ | refine blk_drew ?_ | refine blk_alloc ?_ _)); refine blk_far ?_ NB262_264.out _; (with_reducible repeat (first | refine blk_drewN ?_ _ | refine blk_drew ?_ | refine blk_alloc ?_ _)); refine blk_far ?_ NB262_264.out _; (with_reducible repeat (first | refine blk_drewN ?_ _ | refine blk_drew ?_ | refine blk_alloc ?_ _)); refine blk_far ?_ NB262_264.out _; (with_reducible repeat (first | refine blk_drewN ?_ _ | refine blk_drew ?_ | refine blk_alloc ?_ _)); refine blk_far ?_ NB262_264.out _; (with_reducible repeat (first | refine blk_drewN ?_ _ | refine blk_drew ?_ | refine blk_alloc ?_ _)); refine blk_far ?_ NB262_264.out _; (with_reducible repeat (first | refine blk_drewN ?_ _ | refine blk_drew ?_ | refine blk_alloc ?_ _)); exact BK262.out) hb); have n7_ := Aside0.mk (Kd.C_below ((Kd.V_reads' (by (with_reducible repeat (first | apply Kd.V_alloc | apply Kd.V_drewN | apply Kd.V_drew)); exact (Kd.V_mono (Kd.V_far (p := ⟨gb264, 4, none⟩) (Kd.V_far (p := ⟨gb264, 3, none⟩) (Kd.V_far (p := ⟨gb264, 2, none⟩) (Kd.V_far (p := ⟨gb264, 1, none⟩) (Kd.V_far (p := ⟨gb264, 0, none⟩) (Kd.V_mono HL263_3.out (fun k_ hk => (⟨hk, hk.2⟩ : _ ∧ k_ ≠ gb264))) (fun _ hk => hk.2) (.int .i64 ((rd_T25 t258 x21_1).f0))) (fun _ hk => hk.2) (.string ((rd_T25 t258 x21_1).f1))) (fun _ hk => hk.2) (.string ((rd_T25 t258 x21_1).f2))) (fun _ hk => hk.2) (.slice A263_3 ((rd_T25 t258 x21_1).f3).length c263_3)) (fun _ hk => hk.2) (.slice A263_4 ((rd_T25 t258 x21_1).f4).length c263_4)) (fun _ h_ => h_.1)))).2.2) hb); have n8_ := Aside0.mk (Kd.C_below ((Kd.V_reads' (by (with_reducible repeat (first | apply Kd.V_alloc | apply Kd.V_drewN | apply Kd.V_drew)); exact (Kd.V_mono (Kd.V_far (p := ⟨gb264, 4, none⟩) (Kd.V_far (p := ⟨gb264, 3, none⟩) (Kd.V_far (p := ⟨gb264, 2, none⟩) (Kd.V_far (p := ⟨gb264, 1, none⟩) (Kd.V_far (p := ⟨gb264, 0, none⟩) (Kd.V_mono HL263_4.out (fun k_ hk => (⟨hk, hk.2⟩ : _ ∧ k_ ≠ gb264))) (fun _ hk => hk.2) (.int .i64 ((rd_T25 t258 x21_1).f0))) (fun _ hk => hk.2) (.string ((rd_T25 t258 x21_1).f1))) (fun _ hk => hk.2) (.string ((rd_T25 t258 x21_1).f2))) (fun _ hk => hk.2) (.slice A263_3 ((rd_T25 t258 x21_1).f3).length c263_3)) (fun _ hk => hk.2) (.slice A263_4 ((rd_T25 t258 x21_1).f4).length c263_4)) (fun _ h_ => h_.1)))).2.2) hb); have n9_ := Aside0.mk (blk_below (g := gb264) (o := .cells #[.int .i64 ((rd_T25 t258 x21_1).f0), .string ((rd_T25 t258 x21_1).f1), .string ((rd_T25 t258 x21_1).f2), .slice A263_3 ((rd_T25 t258 x21_1).f3).length c263_3, .slice A263_4 ((rd_T25 t258 x21_1).f4).length c263_4] 25 (0, 0)) (by (with_reducible repeat (first | refine blk_drewN ?_ _ | refine blk_drew ?_ | refine blk_alloc ?_ _)); refine blk_put (cs := #[.int .i64 ((rd_T25 t258 x21_1).f0), .string ((rd_T25 t258 x21_1).f1), .string ((rd_T25 t258 x21_1).f2), .slice A263_3 ((rd_T25 t258 x21_1).f3).length c263_3, .slice none 0 0]) ?_ 4 _ rfl; (with_reducible repeat (first | refine blk_drewN ?_ _ | refine blk_drew ?_ | refine blk_alloc ?_ _)); refine blk_put (cs := #[.int .i64 ((rd_T25 t258 x21_1).f0), .string ((rd_T25 t258 x21_1).f1), .string ((rd_T25 t258 x21_1).f2), .slice none 0 0, .slice none 0 0]) ?_ 3 _ rfl; (with_reducible repeat (first | refine blk_drewN ?_ _ | refine blk_drew ?_ | refine blk_alloc ?_ _)); refine blk_put (cs := #[.int .i64 ((rd_T25 t258 x21_1).f0), .string ((rd_T25 t258 x21_1).f1), .string (⟨#[]⟩ : ByteArray), .slice none 0 0, .slice none 0 0]) ?_ 2 _ rfl; (with_reducible repeat (first | refine blk_drewN ?_ _ | refine blk_drew ?_ | refine blk_alloc ?_ _)); refine blk_put (cs := #[.int .i64 ((rd_T25 t258 x21_1).f0), .string (⟨#[]⟩ : ByteArray), .string (⟨#[]⟩ : ByteArray), .slice none 0 0, .slice none 0 0]) ?_ 1 _ rfl; (with_reducible repeat (first | refine blk_drewN ?_ _ | refine blk_drew ?_ | refine blk_alloc ?_ _)); refine blk_put (cs := #[.int .i64 0, .string (⟨#[]⟩ : ByteArray), .string (⟨#[]⟩ : ByteArray), .slice none 0 0, .slice none 0 0]) ?_ 0 _ rfl; (with_reducible repeat (first | refine blk_drewN ?_ _ | refine blk_drew ?_ | refine blk_alloc ?_ _)); exact BK264.out) hb); have n10_ := Aside0.mk (below_step (by repeat (first | (with_reducible first | exact HB.out | apply below_alloc | apply pw_below_drewN | apply below_drew1 | refine below_set ?_ GE251.out | refine below_set ?_ GE262.out | refine below_set ?_ GE264.out) | exact HB.out)) hb); clear HO_19; clear HO_263003; clear HO_263004; clear HL263_3; clear HL263_4; clear BK251; clear BK262; clear HR263_3; clear HR263_4; clear BK264; clear HB; have HO_19 := n0_; have HO_263003 := n1_; have HO_263004 := n2_; have HL263_3 := n3_; have HL263_4 := n4_; have BK251 := n5_; have BK262 := n6_; have HR263_3 := n7_; have HR263_4 := n8_; have BK264 := n9_; have HB := n10_; clear n0_ n1_ n2_ n3_ n4_ n5_ n6_ n7_ n8_ n9_ n10_; (try clear hb); (try clear hb2); (try clear hk); (try clear hi)) | ((with_reducible refine gate_callee (f := 40) rfl ?_); refine goesL_ (some 31) rfl rfl Try.func40 (by kernel_rfl) rfl #[.slice A1 l1.length c1, .int .i64 x21_1] rfl (by (try simp only [List.map_toArray, List.map_cons, List.map_nil]); first | done | rfl | (simp only [List.length_drop, List.length_take]; rfl)) ?_; (with_reducible refine (spec_Under29.calls _ _ l1 x21_1 t266 _ ?side1 ?side2 A18.out).mono ?_); (case side1 => repeat (first | exact (Kd.C_below HR1.out HB.out) | (with_reducible refine Kd.C_alloc ?_ _) | (with_reducible refine Kd.C_drewN ?_ _) | (with_reducible refine Kd.C_drew ?_))); (case side2 => exact HC1.out); rintro e w24 ⟨v267, rfl, ho0, hb⟩; refine ⟨_, rfl, ?_⟩; have n0_ := Aside0.mk (Kd.V_elder' (by (with_reducible repeat (first | apply Kd.V_alloc | apply Kd.V_drewN | apply Kd.V_drew)); exact HO_19.out) (Kd.R_base ho0) hb); have n1_ := Aside0.mk (Kd.V_elder' (by (with_reducible repeat (first | apply Kd.V_alloc | apply Kd.V_drewN | apply Kd.V_drew)); exact HO_263003.out) (Kd.R_base ho0) hb); have n2_ := Aside0.mk (Kd.V_elder' (by (with_reducible repeat (first | apply Kd.V_alloc | apply Kd.V_drewN | apply Kd.V_drew)); exact HO_263004.out) (Kd.R_base ho0) hb); have n3_ := Aside0.mk (Kd.V_elder' (by (with_reducible repeat (first | apply Kd.V_alloc | apply Kd.V_drewN | apply Kd.V_drew)); exact HL263_3.out) (Kd.R_base ho0) hb); have n4_ := Aside0.mk (Kd.V_elder' (by (with_reducible repeat (first | apply Kd.V_alloc | apply Kd.V_drewN | apply Kd.V_drew)); exact HL263_4.out) (Kd.R_base ho0) hb); have n5_ := Aside0.mk (Kd.R_lower ho0 (below_size (by repeat (first | (with_reducible first | exact HB.out | apply below_alloc | apply pw_below_drewN | apply below_drew1 | refine below_set ?_ GE251.out | refine below_set ?_ GE262.out | refine below_set ?_ GE264.out) | exact HB.out)))); have n6_ := Aside0.mk (blk_below (g := gb251) (o := .cells #[.int .i64 a0_0, .string a0_1, .string a0_2, .slice A0_3 l0_3.length c0_3, .slice A0_4 l0_4.length c0_4] 25 (0, 0)) (by (with_reducible repeat (first | refine blk_drewN ?_ _ | refine blk_drew ?_ | refine blk_alloc ?_ _)); exact BK251.out) hb); have n7_ := Aside0.mk (blk_below (g := gb262) (o := .cells #[.int .i64 t252, .string t253, .string t254, .slice Ao11 t255.length co11, .slice (some ad263) t258.length co12] 25 (0, 0)) (by (with_reducible repeat (first | refine blk_drewN ?_ _ | refine blk_drew ?_ | refine blk_alloc ?_ _)); exact BK262.out) hb); have n8_ := Aside0.mk (Kd.C_below (by repeat (first | (with_reducible exact HR263_3.out) | (with_reducible refine Kd.C_alloc ?_ _) | (with_reducible refine Kd.C_drewN ?_ _) | (with_reducible refine Kd.C_drew ?_) | exact HR263_3.out)) hb); have n9_ := Aside0.mk (Kd.C_below (by repeat (first | (with_reducible exact HR263_4.out) | (with_reducible refine Kd.C_alloc ?_ _) | (with_reducible refine Kd.C_drewN ?_ _) | (with_reducible refine Kd.C_drew ?_) | exact HR263_4.out)) hb); have n10_ := Aside0.mk (blk_below (g := gb264) (o := .cells #[.int .i64 ((rd_T25 t258 x21_1).f0), .string ((rd_T25 t258 x21_1).f1), .string ((rd_T25 t258 x21_1).f2), .slice A263_3 ((rd_T25 t258 x21_1).f3).length c263_3, .slice A263_4 ((rd_T25 t258 x21_1).f4).length c263_4] 25 (0, 0)) (by (with_reducible repeat (first | refine blk_drewN ?_ _ | refine blk_drew ?_ | refine blk_alloc ?_ _)); exact BK264.out) hb); have n11_ := Aside0.mk (below_step (by repeat (first | (with_reducible first | exact HB.out | apply below_alloc | apply pw_below_drewN | apply below_drew1 | refine below_set ?_ GE251.out | refine below_set ?_ GE262.out | refine below_set ?_ GE264.out) | exact HB.out)) hb); clear HO_19; clear HO_263003; clear HO_263004; clear HL263_3; clear HL263_4; clear BK251; clear BK262; clear HR263_3; clear HR263_4; clear BK264; clear HB; have HO_19 := n0_; have HO_263003 := n1_; have HO_263004 := n2_; have HL263_3 := n3_; have HL263_4 := n4_; have HO268 := n5_; have BK251 := n6_; have BK262 := n7_; have HR263_3 := n8_; have HR263_4 := n9_; have BK264 := n10_; have HB := n11_; clear n0_ n1_ n2_ n3_ n4_ n5_ n6_ n7_ n8_ n9_ n10_ n11_; (try clear hb); (try clear hb2); (try clear hk); (try clear hi); (try clear ho0)))
              go_ret2
              exact ⟨_, by first | rfl | (simp [errW_none, errW_some] <;> rfl) | (simp [*, errW_none, errW_some] <;> rfl), by (with_reducible repeat (first | apply Kd.R_alloc | apply Kd.R_drewN | apply Kd.R_drew)); exact HO268.out, by repeat (first | (with_reducible first | exact HB.out | apply below_alloc | apply pw_below_drewN | apply below_drew1 | refine below_set ?_ GE251.out | refine below_set ?_ GE262.out | refine below_set ?_ GE264.out) | exact HB.out)⟩
            · replace c17 := Bool.eq_false_iff.mpr c17
              subst c17
              have H1 : (spec_First29.l0 k1 l1 a2 t258 (t258.length : Int) (wrap64 (x21_1 + 1))) = some (r1, r2) := by rw [if_neg (show ¬ (false = true) by decide)] at H; exact H
              clear H
              have H := H1
              clear H1
              have H' := Aside0.mk H
              clear H
              have p263 : 0 ≤ (x21_1 : Int) := of_decide_eq_true (by first | (with_reducible assumption) | assumption)
              have q263 : x21_1 < (t258.length : Int) := of_decide_eq_true (by first | (with_reducible assumption) | assumption)
              obtain ⟨ad263, A263_3, c263_3, A263_4, c263_4, e263, hx263_0, hx263_1, hx263_2, hx263_3, hx263_4, hl263_3, hi263_3, hl263_4, hi263_4⟩ := at_T25 (Kd.V_reads' HO_19.out).2.2 x21_1 p263 q263
              cases e263
              obtain ⟨ce263, hce263, hMe263, hcc263⟩ := Kd.V_get HO_19.out z25 x21_1 p263 (by first | exact q263 | exact of_decide_eq_true (by first | (with_reducible assumption) | assumption) | (have e_ := (Kd.V_reads' HO_19.out).1; omega))
              obtain ⟨ua263_3, uc263_3, ua263_4, uc263_4, rfl, ul263_3, ge263_3, ul263_4, ge263_4⟩ := k25_openF hMe263
              have hv263_3 := hcc263 3 _ rfl
              rw [add_field _ _ 3 (by omega)] at hv263_3
              replace hv263_3 := Option.some.inj (hv263_3.symm.trans hx263_3)
              injection hv263_3 with hva_ hvn_ hvc_
              rw [hva_] at ge263_3
              rw [hvc_] at ul263_3
              have HL263_3 := Aside0.mk (show Kd.V k78 78 _ w.heap.size _ _ ((rd_T25 t258 x21_1).f3) from Kd.V_mk ul263_3 ge263_3)
              clear hva_ hvn_ hvc_ ge263_3 ul263_3
              have hv263_4 := hcc263 4 _ rfl
              rw [add_field _ _ 4 (by omega)] at hv263_4
              replace hv263_4 := Option.some.inj (hv263_4.symm.trans hx263_4)
              injection hv263_4 with hva_ hvn_ hvc_
              rw [hva_] at ge263_4
              rw [hvc_] at ul263_4
              have HL263_4 := Aside0.mk (show Kd.V k25 25 _ w.heap.size _ _ ((rd_T25 t258 x21_1).f4) from Kd.V_mk ul263_4 ge263_4)
              clear hva_ hvn_ hvc_ ge263_4 ul263_4
              clear hcc263 hce263
              have HR263_3 := Aside0.mk hi263_3
              have HC263_3 := Aside0.mk hl263_3
              clear hi263_3 hl263_3
              have HR263_4 := Aside0.mk hi263_4
              have HC263_4 := Aside0.mk hl263_4
              clear hi263_4 hl263_4
              replace p263 := eq_true p263
              replace q263 := eq_true q263
              go_wp2_with (first | ((with_reducible refine gate_dst (N := 11) rfl ?_); refine box_event ?hg (N := 11) ?hd (cs := #[.int .i64 0, .string (⟨#[]⟩ : ByteArray), .string (⟨#[]⟩ : ByteArray), .slice none 0 0, .slice none 0 0]) (t := 25) ?hr ?_; (case hd => rfl); (case hg => rfl); (case hr => first | (go_simp; done) | (go_simp; rfl)); intro gb264 hg w25 hbox hb; have n0_ := Aside0.mk (Kd.V_below (Kd.V_elderB (by (with_reducible repeat (first | apply Kd.V_alloc | apply Kd.V_drewN | apply Kd.V_drew)); exact HO_19.out) gb264 (Nat.le_of_eq hg.symm)) hb); have n1_ := Aside0.mk (Kd.V_below (Kd.V_elderB (by (with_reducible repeat (first | apply Kd.V_alloc | apply Kd.V_drewN | apply Kd.V_drew)); exact HO_263003.out) gb264 (Nat.le_of_eq hg.symm)) hb); have n2_ := Aside0.mk (Kd.V_below (Kd.V_elderB (by (with_reducible repeat (first | apply Kd.V_alloc | apply Kd.V_drewN | apply Kd.V_drew)); exact HO_263004.out) gb264 (Nat.le_of_eq hg.symm)) hb); have n3_ := Aside0.mk (Kd.V_below (Kd.V_elderB (by (with_reducible repeat (first | apply Kd.V_alloc | apply Kd.V_drewN | apply Kd.V_drew)); exact HL263_3.out) gb264 (Nat.le_of_eq hg.symm)) hb); have n4_ := Aside0.mk (Kd.V_below (Kd.V_elderB (by (with_reducible repeat (first | apply Kd.V_alloc | apply Kd.V_drewN | apply Kd.V_drew)); exact HL263_4.out) gb264 (Nat.le_of_eq hg.symm)) hb); have n5_ := Aside0.mk (blk_below (g := gb251) (o := .cells #[.int .i64 a0_0, .string a0_1, .string a0_2, .slice A0_3 l0_3.length c0_3, .slice A0_4 l0_4.length c0_4] 25 (0, 0)) (by (with_reducible repeat (first | refine blk_drewN ?_ _ | refine blk_drew ?_ | refine blk_alloc ?_ _)); exact BK251.out) hb); have n6_ := Aside0.mk (blk_below (g := gb262) (o := .cells #[.int .i64 t252, .string t253, .string t254, .slice Ao11 t255.length co11, .slice (some ad263) t258.length co12] 25 (0, 0)) (by (with_reducible repeat (first | refine blk_drewN ?_ _ | refine blk_drew ?_ | refine blk_alloc ?_ _)); exact BK262.out) hb); have n7_ := Aside0.mk (Kd.C_below (by repeat (first | (with_reducible exact HR263_3.out) | (with_reducible refine Kd.C_alloc ?_ _) | (with_reducible refine Kd.C_drewN ?_ _) | (with_reducible refine Kd.C_drew ?_) | exact HR263_3.out)) hb); have n8_ := Aside0.mk (Kd.C_below (by repeat (first | (with_reducible exact HR263_4.out) | (with_reducible refine Kd.C_alloc ?_ _) | (with_reducible refine Kd.C_drewN ?_ _) | (with_reducible refine Kd.C_drew ?_) | exact HR263_4.out)) hb); have n9_ := Aside0.mk (below_step (by repeat (first | (with_reducible first | exact HB.out | apply below_alloc | apply pw_below_drewN | apply below_drew1 | refine below_set ?_ GE251.out | refine below_set ?_ GE262.out) | exact HB.out)) hb); have n10_ := Aside0.mk (hbox); have n11_ := Aside0.mk ((by rw [hg]; exact (below_size (by repeat (first | (with_reducible first | exact HB.out | apply below_alloc | apply pw_below_drewN | apply below_drew1 | refine below_set ?_ GE251.out | refine below_set ?_ GE262.out) | exact HB.out))) : w.heap.size ≤ gb264)); have n12_ := Aside0.mk ((by rw [hg]; exact (below_size (by repeat (first | (with_reducible first | exact HB.out | apply below_alloc | apply pw_below_drewN | apply below_drew1 | refine below_set ?_ GE251.out | refine below_set ?_ GE262.out) | exact HB.out))) : w.heap.size ≤ gb264)); have n13_ := Aside0.mk ((by rw [hg]; exact Nat.ne_of_lt (blk_lt (g := gb251) (o := .cells #[.int .i64 a0_0, .string a0_1, .string a0_2, .slice A0_3 l0_3.length c0_3, .slice A0_4 l0_4.length c0_4] 25 (0, 0)) (by (with_reducible repeat (first | refine blk_drewN ?_ _ | refine blk_drew ?_ | refine blk_alloc ?_ _)); exact BK251.out)) : gb251 ≠ gb264)); have n14_ := Aside0.mk ((by rw [hg]; exact Nat.ne_of_gt (blk_lt (g := gb251) (o := .cells #[.int .i64 a0_0, .string a0_1, .string a0_2, .slice A0_3 l0_3.length c0_3, .slice A0_4 l0_4.length c0_4] 25 (0, 0)) (by (with_reducible repeat (first | refine blk_drewN ?_ _ | refine blk_drew ?_ | refine blk_alloc ?_ _)); exact BK251.out)) : gb264 ≠ gb251)); have n15_ := Aside0.mk ((by rw [hg]; exact Nat.ne_of_lt (blk_lt (g := gb262) (o := .cells #[.int .i64 t252, .string t253, .string t254, .slice Ao11 t255.length co11, .slice (some ad263) t258.length co12] 25 (0, 0)) (by (with_reducible repeat (first | refine blk_drewN ?_ _ | refine blk_drew ?_ | refine blk_alloc ?_ _)); exact BK262.out)) : gb262 ≠ gb264)); have n16_ := Aside0.mk ((by rw [hg]; exact Nat.ne_of_gt (blk_lt (g := gb262) (o := .cells #[.int .i64 t252, .string t253, .string t254, .slice Ao11 t255.length co11, .slice (some ad263) t258.length co12] 25 (0, 0)) (by (with_reducible repeat (first | refine blk_drewN ?_ _ | refine blk_drew ?_ | refine blk_alloc ?_ _)); exact BK262.out)) : gb264 ≠ gb262)); clear HO_19; clear HO_263003; clear HO_263004; clear HL263_3; clear HL263_4; clear BK251; clear BK262; clear HR263_3; clear HR263_4; clear HB; have HO_19 := n0_; have HO_263003 := n1_; have HO_263004 := n2_; have HL263_3 := n3_; have HL263_4 := n4_; have BK251 := n5_; have BK262 := n6_; have HR263_3 := n7_; have HR263_4 := n8_; have HB := n9_; have BK264 := n10_; have GW264 := n11_; have GE264 := n12_; have NB251_264 := n13_; have NB264_251 := n14_; have NB262_264 := n15_; have NB264_262 := n16_; clear n0_ n1_ n2_ n3_ n4_ n5_ n6_ n7_ n8_ n9_ n10_ n11_ n12_ n13_ n14_ n15_ n16_; clear hb hbox hg; have hnb26 := NB264_251.out; have hnc26 := NB251_264.out; have hnb27 := NB264_262.out; have hnc27 := NB262_264.out; have hcz28_0 : w25.cell? ⟨gb264, 0, none⟩ = some (.int .i64 0) := (blk_cell BK264.out 0).trans rfl; have hcz28_1 : w25.cell? ⟨gb264, 1, none⟩ = some (.string (⟨#[]⟩ : ByteArray)) := (blk_cell BK264.out 1).trans rfl; have hcz28_2 : w25.cell? ⟨gb264, 2, none⟩ = some (.string (⟨#[]⟩ : ByteArray)) := (blk_cell BK264.out 2).trans rfl; have hcz28_3 : w25.cell? ⟨gb264, 3, none⟩ = some (.slice none 0 0) := (blk_cell BK264.out 3).trans rfl; have hcz28_4 : w25.cell? ⟨gb264, 4, none⟩ = some (.slice none 0 0) := (blk_cell BK264.out 4).trans rfl; have hfz28_0 := blk_frozen BK264.out 0; have hfz28_1 := blk_frozen BK264.out 1; have hfz28_2 := blk_frozen BK264.out 2; have hfz28_3 := blk_frozen BK264.out 3; have hfz28_4 := blk_frozen BK264.out 4) | ((with_reducible refine gate_callee (f := 48) rfl ?_); refine goesL_ (some 28) rfl rfl Try.func48 (by kernel_rfl) rfl #[.agg #[.int .i64 ((rd_T25 t258 x21_1).f0), .string ((rd_T25 t258 x21_1).f1), .string ((rd_T25 t258 x21_1).f2), .slice A263_3 ((rd_T25 t258 x21_1).f3).length c263_3, .slice A263_4 ((rd_T25 t258 x21_1).f4).length c263_4], .bool a2] rfl (by (try simp only [List.map_toArray, List.map_cons, List.map_nil]); first | done | rfl | (simp only [List.length_drop, List.length_take]; rfl)) ?_; (with_reducible refine (spec_among29.calls ((rd_T25 t258 x21_1).f0) ((rd_T25 t258 x21_1).f1) ((rd_T25 t258 x21_1).f2) _ _ ((rd_T25 t258 x21_1).f3) _ _ ((rd_T25 t258 x21_1).f4) a2 false _ ?side1 ?side2 ?side3 ?side4 A16.out).mono ?_); (case side1 => repeat (first | exact ((Kd.V_reads' (by (with_reducible repeat (first | apply Kd.V_alloc | apply Kd.V_drewN | apply Kd.V_drew)); exact (Kd.V_mono (Kd.V_far (p := ⟨gb264, 4, none⟩) (Kd.V_far (p := ⟨gb264, 3, none⟩) (Kd.V_far (p := ⟨gb264, 2, none⟩) (Kd.V_far (p := ⟨gb264, 1, none⟩) (Kd.V_far (p := ⟨gb264, 0, none⟩) (Kd.V_mono HL263_3.out (fun k_ hk => (⟨hk, hk.2⟩ : _ ∧ k_ ≠ gb264))) (fun _ hk => hk.2) (.int .i64 ((rd_T25 t258 x21_1).f0))) (fun _ hk => hk.2) (.string ((rd_T25 t258 x21_1).f1))) (fun _ hk => hk.2) (.string ((rd_T25 t258 x21_1).f2))) (fun _ hk => hk.2) (.slice A263_3 ((rd_T25 t258 x21_1).f3).length c263_3)) (fun _ hk => hk.2) (.slice A263_4 ((rd_T25 t258 x21_1).f4).length c263_4)) (fun _ h_ => h_.1)))).2.2) | (with_reducible refine Kd.C_alloc ?_ _) | (with_reducible refine Kd.C_drewN ?_ _) | (with_reducible refine Kd.C_drew ?_))); (case side2 => exact HC263_3.out); (case side3 => repeat (first | exact ((Kd.V_reads' (by (with_reducible repeat (first | apply Kd.V_alloc | apply Kd.V_drewN | apply Kd.V_drew)); exact (Kd.V_mono (Kd.V_far (p := ⟨gb264, 4, none⟩) (Kd.V_far (p := ⟨gb264, 3, none⟩) (Kd.V_far (p := ⟨gb264, 2, none⟩) (Kd.V_far (p := ⟨gb264, 1, none⟩) (Kd.V_far (p := ⟨gb264, 0, none⟩) (Kd.V_mono HL263_4.out (fun k_ hk => (⟨hk, hk.2⟩ : _ ∧ k_ ≠ gb264))) (fun _ hk => hk.2) (.int .i64 ((rd_T25 t258 x21_1).f0))) (fun _ hk => hk.2) (.string ((rd_T25 t258 x21_1).f1))) (fun _ hk => hk.2) (.string ((rd_T25 t258 x21_1).f2))) (fun _ hk => hk.2) (.slice A263_3 ((rd_T25 t258 x21_1).f3).length c263_3)) (fun _ hk => hk.2) (.slice A263_4 ((rd_T25 t258 x21_1).f4).length c263_4)) (fun _ h_ => h_.1)))).2.2) | (with_reducible refine Kd.C_alloc ?_ _) | (with_reducible refine Kd.C_drewN ?_ _) | (with_reducible refine Kd.C_drew ?_))); (case side4 => exact HC263_4.out); rintro e w29 ⟨rfl, hb⟩; refine ⟨_, rfl, ?_⟩; have n0_ := Aside0.mk (Kd.V_below (by (with_reducible repeat (first | apply Kd.V_alloc | apply Kd.V_drewN | apply Kd.V_drew)); exact (Kd.V_mono (Kd.V_far (p := ⟨gb264, 4, none⟩) (Kd.V_far (p := ⟨gb264, 3, none⟩) (Kd.V_far (p := ⟨gb264, 2, none⟩) (Kd.V_far (p := ⟨gb264, 1, none⟩) (Kd.V_far (p := ⟨gb264, 0, none⟩) (Kd.V_mono HO_19.out (fun k_ hk => (⟨hk, hk.2⟩ : _ ∧ k_ ≠ gb264))) (fun _ hk => hk.2) (.int .i64 ((rd_T25 t258 x21_1).f0))) (fun _ hk => hk.2) (.string ((rd_T25 t258 x21_1).f1))) (fun _ hk => hk.2) (.string ((rd_T25 t258 x21_1).f2))) (fun _ hk => hk.2) (.slice A263_3 ((rd_T25 t258 x21_1).f3).length c263_3)) (fun _ hk => hk.2) (.slice A263_4 ((rd_T25 t258 x21_1).f4).length c263_4)) (fun _ h_ => h_.1))) hb); have n1_ := Aside0.mk (Kd.V_below (by (with_reducible repeat (first | apply Kd.V_alloc | apply Kd.V_drewN | apply Kd.V_drew)); exact (Kd.V_mono (Kd.V_far (p := ⟨gb264, 4, none⟩) (Kd.V_far (p := ⟨gb264, 3, none⟩) (Kd.V_far (p := ⟨gb264, 2, none⟩) (Kd.V_far (p := ⟨gb264, 1, none⟩) (Kd.V_far (p := ⟨gb264, 0, none⟩) (Kd.V_mono HO_263003.out (fun k_ hk => (⟨hk, hk.2⟩ : _ ∧ k_ ≠ gb264))) (fun _ hk => hk.2) (.int .i64 ((rd_T25 t258 x21_1).f0))) (fun _ hk => hk.2) (.string ((rd_T25 t258 x21_1).f1))) (fun _ hk => hk.2) (.string ((rd_T25 t258 x21_1).f2))) (fun _ hk => hk.2) (.slice A263_3 ((rd_T25 t258 x21_1).f3).length c263_3)) (fun _ hk => hk.2) (.slice A263_4 ((rd_T25 t258 x21_1).f4).length c263_4)) (fun _ h_ => h_.1))) hb); have n2_ := Aside0.mk (Kd.V_below (by (with_reducible repeat (first | apply Kd.V_alloc | apply Kd.V_drewN | apply Kd.V_drew)); exact (Kd.V_mono (Kd.V_far (p := ⟨gb264, 4, none⟩) (Kd.V_far (p := ⟨gb264, 3, none⟩) (Kd.V_far (p := ⟨gb264, 2, none⟩) (Kd.V_far (p := ⟨gb264, 1, none⟩) (Kd.V_far (p := ⟨gb264, 0, none⟩) (Kd.V_mono HO_263004.out (fun k_ hk => (⟨hk, hk.2⟩ : _ ∧ k_ ≠ gb264))) (fun _ hk => hk.2) (.int .i64 ((rd_T25 t258 x21_1).f0))) (fun _ hk => hk.2) (.string ((rd_T25 t258 x21_1).f1))) (fun _ hk => hk.2) (.string ((rd_T25 t258 x21_1).f2))) (fun _ hk => hk.2) (.slice A263_3 ((rd_T25 t258 x21_1).f3).length c263_3)) (fun _ hk => hk.2) (.slice A263_4 ((rd_T25 t258 x21_1).f4).length c263_4)) (fun _ h_ => h_.1))) hb); have n3_ := Aside0.mk (Kd.V_below (by (with_reducible repeat (first | apply Kd.V_alloc | apply Kd.V_drewN | apply Kd.V_drew)); exact (Kd.V_mono (Kd.V_far (p := ⟨gb264, 4, none⟩) (Kd.V_far (p := ⟨gb264, 3, none⟩) (Kd.V_far (p := ⟨gb264, 2, none⟩) (Kd.V_far (p := ⟨gb264, 1, none⟩) (Kd.V_far (p := ⟨gb264, 0, none⟩) (Kd.V_mono HL263_3.out (fun k_ hk => (⟨hk, hk.2⟩ : _ ∧ k_ ≠ gb264))) (fun _ hk => hk.2) (.int .i64 ((rd_T25 t258 x21_1).f0))) (fun _ hk => hk.2) (.string ((rd_T25 t258 x21_1).f1))) (fun _ hk => hk.2) (.string ((rd_T25 t258 x21_1).f2))) (fun _ hk => hk.2) (.slice A263_3 ((rd_T25 t258 x21_1).f3).length c263_3)) (fun _ hk => hk.2) (.slice A263_4 ((rd_T25 t258 x21_1).f4).length c263_4)) (fun _ h_ => h_.1))) hb); have n4_ := Aside0.mk (Kd.V_below (by (with_reducible repeat (first | apply Kd.V_alloc | apply Kd.V_drewN | apply Kd.V_drew)); exact (Kd.V_mono (Kd.V_far (p := ⟨gb264, 4, none⟩) (Kd.V_far (p := ⟨gb264, 3, none⟩) (Kd.V_far (p := ⟨gb264, 2, none⟩) (Kd.V_far (p := ⟨gb264, 1, none⟩) (Kd.V_far (p := ⟨gb264, 0, none⟩) (Kd.V_mono HL263_4.out (fun k_ hk => (⟨hk, hk.2⟩ : _ ∧ k_ ≠ gb264))) (fun _ hk => hk.2) (.int .i64 ((rd_T25 t258 x21_1).f0))) (fun _ hk => hk.2) (.string ((rd_T25 t258 x21_1).f1))) (fun _ hk => hk.2) (.string ((rd_T25 t258 x21_1).f2))) (fun _ hk => hk.2) (.slice A263_3 ((rd_T25 t258 x21_1).f3).length c263_3)) (fun _ hk => hk.2) (.slice A263_4 ((rd_T25 t258 x21_1).f4).length c263_4)) (fun _ h_ => h_.1))) hb); have n5_ := Aside0.mk (blk_below (g := gb251) (o := .cells #[.int .i64 a0_0, .string a0_1, .string a0_2, .slice A0_3 l0_3.length c0_3, .slice A0_4 l0_4.length c0_4] 25 (0, 0)) (by (with_reducible repeat (first | refine blk_drewN ?_ _ | refine blk_drew ?_ | refine blk_alloc ?_ _)); refine blk_far ?_ NB251_264.out _; (with_reducible repeat (first | refine blk_drewN ?_ _ | refine blk_drew ?_ | refine blk_alloc ?_ _)); refine blk_far ?_ NB251_264.out _; (with_reducible repeat (first | refine blk_drewN ?_ _ | refine blk_drew ?_ | refine blk_alloc ?_ _)); refine blk_far ?_ NB251_264.out _; (with_reducible repeat (first | refine blk_drewN ?_ _ | refine blk_drew ?_ | refine blk_alloc ?_ _)); refine blk_far ?_ NB251_264.out _; (with_reducible repeat (first | refine blk_drewN ?_ _ | refine blk_drew ?_ | refine blk_alloc ?_ _)); refine blk_far ?_ NB251_264.out _; (with_reducible repeat (first | refine blk_drewN ?_ _ | refine blk_drew ?_ | refine blk_alloc ?_ _)); exact BK251.out) hb); have n6_ := Aside0.mk (blk_below (g := gb262) (o := .cells #[.int .i64 t252, .string t253, .string t254, .slice Ao11 t255.length co11, .slice (some ad263) t258.length co12] 25 (0, 0)) (by (with_reducible repeat (first | refine blk_drewN ?_ _ | refine blk_drew ?_ | refine blk_alloc ?_ _)); refine blk_far ?_ NB262_264.out _; (with_reducible repeat (first | refine blk_drewN ?_ _ | refine blk_drew ?_ | refine blk_alloc ?_ _)); refine blk_far ?_ NB262_264.out _; (with_reducible repeat (first | refine blk_drewN ?_ _ | refine blk_drew ?_ | refine blk_alloc ?_ _)); refine blk_far ?_ NB262_264.out _; (with_reducible repeat (first | refine blk_drewN ?_ _ | refine blk_drew ?_ | refine blk_alloc ?_ _)); refine blk_far ?_ NB262_264.out _; (with_reducible repeat (first | refine blk_drewN ?_ _ | refine blk_drew ?_ | refine blk_alloc ?_ _)); refine blk_far ?_ NB262_264.out _; (with_reducible repeat (first | refine blk_drewN ?_ _ | refine blk_drew ?_ | refine blk_alloc ?_ _)); exact BK262.out) hb); have n7_ := Aside0.mk (Kd.C_below ((Kd.V_reads' (by (with_reducible repeat (first | apply Kd.V_alloc | apply Kd.V_drewN | apply Kd.V_drew)); exact (Kd.V_mono (Kd.V_far (p := ⟨gb264, 4, none⟩) (Kd.V_far (p := ⟨gb264, 3, none⟩) (Kd.V_far (p := ⟨gb264, 2, none⟩) (Kd.V_far (p := ⟨gb264, 1, none⟩) (Kd.V_far (p := ⟨gb264, 0, none⟩) (Kd.V_mono HL263_3.out (fun k_ hk => (⟨hk, hk.2⟩ : _ ∧ k_ ≠ gb264))) (fun _ hk => hk.2) (.int .i64 ((rd_T25 t258 x21_1).f0))) (fun _ hk => hk.2) (.string ((rd_T25 t258 x21_1).f1))) (fun _ hk => hk.2) (.string ((rd_T25 t258 x21_1).f2))) (fun _ hk => hk.2) (.slice A263_3 ((rd_T25 t258 x21_1).f3).length c263_3)) (fun _ hk => hk.2) (.slice A263_4 ((rd_T25 t258 x21_1).f4).length c263_4)) (fun _ h_ => h_.1)))).2.2) hb); have n8_ := Aside0.mk (Kd.C_below ((Kd.V_reads' (by (with_reducible repeat (first | apply Kd.V_alloc | apply Kd.V_drewN | apply Kd.V_drew)); exact (Kd.V_mono (Kd.V_far (p := ⟨gb264, 4, none⟩) (Kd.V_far (p := ⟨gb264, 3, none⟩) (Kd.V_far (p := ⟨gb264, 2, none⟩) (Kd.V_far (p := ⟨gb264, 1, none⟩) (Kd.V_far (p := ⟨gb264, 0, none⟩) (Kd.V_mono HL263_4.out (fun k_ hk => (⟨hk, hk.2⟩ : _ ∧ k_ ≠ gb264))) (fun _ hk => hk.2) (.int .i64 ((rd_T25 t258 x21_1).f0))) (fun _ hk => hk.2) (.string ((rd_T25 t258 x21_1).f1))) (fun _ hk => hk.2) (.string ((rd_T25 t258 x21_1).f2))) (fun _ hk => hk.2) (.slice A263_3 ((rd_T25 t258 x21_1).f3).length c263_3)) (fun _ hk => hk.2) (.slice A263_4 ((rd_T25 t258 x21_1).f4).length c263_4)) (fun _ h_ => h_.1)))).2.2) hb); have n9_ := Aside0.mk (blk_below (g := gb264) (o := .cells #[.int .i64 ((rd_T25 t258 x21_1).f0), .string ((rd_T25 t258 x21_1).f1), .string ((rd_T25 t258 x21_1).f2), .slice A263_3 ((rd_T25 t258 x21_1).f3).length c263_3, .slice A263_4 ((rd_T25 t258 x21_1).f4).length c263_4] 25 (0, 0)) (by (with_reducible repeat (first | refine blk_drewN ?_ _ | refine blk_drew ?_ | refine blk_alloc ?_ _)); refine blk_put (cs := #[.int .i64 ((rd_T25 t258 x21_1).f0), .string ((rd_T25 t258 x21_1).f1), .string ((rd_T25 t258 x21_1).f2), .slice A263_3 ((rd_T25 t258 x21_1).f3).length c263_3, .slice none 0 0]) ?_ 4 _ rfl; (with_reducible repeat (first | refine blk_drewN ?_ _ | refine blk_drew ?_ | refine blk_alloc ?_ _)); refine blk_put (cs := #[.int .i64 ((rd_T25 t258 x21_1).f0), .string ((rd_T25 t258 x21_1).f1), .string ((rd_T25 t258 x21_1).f2), .slice none 0 0, .slice none 0 0]) ?_ 3 _ rfl; (with_reducible repeat (first | refine blk_drewN ?_ _ | refine blk_drew ?_ | refine blk_alloc ?_ _)); refine blk_put (cs := #[.int .i64 ((rd_T25 t258 x21_1).f0), .string ((rd_T25 t258 x21_1).f1), .string (⟨#[]⟩ : ByteArray), .slice none 0 0, .slice none 0 0]) ?_ 2 _ rfl; (with_reducible repeat (first | refine blk_drewN ?_ _ | refine blk_drew ?_ | refine blk_alloc ?_ _)); refine blk_put (cs := #[.int .i64 ((rd_T25 t258 x21_1).f0), .string (⟨#[]⟩ : ByteArray), .string (⟨#[]⟩ : ByteArray), .slice none 0 0, .slice none 0 0]) ?_ 1 _ rfl; (with_reducible repeat (first | refine blk_drewN ?_ _ | refine blk_drew ?_ | refine blk_alloc ?_ _)); refine blk_put (cs := #[.int .i64 0, .string (⟨#[]⟩ : ByteArray), .string (⟨#[]⟩ : ByteArray), .slice none 0 0, .slice none 0 0]) ?_ 0 _ rfl; (with_reducible repeat (first | refine blk_drewN ?_ _ | refine blk_drew ?_ | refine blk_alloc ?_ _)); exact BK264.out) hb); have n10_ := Aside0.mk (below_step (by repeat (first | (with_reducible first | exact HB.out | apply below_alloc | apply pw_below_drewN | apply below_drew1 | refine below_set ?_ GE251.out | refine below_set ?_ GE262.out | refine below_set ?_ GE264.out) | exact HB.out)) hb); clear HO_19; clear HO_263003; clear HO_263004; clear HL263_3; clear HL263_4; clear BK251; clear BK262; clear HR263_3; clear HR263_4; clear BK264; clear HB; have HO_19 := n0_; have HO_263003 := n1_; have HO_263004 := n2_; have HL263_3 := n3_; have HL263_4 := n4_; have BK251 := n5_; have BK262 := n6_; have HR263_3 := n7_; have HR263_4 := n8_; have BK264 := n9_; have HB := n10_; clear n0_ n1_ n2_ n3_ n4_ n5_ n6_ n7_ n8_ n9_ n10_; (try clear hb); (try clear hb2); (try clear hk); (try clear hi)))
              go_roundg k1
              case measure => have := HK1.out; omega
              case rel => exact ⟨(wrap64 (x21_1 + 1)), (by first | rfl | (simp; done) | (simp [*]; done)), H', ⟨by have := HK1.out; omega⟩, ⟨by (with_reducible repeat (first | apply Kd.V_alloc | apply Kd.V_drewN | apply Kd.V_drew)); exact Kd.V_mono HO_19.out (fun _ hk => ⟨hk.1.1, hk.1.2⟩)⟩, ⟨by (with_reducible repeat (first | apply Kd.V_alloc | apply Kd.V_drewN | apply Kd.V_drew)); exact Kd.V_mono HO_263003.out (fun _ hk => ⟨hk.1.1, hk.1.2⟩)⟩, ⟨by (with_reducible repeat (first | apply Kd.V_alloc | apply Kd.V_drewN | apply Kd.V_drew)); exact Kd.V_mono HO_263004.out (fun _ hk => ⟨hk.1.1, hk.1.2⟩)⟩, ⟨by (with_reducible repeat (first | refine blk_drewN ?_ _ | refine blk_drew ?_ | refine blk_alloc ?_ _)); exact BK251.out⟩, ⟨by (with_reducible repeat (first | refine blk_drewN ?_ _ | refine blk_drew ?_ | refine blk_alloc ?_ _)); exact BK262.out⟩, ⟨by repeat (first | (with_reducible first | exact HB.out | apply below_alloc | apply pw_below_drewN | apply below_drew1 | refine below_set ?_ GE251.out | refine below_set ?_ GE262.out | refine below_set ?_ GE264.out) | exact HB.out)⟩⟩
          · rw [if_neg c15] at H
            exact absurd H (by simp)
        · rw [if_neg c14] at H
          exact absurd H (by simp)
      · rw [if_neg c13] at H
        have c13b0 : decide (x21_1 < (t258.length : Int)) = false := decide_eq_false c13
        clear c13
        simp only [Option.some.injEq, Prod.mk.injEq] at H
        obtain ⟨rfl, rfl⟩ := H
        go_wp2
        go_ret2
        exact ⟨_, by first | rfl | (simp [errW_none, errW_some] <;> rfl) | (simp [*, errW_none, errW_some] <;> rfl), by first | exact Kd.R_nil _ _ _ _ _ | exact Kd.N_nil _ _ _ _ _ | exact Kd.V_nil _ _ _ _ _ | exact Kd.Q_nil _ _ _ _ _ | exact Kd.S_nil _ _ _ _ _, by repeat (first | (with_reducible first | exact HB.out | apply below_alloc | apply pw_below_drewN | apply below_drew1 | refine below_set ?_ GE251.out | refine below_set ?_ GE262.out) | exact HB.out)⟩

end Go.Proofs.Ytibfoaahdbdogaa.PDom
