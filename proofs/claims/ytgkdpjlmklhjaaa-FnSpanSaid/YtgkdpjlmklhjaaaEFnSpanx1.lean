/- Printed by the program extprint.py of this session, out of the kit's print and contracts of this session's own; Lean checks it. -/
import Derived.Test.YtgkdpjlmklhjaaaEFnSpanx0
namespace Go.Proofs.Ytgkdpjlmklhjaaa.PFnSpan
open Go.RowKit Go.Proofs.YtgkdpjlmklhjaaaW.PrintWords Go.Proofs.YtgkdpjlmklhjaaaW.PrintLast Go.Proofs.YtgkdpjlmklhjaaaW.PrintMore
attribute [local go_sem] max2_int min2_int max_two min_two max_three min_three max_four min_four   -- for this text's walks alone
set_option linter.unusedVariables false
set_option linter.unusedSimpArgs false

/-! ### table_calculateModifications: function 27 -/
mutual
def table_calculateModifications.j0 : Nat → Int → Int → Int → Int → List Int → List (S50) → Bool → Option ((List (S50)))
  | 0, _, _, _, _, _, _, _ => none
  | k + 1, x0, x1, x2, x3, x4, x11, x21 => if x21 = true then (some x11) else (table_calculateModifications.l0 k x0 x1 x2 x3 x4 x11 1)
def table_calculateModifications.l0 : Nat → Int → Int → Int → Int → List Int → List (S50) → Int → Option ((List (S50)))
  | 0, _, _, _, _, _, _, _ => none
  | k + 1, x0, x1, x2, x3, x4, x11, x12 => if x12 < x3 then (if x11.length < 3518437208883 then (table_calculateModifications.l0 k x0 x1 x2 x3 x4 (x11 ++ [(⟨x0, wrap64 (x1 + x12), x4⟩ : S50)]) (wrap64 (x12 + 1))) else (none)) else (if x2 > 1 then (table_calculateModifications.l1 k x0 x1 x2 x3 x4 x11 1) else (some x11))
def table_calculateModifications.l1 : Nat → Int → Int → Int → Int → List Int → List (S50) → Int → Option ((List (S50)))
  | 0, _, _, _, _, _, _, _ => none
  | k + 1, x0, x1, x2, x3, x4, x11, x13 => if x13 < x2 then (table_calculateModifications.l2 k x0 x1 x2 x3 x4 x11 x13 0) else (some x11)
def table_calculateModifications.l2 : Nat → Int → Int → Int → Int → List Int → List (S50) → Int → Int → Option ((List (S50)))
  | 0, _, _, _, _, _, _, _, _ => none
  | k + 1, x0, x1, x2, x3, x4, x11, x13, x14 => if x14 < x3 then (if x11.length < 3518437208883 then (table_calculateModifications.l2 k x0 x1 x2 x3 x4 (x11 ++ [(⟨wrap64 (x0 + x13), wrap64 (x1 + x14), x4⟩ : S50)]) x13 (wrap64 (x14 + 1))) else (none)) else (table_calculateModifications.l1 k x0 x1 x2 x3 x4 x11 (wrap64 (x13 + 1)))
end
def table_calculateModifications.f (k : Nat) (a0 : Int) (a1 : Int) (a2 : Int) (a3 : Int) (l4 : List Int) : Option ((List (S50))) := if 0 ≤ 7036874417766 then ((some (List.replicate 0 z50 : List (S50))).bind fun y101 => (if a3 ≤ 1 then (table_calculateModifications.j0 k a0 a1 a2 a3 l4 y101 (decide (a2 ≤ 1))) else (table_calculateModifications.j0 k a0 a1 a2 a3 l4 y101 false))) else (none)
theorem table_calculateModifications.mono_l : ∀ k, (∀ y0 y1 y2 y3 y4 y5 y6, LeO (table_calculateModifications.j0 k y0 y1 y2 y3 y4 y5 y6) (table_calculateModifications.j0 (k + 1) y0 y1 y2 y3 y4 y5 y6)) ∧ (∀ y0 y1 y2 y3 y4 y5 y6, LeO (table_calculateModifications.l0 k y0 y1 y2 y3 y4 y5 y6) (table_calculateModifications.l0 (k + 1) y0 y1 y2 y3 y4 y5 y6)) ∧ (∀ y0 y1 y2 y3 y4 y5 y6, LeO (table_calculateModifications.l1 k y0 y1 y2 y3 y4 y5 y6) (table_calculateModifications.l1 (k + 1) y0 y1 y2 y3 y4 y5 y6)) ∧ (∀ y0 y1 y2 y3 y4 y5 y6 y7, LeO (table_calculateModifications.l2 k y0 y1 y2 y3 y4 y5 y6 y7) (table_calculateModifications.l2 (k + 1) y0 y1 y2 y3 y4 y5 y6 y7))
  | 0 => ⟨fun _ _ _ _ _ _ _ r h => by simp [table_calculateModifications.j0] at h, fun _ _ _ _ _ _ _ r h => by simp [table_calculateModifications.l0] at h, fun _ _ _ _ _ _ _ r h => by simp [table_calculateModifications.l1] at h, fun _ _ _ _ _ _ _ _ r h => by simp [table_calculateModifications.l2] at h⟩
  | k + 1 => by
    obtain ⟨ih0, ih1, ih2, ih3⟩ := table_calculateModifications.mono_l k
    refine ⟨?_, ?_, ?_, ?_⟩
    · intro y0 y1 y2 y3 y4 y5 y6
      unfold table_calculateModifications.j0
      repeat' first
      | (with_reducible exact ih0 _ _ _ _ _ _ _)
      | (with_reducible exact ih1 _ _ _ _ _ _ _)
      | (with_reducible exact ih2 _ _ _ _ _ _ _)
      | (with_reducible exact ih3 _ _ _ _ _ _ _ _)
      | (with_reducible exact LeO.refl _)
      | (with_reducible exact LeO.none _)
      | (with_reducible refine LeO.ite ?_ ?_)
      | (with_reducible refine LeO.bind ?_ (fun _ => ?_))
      | exact ih0 _ _ _ _ _ _ _
      | exact ih1 _ _ _ _ _ _ _
      | exact ih2 _ _ _ _ _ _ _
      | exact ih3 _ _ _ _ _ _ _ _
      | exact LeO.none _
      | refine LeO.ite ?_ ?_
      | refine LeO.bind ?_ (fun _ => ?_)
    · intro y0 y1 y2 y3 y4 y5 y6
      unfold table_calculateModifications.l0
      repeat' first
      | (with_reducible exact ih0 _ _ _ _ _ _ _)
      | (with_reducible exact ih1 _ _ _ _ _ _ _)
      | (with_reducible exact ih2 _ _ _ _ _ _ _)
      | (with_reducible exact ih3 _ _ _ _ _ _ _ _)
      | (with_reducible exact LeO.refl _)
      | (with_reducible exact LeO.none _)
      | (with_reducible refine LeO.ite ?_ ?_)
      | (with_reducible refine LeO.bind ?_ (fun _ => ?_))
      | exact ih0 _ _ _ _ _ _ _
      | exact ih1 _ _ _ _ _ _ _
      | exact ih2 _ _ _ _ _ _ _
      | exact ih3 _ _ _ _ _ _ _ _
      | exact LeO.none _
      | refine LeO.ite ?_ ?_
      | refine LeO.bind ?_ (fun _ => ?_)
    · intro y0 y1 y2 y3 y4 y5 y6
      unfold table_calculateModifications.l1
      repeat' first
      | (with_reducible exact ih0 _ _ _ _ _ _ _)
      | (with_reducible exact ih1 _ _ _ _ _ _ _)
      | (with_reducible exact ih2 _ _ _ _ _ _ _)
      | (with_reducible exact ih3 _ _ _ _ _ _ _ _)
      | (with_reducible exact LeO.refl _)
      | (with_reducible exact LeO.none _)
      | (with_reducible refine LeO.ite ?_ ?_)
      | (with_reducible refine LeO.bind ?_ (fun _ => ?_))
      | exact ih0 _ _ _ _ _ _ _
      | exact ih1 _ _ _ _ _ _ _
      | exact ih2 _ _ _ _ _ _ _
      | exact ih3 _ _ _ _ _ _ _ _
      | exact LeO.none _
      | refine LeO.ite ?_ ?_
      | refine LeO.bind ?_ (fun _ => ?_)
    · intro y0 y1 y2 y3 y4 y5 y6 y7
      unfold table_calculateModifications.l2
      repeat' first
      | (with_reducible exact ih0 _ _ _ _ _ _ _)
      | (with_reducible exact ih1 _ _ _ _ _ _ _)
      | (with_reducible exact ih2 _ _ _ _ _ _ _)
      | (with_reducible exact ih3 _ _ _ _ _ _ _ _)
      | (with_reducible exact LeO.refl _)
      | (with_reducible exact LeO.none _)
      | (with_reducible refine LeO.ite ?_ ?_)
      | (with_reducible refine LeO.bind ?_ (fun _ => ?_))
      | exact ih0 _ _ _ _ _ _ _
      | exact ih1 _ _ _ _ _ _ _
      | exact ih2 _ _ _ _ _ _ _
      | exact ih3 _ _ _ _ _ _ _ _
      | exact LeO.none _
      | refine LeO.ite ?_ ?_
      | refine LeO.bind ?_ (fun _ => ?_)
theorem table_calculateModifications.mono : ∀ a0 a1 a2 a3 a4 k, LeO (table_calculateModifications.f k a0 a1 a2 a3 a4) (table_calculateModifications.f (k + 1) a0 a1 a2 a3 a4) := by
  intro a0 a1 a2 a3 a4 k
  obtain ⟨ih0, ih1, ih2, ih3⟩ := table_calculateModifications.mono_l k
  unfold table_calculateModifications.f
  repeat' first
      | (with_reducible exact ih0 _ _ _ _ _ _ _)
      | (with_reducible exact ih1 _ _ _ _ _ _ _)
      | (with_reducible exact ih2 _ _ _ _ _ _ _)
      | (with_reducible exact ih3 _ _ _ _ _ _ _ _)
      | (with_reducible exact LeO.refl _)
      | (with_reducible exact LeO.none _)
      | (with_reducible refine LeO.ite ?_ ?_)
      | (with_reducible refine LeO.bind ?_ (fun _ => ?_))
      | exact ih0 _ _ _ _ _ _ _
      | exact ih1 _ _ _ _ _ _ _
      | exact ih2 _ _ _ _ _ _ _
      | exact ih3 _ _ _ _ _ _ _ _
      | exact LeO.none _
      | refine LeO.ite ?_ ?_
      | refine LeO.bind ?_ (fun _ => ?_)
set_option maxHeartbeats 8000000 in
set_option maxRecDepth 100000 in
theorem table_calculateModifications.calls (k : Nat) (a0 : Int) (a1 : Int) (a2 : Int) (a3 : Int) (P4_ : Nat → Prop) (A4 : Option Addr) (c4 : Nat) (l4 : List Int) (r : List (S50)) (w : World) (hs4 : Kd.V (Kd.int .u8) 5 w w.heap.size (fun k_ => P4_ k_) (.slice A4 l4.length c4) l4) (h : table_calculateModifications.f k a0 a1 a2 a3 l4 = some r) :
    Calls Try.prog 27 #[.int .i64 a0, .int .i64 a1, .int .i64 a2, .int .i64 a3, .slice A4 l4.length c4] w fun e w' => ∃ v0_ : Value, e = .returned (v0_) ∧ Kd.N k50 50 w' w.heap.size (fun k_ => (P4_ k_ ∨ w.heap.size ≤ k_)) v0_ r ∧ Below w.heap.size w w' := by
  have hu50 := Try.underlying50
  have HO4 := Aside0.mk (show Kd.V (Kd.int .u8) 5 w w.heap.size (fun k_ => (P4_ k_ ∨ w.heap.size ≤ k_)) (.slice A4 l4.length c4) l4 from Kd.V_mono hs4 (fun k_ hk => .inl hk))
  have HB := Aside0.mk (Below.refl w.heap.size w)
  have H : (if 0 ≤ 7036874417766 then ((some (List.replicate 0 z50 : List (S50))).bind fun y101 => (if a3 ≤ 1 then (table_calculateModifications.j0 k a0 a1 a2 a3 l4 y101 (decide (a2 ≤ 1))) else (table_calculateModifications.j0 k a0 a1 a2 a3 l4 y101 false))) else (none)) = some r := h
  clear h
  by_cases c6 : 0 ≤ 7036874417766
  · rw [if_pos c6] at H
    have c6b0 := eq_true c6
    have c6b1 : decide (0 ≤ 7036874417766) = true := decide_eq_true c6
    clear c6
    obtain ⟨y101, hy101⟩ : ∃ y_ : List (S50), y_ = (List.replicate 0 z50) := ⟨_, rfl⟩
    replace H : (if a3 ≤ 1 then (table_calculateModifications.j0 k a0 a1 a2 a3 l4 y101 (decide (a2 ≤ 1))) else (table_calculateModifications.j0 k a0 a1 a2 a3 l4 y101 false)) = some r := by first | (rw [hy101]; with_reducible exact H) | (have H2_ := (Option.bind_some _ _).symm.trans H; rw [hy101]; with_reducible exact H2_) | (have H2_ := (Option.bind_some _ _).symm.trans H; with_reducible exact H2_) | with_reducible exact H | (rw [hy101]; exact H) | exact H
    have Ny101 := Aside0.mk hy101
    clear hy101
    have HC7 := Aside0.mk H
    clear H
    go_enter Try.func27, Try.ntmps27
    go_upto_region 2 with (first | ((with_reducible refine gate_dst (N := 15) rfl ?_); refine Kd.N_make k50 _ 50 rfl (N' := 15) rfl 47 _ _ rfl 0 rfl rfl Try.underlying47 (.agg #[(.int .i64 0), (.int .i64 0), (.slice none 0 0)]) 40 info50 rfl (by decide) (by omega) z50 (ok := fun k_ => w.heap.size ≤ k_) (okp := fun _ => False) (k50_mkF _ _ z50 (Nat.le_refl _) (Kd.F_nil _ _ _)) (fun _ hk => hk.elim) (Nat.le_refl _) (by omega) (by omega) (Below.refl _ _) (Nat.le_refl _) ?_; intro v102 w8 ho9 hb hg_ hnew_; clear hg_ hnew_; (first | rw [← Ny101.out] at ho9 | (simp only [Int.reduceToNat] at ho9; rw [← Ny101.out] at ho9)); have n0_ := Aside0.mk (Kd.V_elder' (by (with_reducible repeat (first | apply Kd.V_alloc | apply Kd.V_drewN | apply Kd.V_drew)); exact HO4.out) (Kd.N_base ho9) hb); have n1_ := Aside0.mk (Kd.N_lower (Kd.N_mono (ok' := fun k_ => (P4_ k_ ∨ w.heap.size ≤ k_)) ho9 (fun k_ hk_ => (.inr (Nat.le_trans (below_size (by repeat (first | (with_reducible first | exact HB.out | apply below_alloc | apply pw_below_drewN | apply below_drew1) | exact HB.out))) hk_)))) (below_size (by repeat (first | (with_reducible first | exact HB.out | apply below_alloc | apply pw_below_drewN | apply below_drew1) | exact HB.out)))); have n2_ := Aside0.mk (below_step (by repeat (first | (with_reducible first | exact HB.out | apply below_alloc | apply pw_below_drewN | apply below_drew1) | exact HB.out)) hb); clear HO4; clear HB; have HO4 := n0_; have HO103 := n1_; have HB := n2_; clear n0_ n1_ n2_; clear hb ho9))
    (try simp only [Act.put, List.setIfInBounds_toArray, List.set_cons_zero, List.set_cons_succ])
    go_cut [21] (fun v21 wc => ∃ (kq : Nat) (x21_6 : Bool), v21 = .bool x21_6 ∧ Aside0 (table_calculateModifications.j0 kq a0 a1 a2 a3 l4 y101 x21_6 = some r) ∧ Aside0 (kq ≤ k) ∧ Aside0 (Kd.V (Kd.int .u8) 5 wc w.heap.size (fun k_ => (P4_ k_ ∨ w.heap.size ≤ k_) ∧ some k_ ≠ (v102 : Value).ownBlock) (.slice A4 l4.length c4) l4) ∧ Aside0 (Kd.N k50 50 wc w.heap.size (fun k_ => (P4_ k_ ∨ w.heap.size ≤ k_)) v102 y101) ∧ Aside0 (Below w.heap.size w wc))
    case first =>
      have H := HC7.out
      clear HC7
      by_cases c10 : a3 ≤ 1
      · rw [if_pos c10] at H
        have c10b0 : decide (a3 ≤ 1) = true := decide_eq_true c10
        clear c10
        (first | rw [c10b0] | (simp only [i64_w, i32_w]; rw [c10b0]) | skip)
        have H' := Aside0.mk H
        clear H
        go_wp2
        go_meet
        case rel => exact ⟨_, (decide (a2 ≤ 1)), (by first | rfl | (simp; done) | (simp [*]; done)), H', ⟨by first | omega | exact Nat.le_refl _⟩, ⟨by (with_reducible repeat (first | apply Kd.V_alloc | apply Kd.V_drewN | apply Kd.V_drew)); exact HO4.out⟩, ⟨by (with_reducible repeat (first | apply Kd.N_alloc | apply Kd.N_drewN | apply Kd.N_drew)); exact HO103.out⟩, ⟨by repeat (first | (with_reducible first | exact HB.out | apply below_alloc | apply pw_below_drewN | apply below_drew1) | exact HB.out)⟩⟩
      · rw [if_neg c10] at H
        have c10b0 : decide (a3 ≤ 1) = false := decide_eq_false c10
        clear c10
        (first | rw [c10b0] | (simp only [i64_w, i32_w]; rw [c10b0]) | skip)
        have H' := Aside0.mk H
        clear H
        go_wp2
        go_meet
        case rel => exact ⟨_, (false), (by first | rfl | (simp; done) | (simp [*]; done)), H', ⟨by first | omega | exact Nat.le_refl _⟩, ⟨by (with_reducible repeat (first | apply Kd.V_alloc | apply Kd.V_drewN | apply Kd.V_drew)); exact HO4.out⟩, ⟨by (with_reducible repeat (first | apply Kd.N_alloc | apply Kd.N_drewN | apply Kd.N_drew)); exact HO103.out⟩, ⟨by repeat (first | (with_reducible first | exact HB.out | apply below_alloc | apply pw_below_drewN | apply below_drew1) | exact HB.out)⟩⟩
    case rest =>
      clear HC7
      try clear c1
      try clear c2
      try clear p2
      try clear c4
      try clear c6
      try clear c6b0
      try clear c6b1
      try clear c10
      try clear c10b0
      obtain ⟨kq, x21_6, rfl, HA, HJ6, HO_4, HO_11, HB⟩ := hcut
      cases kq with
      | zero => exact absurd HA.out (by simp [table_calculateModifications.j0])
      | succ kj6 =>
        have H := HA.out
        clear HA
        simp only [table_calculateModifications.j0] at H
        by_cases c11 : x21_6 = true
        · subst c11
          have H1 : (some y101) = some r := by rw [if_pos rfl] at H; exact H
          clear H
          have H := H1
          clear H1
          obtain rfl := Option.some.inj H
          go_wp2
          go_ret
          exact ⟨_, by first | rfl | (simp [errW_none, errW_some] <;> rfl) | (simp [*, errW_none, errW_some] <;> rfl), by (with_reducible repeat (first | apply Kd.N_alloc | apply Kd.N_drewN | apply Kd.N_drew)); exact HO_11.out, by repeat (first | (with_reducible first | exact HB.out | apply below_alloc | apply pw_below_drewN | apply below_drew1) | exact HB.out)⟩
        · replace c11 := Bool.eq_false_iff.mpr c11
          subst c11
          have H1 : (table_calculateModifications.l0 kj6 a0 a1 a2 a3 l4 y101 1) = some r := by rw [if_neg (show ¬ (false = true) by decide)] at H; exact H
          clear H
          have H := H1
          clear H1
          have H' := Aside0.mk H
          clear H
          go_wp2
          go_loopg [11, 12] kj6 (fun kq v11 v12 w' => ∃ (x11_2 : List (S50)) (x12_2 : Int), v12 = .int .i64 x12_2 ∧ Aside0 (table_calculateModifications.l0 kq a0 a1 a2 a3 l4 x11_2 x12_2 = some r) ∧ Aside0 (kq ≤ kj6) ∧ Aside0 (Kd.V (Kd.int .u8) 5 w' w.heap.size (fun k_ => (P4_ k_ ∨ w.heap.size ≤ k_) ∧ some k_ ≠ (v11 : Value).ownBlock) (.slice A4 l4.length c4) l4) ∧ Aside0 (Kd.N k50 50 w' w.heap.size (fun k_ => (P4_ k_ ∨ w.heap.size ≤ k_)) v11 x11_2) ∧ Aside0 (Below w.heap.size w w'))
          case atStart => exact ⟨(y101), (1), (by first | rfl | (simp; done) | (simp [*]; done)), H', ⟨Nat.le_refl _⟩, ⟨by (with_reducible repeat (first | apply Kd.V_alloc | apply Kd.V_drewN | apply Kd.V_drew)); exact HO_4.out⟩, ⟨by (with_reducible repeat (first | apply Kd.N_alloc | apply Kd.N_drewN | apply Kd.N_drew)); exact HO_11.out⟩, ⟨by repeat (first | (with_reducible first | exact HB.out | apply below_alloc | apply pw_below_drewN | apply below_drew1) | exact HB.out)⟩⟩
          case round =>
            clear H'
            try clear c1
            try clear c2
            try clear p2
            try clear c4
            try clear c6
            try clear c6b0
            try clear c6b1
            try clear c10
            try clear c10b0
            try clear c11
            try clear p2
            obtain ⟨x11_2, x12_2, rfl, HA, HK2, HO_4, HO_11, HB⟩ := hrel
            cases gk with
            | zero => exact absurd HA.out (by simp [table_calculateModifications.l0])
            | succ k2 =>
              have H := HA.out
              clear HA
              simp only [table_calculateModifications.l0] at H
              by_cases c12 : x12_2 < a3
              · rw [if_pos c12] at H
                have c12b0 : decide (x12_2 < a3) = true := decide_eq_true c12
                clear c12
                by_cases c13 : x11_2.length < 3518437208883
                · rw [if_pos c13] at H
                  have LMc13 := Aside0.mk c13
                  clear c13
                  obtain ⟨y104, hy104⟩ : ∃ y_ : List (S50), y_ = (x11_2 ++ [(⟨a0, wrap64 (a1 + x12_2), l4⟩ : S50)]) := ⟨_, rfl⟩
                  replace H : (table_calculateModifications.l0 k2 a0 a1 a2 a3 l4 y104 (wrap64 (x12_2 + 1))) = some r := by first | (rw [hy104]; with_reducible exact H) | (have H2_ := (Option.bind_some _ _).symm.trans H; rw [hy104]; with_reducible exact H2_) | (have H2_ := (Option.bind_some _ _).symm.trans H; with_reducible exact H2_) | with_reducible exact H | (rw [hy104]; exact H) | exact H
                  have Ny104 := Aside0.mk hy104
                  clear hy104
                  have H' := Aside0.mk H
                  clear H
                  go_wp2_with (first | ((with_reducible refine gate_builtin (b := .append) (xs := #[.tmp 28, .tmp 35]) rfl ?_); at_builtin; refine Kd.N_append k50 (w0 := w) w.heap.size rfl (.tmp 28) (.tmp 35) 47 50 (.agg #[(.int .i64 0), (.int .i64 0), (.slice none 0 0)]) 40 rfl Try.underlying47 info50 rfl (by decide) (by omega) u11 x11_2 (⟨a0, wrap64 (a1 + x12_2), l4⟩ : S50) [.int .i64 a0, .int .i64 (wrap64 (a1 + x12_2)), .slice A4 l4.length c4] (fun k_ => (P4_ k_ ∨ w.heap.size ≤ k_)) (fun k_ => ((fun k_ => (P4_ k_ ∨ w.heap.size ≤ k_))) k_ ∧ some k_ ≠ (u11 : Value).ownBlock) rfl rfl ?aP (fun _ hk => hk) ?aF ?aO ?aB ?aS ?aL ?_; (case aP => exact (k50_mkF _ _ (⟨a0, wrap64 (a1 + x12_2), l4⟩ : S50) (Kd.V_reads' (Kd.V_mono (ok' := (fun k_ => ((fun k_ => (P4_ k_ ∨ w.heap.size ≤ k_))) k_ ∧ some k_ ≠ (u11 : Value).ownBlock)) (HO_4.out) (fun k_ hk => ⟨hk.1, hk.2⟩))).2.1 (Kd.V_F (Kd.V_mono (ok' := (fun k_ => ((fun k_ => (P4_ k_ ∨ w.heap.size ≤ k_))) k_ ∧ some k_ ≠ (u11 : Value).ownBlock)) (HO_4.out) (fun k_ hk => ⟨hk.1, hk.2⟩))))); (case aB => exact (by repeat (first | (with_reducible first | exact HB.out | apply below_alloc | apply pw_below_drewN | apply below_drew1) | exact HB.out))); (case aF => exact (fun k_ hk => (.inr (Nat.le_trans (below_size (by repeat (first | (with_reducible first | exact HB.out | apply below_alloc | apply pw_below_drewN | apply below_drew1) | exact HB.out))) hk)))); (case aO => exact (by (with_reducible repeat (first | apply Kd.N_alloc | apply Kd.N_drewN | apply Kd.N_drew)); exact HO_11.out)); (case aS => exact (below_size (by repeat (first | (with_reducible first | exact HB.out | apply below_alloc | apply pw_below_drewN | apply below_drew1) | exact HB.out)))); (case aL => have := LMc13.out; omega); intro v105 w14 ho hb hg hat; rw [← Ny104.out] at ho; have n0_ := Aside0.mk (Kd.V_afterv (ok := (fun k_ => (P4_ k_ ∨ w.heap.size ≤ k_))) (by (with_reducible repeat (first | apply Kd.V_alloc | apply Kd.V_drewN | apply Kd.V_drew)); exact HO_4.out) hg hat); have n1_ := Aside0.mk (hb); have n2_ := Aside0.mk (ho); clear HO_4; clear HB; clear HO_11; have HO_4 := n0_; have HB := n1_; have HO106 := n2_; clear n0_ n1_ n2_; clear ho hb hg hat))
                  go_roundg k2
                  case measure => have := HJ6.out; have := HK2.out; omega
                  case rel => exact ⟨(y104), (wrap64 (x12_2 + 1)), (by first | rfl | (simp; done) | (simp [*]; done)), H', ⟨by have := HJ6.out; have := HK2.out; omega⟩, ⟨by (with_reducible repeat (first | apply Kd.V_alloc | apply Kd.V_drewN | apply Kd.V_drew)); exact HO_4.out⟩, ⟨by (with_reducible repeat (first | apply Kd.N_alloc | apply Kd.N_drewN | apply Kd.N_drew)); exact HO106.out⟩, ⟨by repeat (first | (with_reducible first | exact HB.out | apply below_alloc | apply pw_below_drewN | apply below_drew1) | exact HB.out)⟩⟩
                · rw [if_neg c13] at H
                  exact absurd H (by simp)
              · rw [if_neg c12] at H
                have c12b0 : decide (x12_2 < a3) = false := decide_eq_false c12
                clear c12
                by_cases c15 : a2 > 1
                · rw [if_pos c15] at H
                  have c15b0 : decide (1 < a2) = true := decide_eq_true c15
                  clear c15
                  have H' := Aside0.mk H
                  clear H
                  go_wp2
                  go_loopg [11, 13] k2 (fun kq v11 v13 w' => ∃ (x11_3 : List (S50)) (x13_3 : Int), v13 = .int .i64 x13_3 ∧ Aside0 (table_calculateModifications.l1 kq a0 a1 a2 a3 l4 x11_3 x13_3 = some r) ∧ Aside0 (kq ≤ k2) ∧ Aside0 (Kd.V (Kd.int .u8) 5 w' w.heap.size (fun k_ => (P4_ k_ ∨ w.heap.size ≤ k_) ∧ some k_ ≠ (v11 : Value).ownBlock) (.slice A4 l4.length c4) l4) ∧ Aside0 (Kd.N k50 50 w' w.heap.size (fun k_ => (P4_ k_ ∨ w.heap.size ≤ k_)) v11 x11_3) ∧ Aside0 (Below w.heap.size w w'))
                  case atStart => exact ⟨(x11_2), (1), (by first | rfl | (simp; done) | (simp [*]; done)), H', ⟨Nat.le_refl _⟩, ⟨by (with_reducible repeat (first | apply Kd.V_alloc | apply Kd.V_drewN | apply Kd.V_drew)); exact HO_4.out⟩, ⟨by (with_reducible repeat (first | apply Kd.N_alloc | apply Kd.N_drewN | apply Kd.N_drew)); exact HO_11.out⟩, ⟨by repeat (first | (with_reducible first | exact HB.out | apply below_alloc | apply pw_below_drewN | apply below_drew1) | exact HB.out)⟩⟩
                  case round =>
                    clear H'
                    try clear c1
                    try clear c2
                    try clear p2
                    try clear c4
                    try clear c6
                    try clear c6b0
                    try clear c6b1
                    try clear p6
                    try clear c10
                    try clear c10b0
                    try clear c11
                    try clear c12
                    try clear c12b0
                    try clear c13
                    try clear c15
                    try clear c15b0
                    try clear p2
                    obtain ⟨x11_3, x13_3, rfl, HA, HK3, HO_4, HO_11, HB⟩ := hrel
                    cases gk with
                    | zero => exact absurd HA.out (by simp [table_calculateModifications.l1])
                    | succ k3 =>
                      have H := HA.out
                      clear HA
                      simp only [table_calculateModifications.l1] at H
                      by_cases c16 : x13_3 < a2
                      · rw [if_pos c16] at H
                        have c16b0 : decide (x13_3 < a2) = true := decide_eq_true c16
                        clear c16
                        have H' := Aside0.mk H
                        clear H
                        go_wp2
                        go_loopg [11, 14] k3 (fun kq v11 v14 w' => ∃ (x11_4 : List (S50)) (x14_4 : Int), v14 = .int .i64 x14_4 ∧ Aside0 (table_calculateModifications.l2 kq a0 a1 a2 a3 l4 x11_4 x13_3 x14_4 = some r) ∧ Aside0 (kq ≤ k3) ∧ Aside0 (Kd.V (Kd.int .u8) 5 w' w.heap.size (fun k_ => (P4_ k_ ∨ w.heap.size ≤ k_) ∧ some k_ ≠ (v11 : Value).ownBlock) (.slice A4 l4.length c4) l4) ∧ Aside0 (Kd.N k50 50 w' w.heap.size (fun k_ => (P4_ k_ ∨ w.heap.size ≤ k_)) v11 x11_4) ∧ Aside0 (Below w.heap.size w w'))
                        case atStart => exact ⟨(x11_3), (0), (by first | rfl | (simp; done) | (simp [*]; done)), H', ⟨Nat.le_refl _⟩, ⟨by (with_reducible repeat (first | apply Kd.V_alloc | apply Kd.V_drewN | apply Kd.V_drew)); exact HO_4.out⟩, ⟨by (with_reducible repeat (first | apply Kd.N_alloc | apply Kd.N_drewN | apply Kd.N_drew)); exact HO_11.out⟩, ⟨by repeat (first | (with_reducible first | exact HB.out | apply below_alloc | apply pw_below_drewN | apply below_drew1) | exact HB.out)⟩⟩
                        case round =>
                          clear H'
                          try clear c1
                          try clear c2
                          try clear p2
                          try clear c4
                          try clear c6
                          try clear c6b0
                          try clear c6b1
                          try clear p6
                          try clear c10
                          try clear c10b0
                          try clear c11
                          try clear c12
                          try clear c12b0
                          try clear c13
                          try clear c15
                          try clear c15b0
                          try clear c16
                          try clear c16b0
                          try clear p2
                          try clear p6
                          obtain ⟨x11_4, x14_4, rfl, HA, HK4, HO_4, HO_11, HB⟩ := hrel
                          cases gk with
                          | zero => exact absurd HA.out (by simp [table_calculateModifications.l2])
                          | succ k4 =>
                            have H := HA.out
                            clear HA
                            simp only [table_calculateModifications.l2] at H
                            by_cases c17 : x14_4 < a3
                            · rw [if_pos c17] at H
                              have c17b0 : decide (x14_4 < a3) = true := decide_eq_true c17
                              clear c17
                              by_cases c18 : x11_4.length < 3518437208883
                              · rw [if_pos c18] at H
                                have LMc18 := Aside0.mk c18
                                clear c18
                                obtain ⟨y107, hy107⟩ : ∃ y_ : List (S50), y_ = (x11_4 ++ [(⟨wrap64 (a0 + x13_3), wrap64 (a1 + x14_4), l4⟩ : S50)]) := ⟨_, rfl⟩
                                replace H : (table_calculateModifications.l2 k4 a0 a1 a2 a3 l4 y107 x13_3 (wrap64 (x14_4 + 1))) = some r := by first | (rw [hy107]; with_reducible exact H) | (have H2_ := (Option.bind_some _ _).symm.trans H; rw [hy107]; with_reducible exact H2_) | (have H2_ := (Option.bind_some _ _).symm.trans H; with_reducible exact H2_) | with_reducible exact H | (rw [hy107]; exact H) | exact H
                                have Ny107 := Aside0.mk hy107
                                clear hy107
                                have H' := Aside0.mk H
                                clear H
                                go_wp2_with (first | ((with_reducible refine gate_builtin (b := .append) (xs := #[.tmp 49, .tmp 58]) rfl ?_); at_builtin; refine Kd.N_append k50 (w0 := w) w.heap.size rfl (.tmp 49) (.tmp 58) 47 50 (.agg #[(.int .i64 0), (.int .i64 0), (.slice none 0 0)]) 40 rfl Try.underlying47 info50 rfl (by decide) (by omega) u11 x11_4 (⟨wrap64 (a0 + x13_3), wrap64 (a1 + x14_4), l4⟩ : S50) [.int .i64 (wrap64 (a0 + x13_3)), .int .i64 (wrap64 (a1 + x14_4)), .slice A4 l4.length c4] (fun k_ => (P4_ k_ ∨ w.heap.size ≤ k_)) (fun k_ => ((fun k_ => (P4_ k_ ∨ w.heap.size ≤ k_))) k_ ∧ some k_ ≠ (u11 : Value).ownBlock) rfl rfl ?aP (fun _ hk => hk) ?aF ?aO ?aB ?aS ?aL ?_; (case aP => exact (k50_mkF _ _ (⟨wrap64 (a0 + x13_3), wrap64 (a1 + x14_4), l4⟩ : S50) (Kd.V_reads' (Kd.V_mono (ok' := (fun k_ => ((fun k_ => (P4_ k_ ∨ w.heap.size ≤ k_))) k_ ∧ some k_ ≠ (u11 : Value).ownBlock)) (HO_4.out) (fun k_ hk => ⟨hk.1, hk.2⟩))).2.1 (Kd.V_F (Kd.V_mono (ok' := (fun k_ => ((fun k_ => (P4_ k_ ∨ w.heap.size ≤ k_))) k_ ∧ some k_ ≠ (u11 : Value).ownBlock)) (HO_4.out) (fun k_ hk => ⟨hk.1, hk.2⟩))))); (case aB => exact (by repeat (first | (with_reducible first | exact HB.out | apply below_alloc | apply pw_below_drewN | apply below_drew1) | exact HB.out))); (case aF => exact (fun k_ hk => (.inr (Nat.le_trans (below_size (by repeat (first | (with_reducible first | exact HB.out | apply below_alloc | apply pw_below_drewN | apply below_drew1) | exact HB.out))) hk)))); (case aO => exact (by (with_reducible repeat (first | apply Kd.N_alloc | apply Kd.N_drewN | apply Kd.N_drew)); exact HO_11.out)); (case aS => exact (below_size (by repeat (first | (with_reducible first | exact HB.out | apply below_alloc | apply pw_below_drewN | apply below_drew1) | exact HB.out)))); (case aL => have := LMc18.out; omega); intro v108 w19 ho hb hg hat; rw [← Ny107.out] at ho; have n0_ := Aside0.mk (Kd.V_afterv (ok := (fun k_ => (P4_ k_ ∨ w.heap.size ≤ k_))) (by (with_reducible repeat (first | apply Kd.V_alloc | apply Kd.V_drewN | apply Kd.V_drew)); exact HO_4.out) hg hat); have n1_ := Aside0.mk (hb); have n2_ := Aside0.mk (ho); clear HO_4; clear HB; clear HO_11; have HO_4 := n0_; have HB := n1_; have HO109 := n2_; clear n0_ n1_ n2_; clear ho hb hg hat))
                                go_roundg k4
                                case measure => have := HJ6.out; have := HK2.out; have := HK3.out; have := HK4.out; omega
                                case rel => exact ⟨(y107), (wrap64 (x14_4 + 1)), (by first | rfl | (simp; done) | (simp [*]; done)), H', ⟨by have := HJ6.out; have := HK2.out; have := HK3.out; have := HK4.out; omega⟩, ⟨by (with_reducible repeat (first | apply Kd.V_alloc | apply Kd.V_drewN | apply Kd.V_drew)); exact HO_4.out⟩, ⟨by (with_reducible repeat (first | apply Kd.N_alloc | apply Kd.N_drewN | apply Kd.N_drew)); exact HO109.out⟩, ⟨by repeat (first | (with_reducible first | exact HB.out | apply below_alloc | apply pw_below_drewN | apply below_drew1) | exact HB.out)⟩⟩
                              · rw [if_neg c18] at H
                                exact absurd H (by simp)
                            · rw [if_neg c17] at H
                              have c17b0 : decide (x14_4 < a3) = false := decide_eq_false c17
                              clear c17
                              have H' := Aside0.mk H
                              clear H
                              go_wp2
                              go_roundg k4
                              case measure => have := HJ6.out; have := HK2.out; have := HK3.out; have := HK4.out; omega
                              case rel => exact ⟨(x11_4), (wrap64 (x13_3 + 1)), (by first | rfl | (simp; done) | (simp [*]; done)), H', ⟨by have := HJ6.out; have := HK2.out; have := HK3.out; have := HK4.out; omega⟩, ⟨by (with_reducible repeat (first | apply Kd.V_alloc | apply Kd.V_drewN | apply Kd.V_drew)); exact HO_4.out⟩, ⟨by (with_reducible repeat (first | apply Kd.N_alloc | apply Kd.N_drewN | apply Kd.N_drew)); exact HO_11.out⟩, ⟨by repeat (first | (with_reducible first | exact HB.out | apply below_alloc | apply pw_below_drewN | apply below_drew1) | exact HB.out)⟩⟩
                      · rw [if_neg c16] at H
                        have c16b0 : decide (x13_3 < a2) = false := decide_eq_false c16
                        clear c16
                        obtain rfl := Option.some.inj H
                        go_wp2
                        go_ret
                        exact ⟨_, by first | rfl | (simp [errW_none, errW_some] <;> rfl) | (simp [*, errW_none, errW_some] <;> rfl), by (with_reducible repeat (first | apply Kd.N_alloc | apply Kd.N_drewN | apply Kd.N_drew)); exact HO_11.out, by repeat (first | (with_reducible first | exact HB.out | apply below_alloc | apply pw_below_drewN | apply below_drew1) | exact HB.out)⟩
                · rw [if_neg c15] at H
                  have c15b0 : decide (1 < a2) = false := decide_eq_false c15
                  clear c15
                  obtain rfl := Option.some.inj H
                  go_wp2
                  go_ret
                  exact ⟨_, by first | rfl | (simp [errW_none, errW_some] <;> rfl) | (simp [*, errW_none, errW_some] <;> rfl), by (with_reducible repeat (first | apply Kd.N_alloc | apply Kd.N_drewN | apply Kd.N_drew)); exact HO_11.out, by repeat (first | (with_reducible first | exact HB.out | apply below_alloc | apply pw_below_drewN | apply below_drew1) | exact HB.out)⟩
  · rw [if_neg c6] at H
    exact absurd H (by simp)

/-! ### table_ZzSpan: function 20 -/
def table_ZzSpan.l0 : Nat → List (S42) → List (S50) → Int → Int → Option ((List (S42)))
  | 0, _, _, _, _ => none
  | k + 1, x11, x19, x20, x21 => if x21 < x20 then (if 0 ≤ x21 then (if x21 < (x19.length : Int) then (if x11.length < 3518437208883 then (table_ZzSpan.l0 k (x11 ++ [(⟨(rd_T50 x19 x21).f0, (rd_T50 x19 x21).f1, (rd_T50 x19 x21).f2⟩ : S42)]) x19 x20 (wrap64 (x21 + 1))) else (none)) else (none)) else (none)) else (some x11)
def table_ZzSpan.f (k : Nat) (a0 : Int) (a1 : Int) (a2 : Int) (a3 : Int) (l4 : List Int) : Option ((List (S42))) := (table_calculateModifications.f k a0 a1 a2 a3 l4).bind fun t110 => (table_ZzSpan.l0 k ([] : List (S42)) t110 (t110.length : Int) 0)
theorem table_ZzSpan.mono_l : ∀ k, (∀ y0 y1 y2 y3, LeO (table_ZzSpan.l0 k y0 y1 y2 y3) (table_ZzSpan.l0 (k + 1) y0 y1 y2 y3))
  | 0 => fun _ _ _ _ r h => by simp [table_ZzSpan.l0] at h
  | k + 1 => by
    have ih0 := table_ZzSpan.mono_l k
    · intro y0 y1 y2 y3
      unfold table_ZzSpan.l0
      repeat' first
      | (with_reducible exact ih0 _ _ _ _)
      | (with_reducible exact table_calculateModifications.mono _ _ _ _ _ _)
      | (with_reducible exact LeO.refl _)
      | (with_reducible exact LeO.none _)
      | (with_reducible refine LeO.ite ?_ ?_)
      | (with_reducible refine LeO.bind ?_ (fun _ => ?_))
      | exact ih0 _ _ _ _
      | exact table_calculateModifications.mono _ _ _ _ _ _
      | exact LeO.none _
      | refine LeO.ite ?_ ?_
      | refine LeO.bind ?_ (fun _ => ?_)
theorem table_ZzSpan.mono : ∀ a0 a1 a2 a3 a4 k, LeO (table_ZzSpan.f k a0 a1 a2 a3 a4) (table_ZzSpan.f (k + 1) a0 a1 a2 a3 a4) := by
  intro a0 a1 a2 a3 a4 k
  have ih0 := table_ZzSpan.mono_l k
  unfold table_ZzSpan.f
  repeat' first
      | (with_reducible exact ih0 _ _ _ _)
      | (with_reducible exact table_calculateModifications.mono _ _ _ _ _ _)
      | (with_reducible exact LeO.refl _)
      | (with_reducible exact LeO.none _)
      | (with_reducible refine LeO.ite ?_ ?_)
      | (with_reducible refine LeO.bind ?_ (fun _ => ?_))
      | exact ih0 _ _ _ _
      | exact table_calculateModifications.mono _ _ _ _ _ _
      | exact LeO.none _
      | refine LeO.ite ?_ ?_
      | refine LeO.bind ?_ (fun _ => ?_)
set_option maxHeartbeats 8000000 in
set_option maxRecDepth 100000 in
theorem table_ZzSpan.calls (k : Nat) (a0 : Int) (a1 : Int) (a2 : Int) (a3 : Int) (P4_ : Nat → Prop) (A4 : Option Addr) (c4 : Nat) (l4 : List Int) (r : List (S42)) (w : World) (hs4 : Kd.V (Kd.int .u8) 5 w w.heap.size (fun k_ => P4_ k_) (.slice A4 l4.length c4) l4) (h : table_ZzSpan.f k a0 a1 a2 a3 l4 = some r) :
    Calls Try.prog 20 #[.int .i64 a0, .int .i64 a1, .int .i64 a2, .int .i64 a3, .slice A4 l4.length c4] w fun e w' => ∃ v0_ : Value, e = .returned (v0_) ∧ Kd.N k42 42 w' w.heap.size (fun k_ => (P4_ k_ ∨ w.heap.size ≤ k_)) v0_ r ∧ Below w.heap.size w w' := by
  have hu50 := Try.underlying50
  have hu42 := Try.underlying42
  have HO4 := Aside0.mk (show Kd.V (Kd.int .u8) 5 w w.heap.size (fun k_ => (P4_ k_ ∨ w.heap.size ≤ k_)) (.slice A4 l4.length c4) l4 from Kd.V_mono hs4 (fun k_ hk => .inl hk))
  have HB := Aside0.mk (Below.refl w.heap.size w)
  have H : ((table_calculateModifications.f k a0 a1 a2 a3 l4).bind fun t110 => (table_ZzSpan.l0 k ([] : List (S42)) t110 (t110.length : Int) 0)) = some r := h
  clear h
  replace H := Option.bind_eq_some_iff.mp H
  obtain ⟨t110, A60, H⟩ := H
  replace H : (table_ZzSpan.l0 k ([] : List (S42)) t110 (t110.length : Int) 0) = some r := H
  have A6 := Aside0.mk A60
  clear A60
  have H' := Aside0.mk H
  clear H
  go_enter Try.func20, Try.ntmps20
  go_wp2_with (first | ((with_reducible refine gate_callee (f := 27) rfl ?_); refine goesL_ (some 19) rfl rfl Try.func27 (by kernel_rfl) rfl #[.int .i64 a0, .int .i64 a1, .int .i64 a2, .int .i64 a3, .slice A4 l4.length c4] rfl (by (try simp only [List.map_toArray, List.map_cons, List.map_nil]); first | done | rfl | (simp only [List.length_drop, List.length_take]; rfl)) ?_; (with_reducible refine (table_calculateModifications.calls k a0 a1 a2 a3 (fun k_ => (P4_ k_ ∨ w.heap.size ≤ k_)) _ _ l4 t110 _ ?side1 A6.out).mono ?_); (case side1 => exact HO4.out); rintro e w7 ⟨v111, rfl, ho0, hb⟩; refine ⟨_, rfl, ?_⟩; have n0_ := Aside0.mk (Kd.V_elder' (by (with_reducible repeat (first | apply Kd.V_alloc | apply Kd.V_drewN | apply Kd.V_drew)); exact HO4.out) (Kd.N_base ho0) hb); have n1_ := Aside0.mk (Kd.N_lower (Kd.N_mono (ok' := fun k_ => (P4_ k_ ∨ w.heap.size ≤ k_)) ho0 (fun k_ hk_ => Or.elim hk_ (fun hs_ => hs_) (fun hn_ => (.inr (Nat.le_trans (below_size (by repeat (first | (with_reducible first | exact HB.out | apply below_alloc | apply pw_below_drewN | apply below_drew1) | exact HB.out))) hn_))))) (below_size (by repeat (first | (with_reducible first | exact HB.out | apply below_alloc | apply pw_below_drewN | apply below_drew1) | exact HB.out)))); have n2_ := Aside0.mk (below_step (by repeat (first | (with_reducible first | exact HB.out | apply below_alloc | apply pw_below_drewN | apply below_drew1) | exact HB.out)) hb); clear HO4; clear HB; have HO4 := n0_; have HO112 := n1_; have HB := n2_; clear n0_ n1_ n2_; (try clear hb); (try clear hb2); (try clear hk); (try clear hi); (try clear ho0); obtain ⟨Ao8, co8, eo8⟩ := Kd.N_slice HO112.out; subst eo8))
  go_loopg [11, 21] k (fun kq v11 v21 w' => ∃ (x11_1 : List (S42)) (x21_1 : Int), v21 = .int .i64 x21_1 ∧ Aside0 (table_ZzSpan.l0 kq x11_1 t110 (t110.length : Int) x21_1 = some r) ∧ Aside0 (kq ≤ k) ∧ Aside0 (Kd.N k42 42 w' w.heap.size (fun k_ => (P4_ k_ ∨ w.heap.size ≤ k_) ∧ some k_ ≠ ((.slice Ao8 t110.length co8) : Value).ownBlock) v11 x11_1) ∧ Aside0 (Kd.N k50 50 w' w.heap.size (fun k_ => (P4_ k_ ∨ w.heap.size ≤ k_) ∧ some k_ ≠ (v11 : Value).ownBlock) (.slice Ao8 t110.length co8) t110) ∧ Aside0 (Below w.heap.size w w'))
  case atStart => exact ⟨(([] : List (S42))), (0), (by first | rfl | (simp; done) | (simp [*]; done)), H', ⟨Nat.le_refl _⟩, ⟨by first | exact Kd.S_nil _ _ _ _ _ | exact Kd.N_nil _ _ _ _ _ | exact Kd.V_nil _ _ _ _ _ | exact Kd.Q_nil _ _ _ _ _ | exact Kd.R_nil _ _ _ _ _⟩, ⟨by (with_reducible repeat (first | apply Kd.N_alloc | apply Kd.N_drewN | apply Kd.N_drew)); exact Kd.N_mono HO112.out (fun _ hk => ⟨hk, (by simp [Value.ownBlock])⟩)⟩, ⟨by repeat (first | (with_reducible first | exact HB.out | apply below_alloc | apply pw_below_drewN | apply below_drew1) | exact HB.out)⟩⟩
  case round =>
    clear H'
    try clear c2
    try clear p2
    try clear c4
    obtain ⟨x11_1, x21_1, rfl, HA, HK1, HO_11, HO_19, HB⟩ := hrel
    cases gk with
    | zero => exact absurd HA.out (by simp [table_ZzSpan.l0])
    | succ k1 =>
      have H := HA.out
      clear HA
      simp only [table_ZzSpan.l0] at H
      by_cases c9 : x21_1 < (t110.length : Int)
      · rw [if_pos c9] at H
        have c9b0 : decide (x21_1 < (t110.length : Int)) = true := decide_eq_true c9
        clear c9
        by_cases c10 : 0 ≤ x21_1
        · rw [if_pos c10] at H
          have c10b0 : decide (0 ≤ x21_1) = true := decide_eq_true c10
          clear c10
          by_cases c11 : x21_1 < (t110.length : Int)
          · rw [if_pos c11] at H
            have c11b0 : decide (x21_1 < (t110.length : Int)) = true := decide_eq_true c11
            clear c11
            by_cases c12 : x11_1.length < 3518437208883
            · rw [if_pos c12] at H
              have LMc12 := Aside0.mk c12
              clear c12
              obtain ⟨y115, hy115⟩ : ∃ y_ : List (S42), y_ = (x11_1 ++ [(⟨(rd_T50 t110 x21_1).f0, (rd_T50 t110 x21_1).f1, (rd_T50 t110 x21_1).f2⟩ : S42)]) := ⟨_, rfl⟩
              replace H : (table_ZzSpan.l0 k1 y115 t110 (t110.length : Int) (wrap64 (x21_1 + 1))) = some r := by first | (rw [hy115]; with_reducible exact H) | (have H2_ := (Option.bind_some _ _).symm.trans H; rw [hy115]; with_reducible exact H2_) | (have H2_ := (Option.bind_some _ _).symm.trans H; with_reducible exact H2_) | with_reducible exact H | (rw [hy115]; exact H) | exact H
              have Ny115 := Aside0.mk hy115
              clear hy115
              have H' := Aside0.mk H
              clear H
              have p113 : 0 ≤ (x21_1 : Int) := of_decide_eq_true (by first | (with_reducible assumption) | assumption)
              have q113 : x21_1 < (t110.length : Int) := of_decide_eq_true (by first | (with_reducible assumption) | assumption)
              obtain ⟨ad113, A113_2, c113_2, e113, hx113_0, hx113_1, hx113_2, hl113_2, hi113_2⟩ := at_T50 (Kd.N_reads' HO_19.out).2.2 x21_1 p113 q113
              cases e113
              obtain ⟨ce113, hce113, hMe113, hcc113⟩ := Kd.N_get HO_19.out z50 x21_1 p113 (by first | exact q113 | exact of_decide_eq_true (by first | (with_reducible assumption) | assumption) | (have e_ := (Kd.N_reads' HO_19.out).1; omega))
              obtain ⟨ua113_2, uc113_2, rfl, ul113_2, ge113_2⟩ := k50_openF hMe113
              have hv113_2 := hcc113 2 _ rfl
              rw [add_field _ _ 2 (by omega)] at hv113_2
              replace hv113_2 := Option.some.inj (hv113_2.symm.trans hx113_2)
              injection hv113_2 with hva_ hvn_ hvc_
              rw [hva_] at ge113_2
              rw [hvc_] at ul113_2
              have HL113_2 := Aside0.mk (show Kd.V (Kd.int .u8) 5 _ w.heap.size _ _ ((rd_T50 t110 x21_1).f2) from Kd.V_mk ul113_2 ge113_2)
              clear hva_ hvn_ hvc_ ge113_2 ul113_2
              clear hcc113 hce113
              have HR113_2 := Aside0.mk hi113_2
              have HC113_2 := Aside0.mk hl113_2
              clear hi113_2 hl113_2
              replace p113 := eq_true p113
              replace q113 := eq_true q113
              go_wp2_with (first | ((with_reducible refine gate_dst (N := 13) rfl ?_); refine box_event ?hg (N := 13) ?hd (cs := #[.int .i64 0, .int .i64 0, .slice none 0 0]) (t := 50) ?hr ?_; (case hd => rfl); (case hg => rfl); (case hr => first | (go_simp; done) | (go_simp; rfl)); intro gb114 hg w13 hbox hb; have n0_ := Aside0.mk (Kd.N_below (Kd.N_elderB (by (with_reducible repeat (first | apply Kd.N_alloc | apply Kd.N_drewN | apply Kd.N_drew)); exact HO_11.out) gb114 (Nat.le_of_eq hg.symm)) hb); have n1_ := Aside0.mk (Kd.N_below (Kd.N_elderB (by (with_reducible repeat (first | apply Kd.N_alloc | apply Kd.N_drewN | apply Kd.N_drew)); exact HO_19.out) gb114 (Nat.le_of_eq hg.symm)) hb); have n2_ := Aside0.mk (Kd.V_below (Kd.V_elderB (by (with_reducible repeat (first | apply Kd.V_alloc | apply Kd.V_drewN | apply Kd.V_drew)); exact HL113_2.out) gb114 (Nat.le_of_eq hg.symm)) hb); have n3_ := Aside0.mk (Kd.C_below (by repeat (first | (with_reducible exact HR113_2.out) | (with_reducible refine Kd.C_alloc ?_ _) | (with_reducible refine Kd.C_drewN ?_ _) | (with_reducible refine Kd.C_drew ?_) | exact HR113_2.out)) hb); have n4_ := Aside0.mk (below_step (by repeat (first | (with_reducible first | exact HB.out | apply below_alloc | apply pw_below_drewN | apply below_drew1) | exact HB.out)) hb); have n5_ := Aside0.mk (hbox); have n6_ := Aside0.mk ((by rw [hg]; exact (below_size (by repeat (first | (with_reducible first | exact HB.out | apply below_alloc | apply pw_below_drewN | apply below_drew1) | exact HB.out))) : w.heap.size ≤ gb114)); have n7_ := Aside0.mk ((by rw [hg]; exact (below_size (by repeat (first | (with_reducible first | exact HB.out | apply below_alloc | apply pw_below_drewN | apply below_drew1) | exact HB.out))) : w.heap.size ≤ gb114)); clear HO_11; clear HO_19; clear HL113_2; clear HR113_2; clear HB; have HO_11 := n0_; have HO_19 := n1_; have HL113_2 := n2_; have HR113_2 := n3_; have HB := n4_; have BK114 := n5_; have GW114 := n6_; have GE114 := n7_; clear n0_ n1_ n2_ n3_ n4_ n5_ n6_ n7_; clear hb hbox hg; have hcz14_0 : w13.cell? ⟨gb114, 0, none⟩ = some (.int .i64 0) := (blk_cell BK114.out 0).trans rfl; have hcz14_1 : w13.cell? ⟨gb114, 1, none⟩ = some (.int .i64 0) := (blk_cell BK114.out 1).trans rfl; have hcz14_2 : w13.cell? ⟨gb114, 2, none⟩ = some (.slice none 0 0) := (blk_cell BK114.out 2).trans rfl; have hfz14_0 := blk_frozen BK114.out 0; have hfz14_1 := blk_frozen BK114.out 1; have hfz14_2 := blk_frozen BK114.out 2) | ((with_reducible refine gate_store (t := 50) (p := 13) rfl ?_); refine store_event (t := 50) (p := 13) (v := ?vo_w15) (w1 := (((w13.setCell ⟨gb114, 0, none⟩ (.int .i64 ((rd_T50 t110 x21_1).f0))).setCell ⟨gb114, 1, none⟩ (.int .i64 ((rd_T50 t110 x21_1).f1))).setCell ⟨gb114, 2, none⟩ (.slice A113_2 ((rd_T50 t110 x21_1).f2).length c113_2))) ?hg ?ho ?hn ?hr ?_; (case ho => rfl); (case hg => rfl); (case hn => rfl); (case hr => first | (go_simp; done) | (go_simp; rfl)); intro w15 hw; have n0_ : Aside0 (Kd.N k42 42 w15 w.heap.size (fun k_ => (P4_ k_ ∨ w.heap.size ≤ k_) ∧ some k_ ≠ (.slice (some ad113) t110.length co8 : Value).ownBlock ∧ k_ ≠ gb114) u11 x11_1) := ⟨(by rw [hw]; exact (by (with_reducible repeat (first | apply Kd.N_alloc | apply Kd.N_drewN | apply Kd.N_drew)); exact Kd.N_mono (Kd.N_far (p := ⟨gb114, 2, none⟩) (Kd.N_far (p := ⟨gb114, 1, none⟩) (Kd.N_far (p := ⟨gb114, 0, none⟩) (Kd.N_mono HO_11.out (fun k_ hk => (⟨hk, hk.2⟩ : _ ∧ k_ ≠ gb114))) (fun _ hk => hk.2) (.int .i64 ((rd_T50 t110 x21_1).f0))) (fun _ hk => hk.2) (.int .i64 ((rd_T50 t110 x21_1).f1))) (fun _ hk => hk.2) (.slice A113_2 ((rd_T50 t110 x21_1).f2).length c113_2)) (fun _ hk => ⟨hk.1.1.1, ⟨hk.1.1.2, hk.1.2⟩⟩)))⟩; have n1_ : Aside0 (Kd.N k50 50 w15 w.heap.size (fun k_ => (P4_ k_ ∨ w.heap.size ≤ k_) ∧ some k_ ≠ (u11 : Value).ownBlock ∧ k_ ≠ gb114) (.slice (some ad113) t110.length co8) t110) := ⟨(by rw [hw]; exact (by (with_reducible repeat (first | apply Kd.N_alloc | apply Kd.N_drewN | apply Kd.N_drew)); exact Kd.N_mono (Kd.N_far (p := ⟨gb114, 2, none⟩) (Kd.N_far (p := ⟨gb114, 1, none⟩) (Kd.N_far (p := ⟨gb114, 0, none⟩) (Kd.N_mono HO_19.out (fun k_ hk => (⟨hk, hk.2⟩ : _ ∧ k_ ≠ gb114))) (fun _ hk => hk.2) (.int .i64 ((rd_T50 t110 x21_1).f0))) (fun _ hk => hk.2) (.int .i64 ((rd_T50 t110 x21_1).f1))) (fun _ hk => hk.2) (.slice A113_2 ((rd_T50 t110 x21_1).f2).length c113_2)) (fun _ hk => ⟨hk.1.1.1, ⟨hk.1.1.2, hk.1.2⟩⟩)))⟩; have n2_ : Aside0 (Kd.V (Kd.int .u8) 5 w15 w.heap.size (fun k_ => (P4_ k_ ∨ w.heap.size ≤ k_) ∧ some k_ ≠ (u11 : Value).ownBlock ∧ some k_ ≠ (.slice (some ad113) t110.length co8 : Value).ownBlock ∧ k_ ≠ gb114) (.slice A113_2 ((rd_T50 t110 x21_1).f2).length c113_2) ((rd_T50 t110 x21_1).f2)) := ⟨(by rw [hw]; exact (by (with_reducible repeat (first | apply Kd.V_alloc | apply Kd.V_drewN | apply Kd.V_drew)); exact Kd.V_mono (Kd.V_far (p := ⟨gb114, 2, none⟩) (Kd.V_far (p := ⟨gb114, 1, none⟩) (Kd.V_far (p := ⟨gb114, 0, none⟩) (Kd.V_mono HL113_2.out (fun k_ hk => (⟨hk, hk.2⟩ : _ ∧ k_ ≠ gb114))) (fun _ hk => hk.2) (.int .i64 ((rd_T50 t110 x21_1).f0))) (fun _ hk => hk.2) (.int .i64 ((rd_T50 t110 x21_1).f1))) (fun _ hk => hk.2) (.slice A113_2 ((rd_T50 t110 x21_1).f2).length c113_2)) (fun _ hk => ⟨hk.1.1.1.1, ⟨hk.1.1.1.2, ⟨hk.1.1.2, hk.1.2⟩⟩⟩)))⟩; have n3_ : Aside0 (w15.heap[gb114]? = some (.cells #[.int .i64 ((rd_T50 t110 x21_1).f0), .int .i64 ((rd_T50 t110 x21_1).f1), .slice A113_2 ((rd_T50 t110 x21_1).f2).length c113_2] 50 (0, 0))) := ⟨(by rw [hw]; exact (by (with_reducible repeat (first | refine blk_drewN ?_ _ | refine blk_drew ?_ | refine blk_alloc ?_ _)); refine blk_put (cs := #[.int .i64 ((rd_T50 t110 x21_1).f0), .int .i64 ((rd_T50 t110 x21_1).f1), .slice none 0 0]) ?_ 2 _ rfl; (with_reducible repeat (first | refine blk_drewN ?_ _ | refine blk_drew ?_ | refine blk_alloc ?_ _)); refine blk_put (cs := #[.int .i64 ((rd_T50 t110 x21_1).f0), .int .i64 0, .slice none 0 0]) ?_ 1 _ rfl; (with_reducible repeat (first | refine blk_drewN ?_ _ | refine blk_drew ?_ | refine blk_alloc ?_ _)); refine blk_put (cs := #[.int .i64 0, .int .i64 0, .slice none 0 0]) ?_ 0 _ rfl; (with_reducible repeat (first | refine blk_drewN ?_ _ | refine blk_drew ?_ | refine blk_alloc ?_ _)); exact BK114.out))⟩; have n4_ : Aside0 (Below w.heap.size w w15) := ⟨(by rw [hw]; exact (by repeat (first | (with_reducible first | exact HB.out | apply below_alloc | apply pw_below_drewN | apply below_drew1 | refine below_set ?_ GE114.out) | exact HB.out)))⟩; clear hw; clear HO_11; clear HO_19; clear HL113_2; clear BK114; clear HB; have HO_11 := n0_; have HO_19 := n1_; have HL113_2 := n2_; have BK114 := n3_; have HB := n4_; clear n0_ n1_ n2_ n3_ n4_; have hcz16_0 : w15.cell? ⟨gb114, 0, none⟩ = some (.int .i64 ((rd_T50 t110 x21_1).f0)) := (blk_cell BK114.out 0).trans rfl; have hcz16_1 : w15.cell? ⟨gb114, 1, none⟩ = some (.int .i64 ((rd_T50 t110 x21_1).f1)) := (blk_cell BK114.out 1).trans rfl; have hcz16_2 : w15.cell? ⟨gb114, 2, none⟩ = some (.slice A113_2 ((rd_T50 t110 x21_1).f2).length c113_2) := (blk_cell BK114.out 2).trans rfl; have hfz16_0 := blk_frozen BK114.out 0; have hfz16_1 := blk_frozen BK114.out 1; have hfz16_2 := blk_frozen BK114.out 2) | ((with_reducible refine gate_builtin (b := .append) (xs := #[.tmp 25, .tmp 33]) rfl ?_); at_builtin; refine Kd.N_append k42 (w0 := w) w.heap.size rfl (.tmp 25) (.tmp 33) 39 42 (.agg #[(.int .i64 0), (.int .i64 0), (.slice none 0 0)]) 40 rfl Try.underlying39 info42 rfl (by decide) (by omega) u11 x11_1 (⟨(rd_T50 t110 x21_1).f0, (rd_T50 t110 x21_1).f1, (rd_T50 t110 x21_1).f2⟩ : S42) [.int .i64 ((rd_T50 t110 x21_1).f0), .int .i64 ((rd_T50 t110 x21_1).f1), .slice A113_2 ((rd_T50 t110 x21_1).f2).length c113_2] (fun k_ => (P4_ k_ ∨ w.heap.size ≤ k_) ∧ some k_ ≠ (.slice (some ad113) t110.length co8 : Value).ownBlock ∧ k_ ≠ gb114) (fun k_ => ((fun k_ => (P4_ k_ ∨ w.heap.size ≤ k_) ∧ some k_ ≠ (.slice (some ad113) t110.length co8 : Value).ownBlock ∧ k_ ≠ gb114)) k_ ∧ some k_ ≠ (u11 : Value).ownBlock) rfl rfl ?aP (fun _ hk => hk) ?aF ?aO ?aB ?aS ?aL ?_; (case aP => exact (k42_mkF _ _ (⟨(rd_T50 t110 x21_1).f0, (rd_T50 t110 x21_1).f1, (rd_T50 t110 x21_1).f2⟩ : S42) (Kd.V_reads' (Kd.V_mono (ok' := (fun k_ => ((fun k_ => (P4_ k_ ∨ w.heap.size ≤ k_) ∧ some k_ ≠ (.slice (some ad113) t110.length co8 : Value).ownBlock ∧ k_ ≠ gb114)) k_ ∧ some k_ ≠ (u11 : Value).ownBlock)) (HL113_2.out) (fun k_ hk => ⟨⟨hk.1, ⟨hk.2.2.1, hk.2.2.2⟩⟩, hk.2.1⟩))).2.1 (Kd.V_F (Kd.V_mono (ok' := (fun k_ => ((fun k_ => (P4_ k_ ∨ w.heap.size ≤ k_) ∧ some k_ ≠ (.slice (some ad113) t110.length co8 : Value).ownBlock ∧ k_ ≠ gb114)) k_ ∧ some k_ ≠ (u11 : Value).ownBlock)) (HL113_2.out) (fun k_ hk => ⟨⟨hk.1, ⟨hk.2.2.1, hk.2.2.2⟩⟩, hk.2.1⟩))))); (case aB => exact (by repeat (first | (with_reducible first | exact HB.out | apply below_alloc | apply pw_below_drewN | apply below_drew1 | refine below_set ?_ GE114.out) | exact HB.out))); (case aF => exact (fun k_ hk => ⟨(.inr (Nat.le_trans (below_size (by repeat (first | (with_reducible first | exact HB.out | apply below_alloc | apply pw_below_drewN | apply below_drew1 | refine below_set ?_ GE114.out) | exact HB.out))) hk)), Kd.fresh' (Kd.N_lt (by (with_reducible repeat (first | apply Kd.N_alloc | apply Kd.N_drewN | apply Kd.N_drew)); exact HO_19.out)) k_ hk, Kd.freshB (g := gb114) (o := .cells #[.int .i64 ((rd_T50 t110 x21_1).f0), .int .i64 ((rd_T50 t110 x21_1).f1), .slice A113_2 ((rd_T50 t110 x21_1).f2).length c113_2] 50 (0, 0)) (by (with_reducible repeat (first | refine blk_drewN ?_ _ | refine blk_drew ?_ | refine blk_alloc ?_ _)); exact BK114.out) k_ hk⟩)); (case aO => exact (by (with_reducible repeat (first | apply Kd.N_alloc | apply Kd.N_drewN | apply Kd.N_drew)); exact HO_11.out)); (case aS => exact (below_size (by repeat (first | (with_reducible first | exact HB.out | apply below_alloc | apply pw_below_drewN | apply below_drew1 | refine below_set ?_ GE114.out) | exact HB.out)))); (case aL => have := LMc12.out; omega); intro v116 w17 ho hb hg hat; rw [← Ny115.out] at ho; have n0_ := Aside0.mk (Kd.N_afterv (ok := (fun k_ => (P4_ k_ ∨ w.heap.size ≤ k_) ∧ k_ ≠ gb114)) (by (with_reducible repeat (first | apply Kd.N_alloc | apply Kd.N_drewN | apply Kd.N_drew)); exact Kd.N_mono HO_19.out (fun _ hk => ⟨⟨hk.1, hk.2.2⟩, hk.2.1⟩)) hg hat); have n1_ := Aside0.mk (Kd.V_afterv (ok := (fun k_ => (P4_ k_ ∨ w.heap.size ≤ k_) ∧ some k_ ≠ (.slice (some ad113) t110.length co8 : Value).ownBlock ∧ k_ ≠ gb114)) (by (with_reducible repeat (first | apply Kd.V_alloc | apply Kd.V_drewN | apply Kd.V_drew)); exact Kd.V_mono HL113_2.out (fun _ hk => ⟨⟨hk.1, ⟨hk.2.2.1, hk.2.2.2⟩⟩, hk.2.1⟩)) hg hat); have n2_ := Aside0.mk (blk_grown (g := gb114) (o := .cells #[.int .i64 ((rd_T50 t110 x21_1).f0), .int .i64 ((rd_T50 t110 x21_1).f1), .slice A113_2 ((rd_T50 t110 x21_1).f2).length c113_2] 50 (0, 0)) (by (with_reducible repeat (first | refine blk_drewN ?_ _ | refine blk_drew ?_ | refine blk_alloc ?_ _)); exact BK114.out) hg (Kd.N_ne HO_11.out BK114.out (by decide))); have n3_ := Aside0.mk (hb); have n4_ := Aside0.mk (ho); clear HO_19; clear HL113_2; clear BK114; clear HB; clear HO_11; have HO_19 := n0_; have HL113_2 := n1_; have BK114 := n2_; have HB := n3_; have HO117 := n4_; clear n0_ n1_ n2_ n3_ n4_; clear ho hb hg hat))
              go_roundg k1
              case measure => have := HK1.out; omega
              case rel => exact ⟨(y115), (wrap64 (x21_1 + 1)), (by first | rfl | (simp; done) | (simp [*]; done)), H', ⟨by have := HK1.out; omega⟩, ⟨by (with_reducible repeat (first | apply Kd.N_alloc | apply Kd.N_drewN | apply Kd.N_drew)); exact Kd.N_mono HO117.out (fun _ hk => ⟨hk.1, hk.2.1⟩)⟩, ⟨by (with_reducible repeat (first | apply Kd.N_alloc | apply Kd.N_drewN | apply Kd.N_drew)); exact Kd.N_mono HO_19.out (fun _ hk => ⟨hk.1.1, hk.2⟩)⟩, ⟨by repeat (first | (with_reducible first | exact HB.out | apply below_alloc | apply pw_below_drewN | apply below_drew1 | refine below_set ?_ GE114.out) | exact HB.out)⟩⟩
            · rw [if_neg c12] at H
              exact absurd H (by simp)
          · rw [if_neg c11] at H
            exact absurd H (by simp)
        · rw [if_neg c10] at H
          exact absurd H (by simp)
      · rw [if_neg c9] at H
        have c9b0 : decide (x21_1 < (t110.length : Int)) = false := decide_eq_false c9
        clear c9
        obtain rfl := Option.some.inj H
        go_wp2
        go_ret
        exact ⟨_, by first | rfl | (simp [errW_none, errW_some] <;> rfl) | (simp [*, errW_none, errW_some] <;> rfl), by (with_reducible repeat (first | apply Kd.N_alloc | apply Kd.N_drewN | apply Kd.N_drew)); exact Kd.N_mono HO_11.out (fun _ hk => hk.1), by repeat (first | (with_reducible first | exact HB.out | apply below_alloc | apply pw_below_drewN | apply below_drew1) | exact HB.out)⟩



end Go.Proofs.Ytgkdpjlmklhjaaa.PFnSpan
