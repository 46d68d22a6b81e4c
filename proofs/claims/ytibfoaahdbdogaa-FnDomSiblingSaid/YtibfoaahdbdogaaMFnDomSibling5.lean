/- A part of the proof of FnDomSibling: EDomx7, EDomx1, AllY, FLiving, At29, Living, SibM, SibY, one behind the other. -/
import Derived.Test.YtibfoaahdbdogaaMFnDomSibling2
import Derived.Test.YtibfoaahdbdogaaMFnDomSibling3
import Derived.Test.YtibfoaahdbdogaaMFnDomSibling4
/- Printed by the program extprint.py of this session, out of the kit's print and contracts of this session's own; Lean checks it. -/
namespace Go.Proofs.Ytibfoaahdbdogaa.PDom
open Go.RowKit Go.Proofs.YtibfoaahdbdogaaW.PrintWords Go.Proofs.YtibfoaahdbdogaaW.PrintLast Go.Proofs.YtibfoaahdbdogaaW.PrintMore
attribute [local go_sem] max2_int min2_int max_two min_two max_three min_three max_four min_four   -- for this text's walks alone
set_option linter.unusedVariables false
set_option linter.unusedSimpArgs false

/-! ### spec_Beside29: function 25 -/
mutual
def spec_Beside29.l0 : Nat → List Int → Int → Bool → Int → Int → Int → ByteArray → ByteArray → List (S78) → List (S25) → Option (List Int × Bool)
  | 0, _, _, _, _, _, _, _, _, _, _ => none
  | k + 1, x1, x2, x3, x10, x13, x282000, x282001, x282002, x282003, x282004 => if x13 ≥ 0 then (spec_Beside29.j1 k x1 x2 x3 x10 x13 (decide (x13 < (x282004.length : Int))) x282000 x282001 x282002 x282003 x282004) else (spec_Beside29.j1 k x1 x2 x3 x10 x13 false x282000 x282001 x282002 x282003 x282004)
def spec_Beside29.j1 : Nat → List Int → Int → Bool → Int → Int → Bool → Int → ByteArray → ByteArray → List (S78) → List (S25) → Option (List Int × Bool)
  | 0, _, _, _, _, _, _, _, _, _, _, _ => none
  | k + 1, x1, x2, x3, x10, x13, x42, x282000, x282001, x282002, x282003, x282004 => if x42 = true then (if 0 ≤ x13 then (if x13 < (x282004.length : Int) then ((spec_among29.f ((rd_T25 x282004 x13).f0) ((rd_T25 x282004 x13).f1) ((rd_T25 x282004 x13).f2) ((rd_T25 x282004 x13).f3) ((rd_T25 x282004 x13).f4) x3).bind fun t284 => (if t284 = true then (if 0 ≤ x10 then (if x10 ≤ (x1.length : Int) then ((spec_Under29.f (x1.take (x10 : Int).toNat) x13).bind fun t286 => (some (t286, true))) else (none)) else (none)) else (spec_Beside29.l0 k x1 x2 x3 x10 (wrap64 (x13 + x2)) x282000 x282001 x282002 x282003 x282004))) else (none)) else (none)) else (some (([] : List Int), false))
end
def spec_Beside29.f (k : Nat) (a0_0 : Int) (a0_1 : ByteArray) (a0_2 : ByteArray) (l0_3 : List (S78)) (l0_4 : List (S25)) (l1 : List Int) (a2 : Int) (a3 : Bool) : Option (List Int × Bool) := if (l1.length : Int) = 0 then (some (([] : List Int), false)) else (if 0 ≤ (wrap64 ((l1.length : Int) - 1)) then (if (wrap64 ((l1.length : Int) - 1)) ≤ (l1.length : Int) then ((spec_At29.f k a0_0 a0_1 a0_2 l0_3 l0_4 (l1.take ((wrap64 ((l1.length : Int) - 1)) : Int).toNat)).bind fun bt271 => (if (wrap64 ((l1.length : Int) - 1)) < (l1.length : Int) then (spec_Beside29.l0 k l1 a2 a3 (wrap64 ((l1.length : Int) - 1)) (wrap64 ((rd l1 (wrap64 ((l1.length : Int) - 1))) + a2)) bt271.1 bt271.2.1 bt271.2.2.1 bt271.2.2.2.1 bt271.2.2.2.2.1) else (none))) else (none)) else (none))
theorem spec_Beside29.mono_l : ∀ k, (∀ y0 y1 y2 y3 y4 y5 y6 y7 y8 y9, LeO (spec_Beside29.l0 k y0 y1 y2 y3 y4 y5 y6 y7 y8 y9) (spec_Beside29.l0 (k + 1) y0 y1 y2 y3 y4 y5 y6 y7 y8 y9)) ∧ (∀ y0 y1 y2 y3 y4 y5 y6 y7 y8 y9 y10, LeO (spec_Beside29.j1 k y0 y1 y2 y3 y4 y5 y6 y7 y8 y9 y10) (spec_Beside29.j1 (k + 1) y0 y1 y2 y3 y4 y5 y6 y7 y8 y9 y10))
  | 0 => ⟨fun _ _ _ _ _ _ _ _ _ _ r h => by simp [spec_Beside29.l0] at h, fun _ _ _ _ _ _ _ _ _ _ _ r h => by simp [spec_Beside29.j1] at h⟩
  | k + 1 => by
    obtain ⟨ih0, ih1⟩ := spec_Beside29.mono_l k
    refine ⟨?_, ?_⟩
    · intro y0 y1 y2 y3 y4 y5 y6 y7 y8 y9
      unfold spec_Beside29.l0
      repeat' first
      | (with_reducible exact ih0 _ _ _ _ _ _ _ _ _ _)
      | (with_reducible exact ih1 _ _ _ _ _ _ _ _ _ _ _)
      | (with_reducible exact spec_At29.mono _ _ _ _ _ _ _)
      | (with_reducible exact LeO.refl _)
      | (with_reducible exact LeO.none _)
      | (with_reducible refine LeO.ite ?_ ?_)
      | (with_reducible refine LeO.bind ?_ (fun _ => ?_))
      | exact ih0 _ _ _ _ _ _ _ _ _ _
      | exact ih1 _ _ _ _ _ _ _ _ _ _ _
      | exact spec_At29.mono _ _ _ _ _ _ _
      | exact LeO.none _
      | refine LeO.ite ?_ ?_
      | refine LeO.bind ?_ (fun _ => ?_)
    · intro y0 y1 y2 y3 y4 y5 y6 y7 y8 y9 y10
      unfold spec_Beside29.j1
      repeat' first
      | (with_reducible exact ih0 _ _ _ _ _ _ _ _ _ _)
      | (with_reducible exact ih1 _ _ _ _ _ _ _ _ _ _ _)
      | (with_reducible exact spec_At29.mono _ _ _ _ _ _ _)
      | (with_reducible exact LeO.refl _)
      | (with_reducible exact LeO.none _)
      | (with_reducible refine LeO.ite ?_ ?_)
      | (with_reducible refine LeO.bind ?_ (fun _ => ?_))
      | exact ih0 _ _ _ _ _ _ _ _ _ _
      | exact ih1 _ _ _ _ _ _ _ _ _ _ _
      | exact spec_At29.mono _ _ _ _ _ _ _
      | exact LeO.none _
      | refine LeO.ite ?_ ?_
      | refine LeO.bind ?_ (fun _ => ?_)
theorem spec_Beside29.mono : ∀ a0 a1 a2 a3 a4 a5 a6 a7 k, LeO (spec_Beside29.f k a0 a1 a2 a3 a4 a5 a6 a7) (spec_Beside29.f (k + 1) a0 a1 a2 a3 a4 a5 a6 a7) := by
  intro a0 a1 a2 a3 a4 a5 a6 a7 k
  obtain ⟨ih0, ih1⟩ := spec_Beside29.mono_l k
  unfold spec_Beside29.f
  repeat' first
      | (with_reducible exact ih0 _ _ _ _ _ _ _ _ _ _)
      | (with_reducible exact ih1 _ _ _ _ _ _ _ _ _ _ _)
      | (with_reducible exact spec_At29.mono _ _ _ _ _ _ _)
      | (with_reducible exact LeO.refl _)
      | (with_reducible exact LeO.none _)
      | (with_reducible refine LeO.ite ?_ ?_)
      | (with_reducible refine LeO.bind ?_ (fun _ => ?_))
      | exact ih0 _ _ _ _ _ _ _ _ _ _
      | exact ih1 _ _ _ _ _ _ _ _ _ _ _
      | exact spec_At29.mono _ _ _ _ _ _ _
      | exact LeO.none _
      | refine LeO.ite ?_ ?_
      | refine LeO.bind ?_ (fun _ => ?_)
def spec_Beside29.T4 : Bool × List (List Nat × List Nat) := (true, [([], []), ([], []), ([], []), ([1, 2], [1, 2]), ([0, 3], [0, 3]), ([4], [4]), ([5], [5]), ([5], [5]), ([], []), ([8, 6, 4, 0, 1, 2, 3, 4, 5, 6, 8], [6, 8]), ([7, 9, 0, 1, 2, 3, 4, 5, 6, 7, 8, 9], [7])])
def spec_Beside29.B4 : List Nat := [0, 0, 0, 6, 15, 31, 63, 63, 0, 383, 1023]
theorem spec_Beside29.tab4 : rtab .any (opsOf Try.f25 4) = spec_Beside29.T4 := by kernel_rfl
theorem spec_Beside29.bits4 : waitsOk spec_Beside29.T4.2 spec_Beside29.B4 = true := by kernel_rfl
set_option maxHeartbeats 8000000 in
set_option maxRecDepth 100000 in
theorem spec_Beside29.calls (k : Nat) (a0_0 : Int) (a0_1 : ByteArray) (a0_2 : ByteArray) (A0_3 : Option Addr) (c0_3 : Nat) (l0_3 : List (S78)) (A0_4 : Option Addr) (c0_4 : Nat) (l0_4 : List (S25)) (A1 : Option Addr) (c1 : Nat) (l1 : List Int) (a2 : Int) (a3 : Bool) (r1 : List Int) (r2 : Bool) (w : World) (hr0_3 : Kd.C k78 w A0_3 l0_3.length l0_3) (hc0_3 : l0_3.length ≤ c0_3) (hr0_4 : Kd.C k25 w A0_4 l0_4.length l0_4) (hc0_4 : l0_4.length ≤ c0_4) (hr1 : Kd.C (Kd.int .i64) w A1 l1.length l1) (hc1 : l1.length ≤ c1) (h : spec_Beside29.f k a0_0 a0_1 a0_2 l0_3 l0_4 l1 a2 a3 = some (r1, r2)) :
    Calls Try.prog 25 #[.agg #[.int .i64 a0_0, .string a0_1, .string a0_2, .slice A0_3 l0_3.length c0_3, .slice A0_4 l0_4.length c0_4], .slice A1 l1.length c1, .int .i64 a2, .bool a3] w fun e w' => ∃ v0_ : Value, e = .returned (.tuple #[v0_, .bool r2]) ∧ Kd.R (Kd.int .i64) 3 w' w.heap.size (fun _ => True) v0_ r1 ∧ Below w.heap.size w w' := by
  have hu25 := Try.underlying25
  have HR0_3 := Aside0.mk hr0_3
  have HC0_3 := Aside0.mk hc0_3
  clear hr0_3 hc0_3
  have HR0_4 := Aside0.mk hr0_4
  have HC0_4 := Aside0.mk hc0_4
  clear hr0_4 hc0_4
  have HR1 := Aside0.mk hr1
  have HC1 := Aside0.mk hc1
  clear hr1 hc1
  have HB := Aside0.mk (Below.refl w.heap.size w)
  have H : (if (l1.length : Int) = 0 then (some (([] : List Int), false)) else (if 0 ≤ (wrap64 ((l1.length : Int) - 1)) then (if (wrap64 ((l1.length : Int) - 1)) ≤ (l1.length : Int) then ((spec_At29.f k a0_0 a0_1 a0_2 l0_3 l0_4 (l1.take ((wrap64 ((l1.length : Int) - 1)) : Int).toNat)).bind fun bt271 => (if (wrap64 ((l1.length : Int) - 1)) < (l1.length : Int) then (spec_Beside29.l0 k l1 a2 a3 (wrap64 ((l1.length : Int) - 1)) (wrap64 ((rd l1 (wrap64 ((l1.length : Int) - 1))) + a2)) bt271.1 bt271.2.1 bt271.2.2.1 bt271.2.2.2.1 bt271.2.2.2.2.1) else (none))) else (none)) else (none))) = some (r1, r2) := h
  clear h
  by_cases c5 : (l1.length : Int) = 0
  · rw [if_pos c5] at H
    have c5b0 : ((l1.length : Int) == 0) = true := beq_iff_eq.mpr c5
    have c5b1 : ((l1.length : Int) != 0) = false := bne_eq_false_iff_eq.mpr c5
    clear c5
    simp only [Option.some.injEq, Prod.mk.injEq] at H
    obtain ⟨rfl, rfl⟩ := H
    go_enter Try.func25, Try.ntmps25
    go_wp2_with (first | ((with_reducible refine gate_dst (N := 4) rfl ?_); (try (refine gate_guard (by rfl) ?_; dsimp only)); refine box_event ?hg (N := 4) ?hd (cs := #[.int .i64 a0_0, .string a0_1, .string a0_2, .slice A0_3 l0_3.length c0_3, .slice A0_4 l0_4.length c0_4]) (t := 25) ?hr ?_; (case hd => rfl); (case hg => rfl); (case hr => first | (go_simp; done) | (go_simp; rfl)); intro gb269 hg w6 hbox hb; have n0_ := Aside0.mk (below_step (by repeat (first | (with_reducible first | exact HB.out | apply below_alloc | apply pw_below_drewN | apply below_drew1) | exact HB.out)) hb); have n1_ := Aside0.mk (hbox); have n2_ := Aside0.mk ((by rw [hg]; exact (below_size (by repeat (first | (with_reducible first | exact HB.out | apply below_alloc | apply pw_below_drewN | apply below_drew1) | exact HB.out))) : w.heap.size ≤ gb269)); have n3_ := Aside0.mk ((by rw [hg]; exact (below_size (by repeat (first | (with_reducible first | exact HB.out | apply below_alloc | apply pw_below_drewN | apply below_drew1) | exact HB.out))) : w.heap.size ≤ gb269)); clear HB; have HB := n0_; have BK269 := n1_; have GW269 := n2_; have GE269 := n3_; clear n0_ n1_ n2_ n3_; clear hb hbox hg))
    go_ret2
    exact ⟨_, by first | rfl | (simp [errW_none, errW_some] <;> rfl) | (simp [*, errW_none, errW_some] <;> rfl), by first | exact Kd.R_nil _ _ _ _ _ | exact Kd.N_nil _ _ _ _ _ | exact Kd.V_nil _ _ _ _ _ | exact Kd.Q_nil _ _ _ _ _ | exact Kd.S_nil _ _ _ _ _, by repeat (first | (with_reducible first | exact HB.out | apply below_alloc | apply pw_below_drewN | apply below_drew1 | refine below_set ?_ GE269.out) | exact HB.out)⟩
  · rw [if_neg c5] at H
    have c5b0 : ((l1.length : Int) == 0) = false := beq_eq_false_iff_ne.mpr c5
    have c5b1 : ((l1.length : Int) != 0) = true := bne_iff_ne.mpr c5
    have c5b2 : ¬ (l1 = []) := fun h_ => c5 (by rw [h_]; rfl)
    obtain ⟨ji7, hji7⟩ : ∃ j_ : Int, (wrap64 ((l1.length : Int) - 1)) = j_ := ⟨_, rfl⟩
    replace H : (if 0 ≤ (ji7) then (if (ji7) ≤ (l1.length : Int) then ((spec_At29.f k a0_0 a0_1 a0_2 l0_3 l0_4 (l1.take ((ji7) : Int).toNat)).bind fun bt271 => (if (ji7) < (l1.length : Int) then (spec_Beside29.l0 k l1 a2 a3 ji7 (wrap64 ((rd l1 (ji7)) + a2)) bt271.1 bt271.2.1 bt271.2.2.1 bt271.2.2.2.1 bt271.2.2.2.2.1) else (none))) else (none)) else (none)) = some (r1, r2) := by first | (rw [hji7] at H; exact H) | (simp only [hji7] at H ⊢; exact H)
    have hji7w : (IntKind.i64.wrap ((l1.length : Int) - 1)) = ji7 := (i64_w _).trans hji7
    by_cases c8 : 0 ≤ (ji7)
    · rw [if_pos c8] at H
      have c8b0 := eq_true c8
      have c8b1 : decide (0 ≤ (ji7)) = true := decide_eq_true c8
      clear c8
      by_cases c9 : (ji7) ≤ (l1.length : Int)
      · rw [if_pos c9] at H
        have c9b0 := eq_true c9
        have c9b1 : decide ((ji7) ≤ (l1.length : Int)) = true := decide_eq_true c9
        clear c9
        replace H := Option.bind_eq_some_iff.mp H
        obtain ⟨⟨t271, t272, t273, t274, t277, t280⟩, A100, H⟩ := H
        replace H : (if (ji7) < (l1.length : Int) then (spec_Beside29.l0 k l1 a2 a3 ji7 (wrap64 ((rd l1 (ji7)) + a2)) t271 t272 t273 t274 t277) else (none)) = some (r1, r2) := H
        have A10 := Aside0.mk A100
        clear A100
        by_cases c11 : (ji7) < (l1.length : Int)
        · rw [if_pos c11] at H
          have c11b0 : decide ((ji7) < (l1.length : Int)) = true := decide_eq_true c11
          clear c11
          have H' := Aside0.mk H
          clear H
          go_enter Try.func25, Try.ntmps25
          try go_wp2_with (first | ((with_reducible refine gate_dst (N := 4) rfl ?_); (try (refine gate_guard (by rfl) ?_; dsimp only)); refine box_event ?hg (N := 4) ?hd (cs := #[.int .i64 a0_0, .string a0_1, .string a0_2, .slice A0_3 l0_3.length c0_3, .slice A0_4 l0_4.length c0_4]) (t := 25) ?hr ?_; (case hd => rfl); (case hg => rfl); (case hr => first | (go_simp; done) | (go_simp; rfl)); intro gb269 hg w12 hbox hb; have n0_ := Aside0.mk (below_step (by repeat (first | (with_reducible first | exact HB.out | apply below_alloc | apply pw_below_drewN | apply below_drew1) | exact HB.out)) hb); have n1_ := Aside0.mk (hbox); have n2_ := Aside0.mk ((by rw [hg]; exact (below_size (by repeat (first | (with_reducible first | exact HB.out | apply below_alloc | apply pw_below_drewN | apply below_drew1) | exact HB.out))) : w.heap.size ≤ gb269)); have n3_ := Aside0.mk ((by rw [hg]; exact (below_size (by repeat (first | (with_reducible first | exact HB.out | apply below_alloc | apply pw_below_drewN | apply below_drew1) | exact HB.out))) : w.heap.size ≤ gb269)); clear HB; have HB := n0_; have BK269 := n1_; have GW269 := n2_; have GE269 := n3_; clear n0_ n1_ n2_ n3_; clear hb hbox hg))
          have n0_ := Aside0.mk (blk_drew BK269.out)
          have n1_ := Aside0.mk (below_drew1 HB.out)
          clear BK269
          clear HB
          have BK269 := n0_
          have HB := n1_
          clear n0_ n1_
          obtain ⟨i014, hi014, _, hsz14, _⟩ := info_parts info3
          obtain ⟨hcut14, hA14, hC14⟩ := print_take_of (P := Try.prog) (Value.int .i64) 0 32 3 .i64 Try.underlying32 hi014 hsz14 A1 c1 l1 (ji7) (of_decide_eq_true (by first | (with_reducible assumption) | assumption)) (of_decide_eq_true (by first | (with_reducible assumption) | assumption)) HC1.out
          have HR270 := Aside0.mk (Kd.C_of_reads (h1 := fun _ => rfl) (hA14 _ (Kd.reads_of_C HR1.out)))
          have HC270 := Aside0.mk hC14
          clear hA14 hC14 hi014 hsz14
          refine start_ (n := 11) (S := fun w' => w'.cell? ⟨gb269, 0, none⟩ = some (.int .i64 a0_0) ∧ w'.cell? ⟨gb269, 1, none⟩ = some (.string a0_1) ∧ w'.cell? ⟨gb269, 2, none⟩ = some (.string a0_2) ∧ w'.cell? ⟨gb269, 3, none⟩ = some (.slice A0_3 l0_3.length c0_3) ∧ w'.cell? ⟨gb269, 4, none⟩ = some (.slice A0_4 l0_4.length c0_4)) (ds := []) #[false, false, false, false, false, false, false, false, false, false, false] (by kernel_rfl) rfl rfl ⟨(blk_cell BK269.out 0).trans rfl, (blk_cell BK269.out 1).trans rfl, (blk_cell BK269.out 2).trans rfl, (blk_cell BK269.out 3).trans rfl, (blk_cell BK269.out 4).trans rfl⟩ (fun hHeld => ?_); refine with_tabW spec_Beside29.tab4 spec_Beside29.bits4 (fun HT_ HW_ => ?_)
          generalize w12.drew = w13 at BK269 HB HR270 hHeld ⊢
          refine pure_ (i := 1) (N := some 22) (v := ?_) (a' := ?_) #[false, true, false, false, false, false, false, false, false, false, false] rfl rfl (any_of HT_.out (by kernel_rfl)) (fun _ _ _ h => h) (Or.inl ⟨by rfl, ?_⟩) ?_ ?_
          rotate_left
          · intro w'
            go_simp
            with_reducible rfl
          rotate_left
          · simp only [Act.put, List.setIfInBounds_toArray, List.set_cons_zero, List.set_cons_succ, i64_w, i32_w]
            rfl
          refine pure_ (i := 2) (N := some 23) (v := ?_) (a' := ?_) #[false, true, true, false, false, false, false, false, false, false, false] rfl rfl (any_of HT_.out (by kernel_rfl)) (fun _ _ _ h => h) (Or.inl ⟨by rfl, ?_⟩) ?_ ?_
          rotate_left
          · intro w'
            go_simp
            with_reducible rfl
          rotate_left
          · simp only [Act.put, List.setIfInBounds_toArray, List.set_cons_zero, List.set_cons_succ, i64_w, i32_w]
            rfl
          refine pure_ (i := 3) (N := some 24) (v := ?_) (a' := ?_) #[false, true, true, true, false, false, false, false, false, false, false] rfl rfl (any_of HT_.out (by kernel_rfl)) (fun _ _ _ h => h) (Or.inl ⟨by rfl, ?_⟩) ?_ ?_
          rotate_left
          · intro w'
            go_simp
            with_reducible rfl
          rotate_left
          · simp only [Act.put, List.setIfInBounds_toArray, List.set_cons_zero, List.set_cons_succ, i64_w, i32_w]
            rfl
          refine take_ (i := 0) (N := some 21) (v := ?_) (a' := ?_) #[true, true, true, true, false, false, false, false, false, false, false] rfl rfl (take_ofW HT_.out HW_.out (by kernel_rfl)) (fun _ _ _ h => h) (Or.inl ⟨by rfl, ?_⟩) hHeld ?_ ?_
          rotate_left
          · rintro w' ⟨s0, s1, s2, s3, s4⟩
            go_simp
            with_reducible rfl
          rotate_left
          · simp only [Act.put, List.setIfInBounds_toArray, List.set_cons_zero, List.set_cons_succ, i64_w, i32_w]
            rfl
          refine join_ (σ := Value × Value × Nat) 2 #[true, true, true, true, true, true, true, true, true, false, false] (fun s_ => [(25, .tuple #[.agg #[.int .i64 t271, .string t272, .string t273, s_.1, s_.2.1], .bool t280]), (11, .pointer (some ⟨s_.2.2, 0, none⟩)), (20, .tuple #[.agg #[.int .i64 t271, .string t272, .string t273, s_.1, s_.2.1], .bool t280]), (26, .agg #[.int .i64 t271, .string t272, .string t273, s_.1, s_.2.1]), (27, .bool t280)]) (fun s_ w' => (w'.cell? ⟨gb269, 0, none⟩ = some (.int .i64 a0_0) ∧ w'.cell? ⟨gb269, 1, none⟩ = some (.string a0_1) ∧ w'.cell? ⟨gb269, 2, none⟩ = some (.string a0_2) ∧ w'.cell? ⟨gb269, 3, none⟩ = some (.slice A0_3 l0_3.length c0_3) ∧ w'.cell? ⟨gb269, 4, none⟩ = some (.slice A0_4 l0_4.length c0_4)) ∧ (Kd.V k78 78 w' w.heap.size (fun k_ => k_ ≠ gb269 ∧ k_ ≠ s_.2.2) s_.1 t274) ∧ (Kd.V k25 25 w' w.heap.size (fun k_ => k_ ≠ gb269 ∧ k_ ≠ s_.2.2) s_.2.1 t277) ∧ (w'.heap[gb269]? = some (.cells #[.int .i64 a0_0, .string a0_1, .string a0_2, .slice A0_3 l0_3.length c0_3, .slice A0_4 l0_4.length c0_4] 25 (0, 0))) ∧ (w'.heap[s_.2.2]? = some (.cells #[.int .i64 0, .string (⟨#[]⟩ : ByteArray), .string (⟨#[]⟩ : ByteArray), .slice none 0 0, .slice none 0 0] 25 (0, 0))) ∧ (w.heap.size ≤ s_.2.2) ∧ (w.heap.size ≤ s_.2.2) ∧ (gb269 ≠ s_.2.2) ∧ (s_.2.2 ≠ gb269) ∧ (Below w.heap.size w w')) ?_ ?_
          rotate_left
          · intro hCont
            refine two_ (i := 4) (j := 8) (Ni := some 25) (Nj := some 11) #[true, true, true, true, true, false, false, false, false, false, false] #[true, true, true, true, false, false, false, false, true, false, false] rfl rfl rfl rfl (two_of HT_.out (by kernel_rfl)) (by decide) (by decide) (fun K hK => ?_) (fun K hK => ?_)
            · skip
              refine goes_ Try.func17 (by kernel_rfl) rfl #[.agg #[.int .i64 a0_0, .string a0_1, .string a0_2, .slice A0_3 l0_3.length c0_3, .slice A0_4 l0_4.length c0_4], .slice A1 (l1.take ((ji7) : Int).toNat).length c1] (by rfl) rfl rfl (by (try simp only [List.map_toArray, List.map_cons, List.map_nil]); first | done | (rw [show (l1.take ((ji7) : Int).toNat).length = (ji7).toNat from (by rw [List.length_take]; have h_ : ((ji7) : Int) ≤ (l1.length : Int) := of_decide_eq_true (by first | (with_reducible assumption) | assumption); omega)] <;> rfl) | (simp only [hji7]; rfl) | rfl | (simp only [List.length_drop, List.length_take]; rfl)) ?_
              with_reducible refine (spec_At29.calls k a0_0 a0_1 a0_2 (fun k_ => k_ < w.heap.size) _ _ l0_3 (fun k_ => k_ < w.heap.size) _ _ l0_4 _ _ (l1.take ((ji7) : Int).toNat) t271 t272 t273 t274 t277 t280 _ ?side1 ?side2 ?side3 ?side4 A10.out).mono ?_
              (case side1 => exact Kd.V_mk HC0_3.out (Kd.F_below (Kd.C_F k78_heap HR0_3.out) (by repeat (first | (with_reducible first | exact HB.out | apply below_alloc | apply pw_below_drewN | apply below_drew1 | refine below_set ?_ GE269.out) | exact HB.out))))
              (case side2 => exact Kd.V_mk HC0_4.out (Kd.F_below (Kd.C_F k25_heap HR0_4.out) (by repeat (first | (with_reducible first | exact HB.out | apply below_alloc | apply pw_below_drewN | apply below_drew1 | refine below_set ?_ GE269.out) | exact HB.out))))
              (case side3 => repeat (first | exact (Kd.C_below HR270.out HB.out) | (with_reducible refine Kd.C_alloc ?_ _) | (with_reducible refine Kd.C_drewN ?_ _) | (with_reducible refine Kd.C_drew ?_)))
              (case side4 => exact HC270.out)
              rintro e w15 ⟨v275, v278, rfl, ho0, ho1, hb⟩
              refine ⟨_, rfl, ?_⟩
              have n0_ := Aside0.mk (Kd.V_lower (Kd.V_mono (ok' := fun k_ => k_ ≠ gb269) ho0 (fun k_ hk_ => Or.elim hk_ (fun hs_ => Or.elim hs_ (fun hs_ => fun e_ => Nat.not_le.2 hs_ (by rw [e_]; exact GW269.out)) (fun hs_ => fun e_ => Nat.not_le.2 hs_ (by rw [e_]; exact GW269.out))) (fun hn_ => (Kd.freshB (g := gb269) (o := .cells #[.int .i64 a0_0, .string a0_1, .string a0_2, .slice A0_3 l0_3.length c0_3, .slice A0_4 l0_4.length c0_4] 25 (0, 0)) (by (with_reducible repeat (first | refine blk_drewN ?_ _ | refine blk_drew ?_ | refine blk_alloc ?_ _)); exact BK269.out) k_ hn_)))) (below_size (by repeat (first | (with_reducible first | exact HB.out | apply below_alloc | apply pw_below_drewN | apply below_drew1 | refine below_set ?_ GE269.out) | exact HB.out))))
              have n1_ := Aside0.mk (Kd.V_lower (Kd.V_mono (ok' := fun k_ => k_ ≠ gb269) ho1 (fun k_ hk_ => Or.elim hk_ (fun hs_ => Or.elim hs_ (fun hs_ => fun e_ => Nat.not_le.2 hs_ (by rw [e_]; exact GW269.out)) (fun hs_ => fun e_ => Nat.not_le.2 hs_ (by rw [e_]; exact GW269.out))) (fun hn_ => (Kd.freshB (g := gb269) (o := .cells #[.int .i64 a0_0, .string a0_1, .string a0_2, .slice A0_3 l0_3.length c0_3, .slice A0_4 l0_4.length c0_4] 25 (0, 0)) (by (with_reducible repeat (first | refine blk_drewN ?_ _ | refine blk_drew ?_ | refine blk_alloc ?_ _)); exact BK269.out) k_ hn_)))) (below_size (by repeat (first | (with_reducible first | exact HB.out | apply below_alloc | apply pw_below_drewN | apply below_drew1 | refine below_set ?_ GE269.out) | exact HB.out))))
              have n2_ := Aside0.mk (blk_below (g := gb269) (o := .cells #[.int .i64 a0_0, .string a0_1, .string a0_2, .slice A0_3 l0_3.length c0_3, .slice A0_4 l0_4.length c0_4] 25 (0, 0)) (by (with_reducible repeat (first | refine blk_drewN ?_ _ | refine blk_drew ?_ | refine blk_alloc ?_ _)); exact BK269.out) hb)
              have n3_ := Aside0.mk (below_step (by repeat (first | (with_reducible first | exact HB.out | apply below_alloc | apply pw_below_drewN | apply below_drew1 | refine below_set ?_ GE269.out) | exact HB.out)) hb)
              clear BK269
              clear HB
              have HO276 := n0_
              have HO279 := n1_
              have BK269 := n2_
              have HB := n3_
              clear n0_ n1_ n2_ n3_
              (try clear hb)
              (try clear hb2)
              (try clear hk)
              (try clear hi)
              (try clear ho0)
              (try clear ho1)
              refine hK.out _ _ ⟨(blk_cell BK269.out 0).trans rfl, (blk_cell BK269.out 1).trans rfl, (blk_cell BK269.out 2).trans rfl, (blk_cell BK269.out 3).trans rfl, (blk_cell BK269.out 4).trans rfl⟩ (fun hHeld => ?_)
              clear hK K
              refine norm_ (a' := ?_) ?_ ?_
              rotate_left
              · show Act.put _ (some 25) _ = _
                simp only [Act.put, List.setIfInBounds_toArray, List.set_cons_zero, List.set_cons_succ, i64_w, i32_w]
                rfl
              refine pure_ (i := 5) (N := some 20) (v := ?_) (a' := ?_) #[true, true, true, true, true, true, false, false, false, false, false] rfl rfl (any_of HT_.out (by kernel_rfl)) (fun _ _ _ h => h) (Or.inl ⟨by rfl, ?_⟩) ?_ ?_
              rotate_left
              · intro w'
                go_simp
                with_reducible rfl
              rotate_left
              · simp only [Act.put, List.setIfInBounds_toArray, List.set_cons_zero, List.set_cons_succ, i64_w, i32_w]
                rfl
              refine pure_ (i := 6) (N := some 26) (v := ?_) (a' := ?_) #[true, true, true, true, true, true, true, false, false, false, false] rfl rfl (any_of HT_.out (by kernel_rfl)) (fun _ _ _ h => h) (Or.inl ⟨by rfl, ?_⟩) ?_ ?_
              rotate_left
              · intro w'
                go_simp
                with_reducible rfl
              rotate_left
              · simp only [Act.put, List.setIfInBounds_toArray, List.set_cons_zero, List.set_cons_succ, i64_w, i32_w]
                rfl
              refine pure_ (i := 7) (N := some 27) (v := ?_) (a' := ?_) #[true, true, true, true, true, true, true, true, false, false, false] rfl rfl (any_of HT_.out (by kernel_rfl)) (fun _ _ _ h => h) (Or.inl ⟨by rfl, ?_⟩) ?_ ?_
              rotate_left
              · intro w'
                go_simp
                with_reducible rfl
              rotate_left
              · simp only [Act.put, List.setIfInBounds_toArray, List.set_cons_zero, List.set_cons_succ, i64_w, i32_w]
                rfl
              refine one_ (i := 8) (N := some 11) #[true, true, true, true, true, true, true, true, true, false, false] rfl rfl (one_of HT_.out (by kernel_rfl)) (by decide) (fun K hK => ?_)
              refine box_step ?hg (N := 11) ?hd (cs := #[.int .i64 0, .string (⟨#[]⟩ : ByteArray), .string (⟨#[]⟩ : ByteArray), .slice none 0 0, .slice none 0 0]) (t := 25) ?hr ?_; (case hd => rfl); (case hg => rfl); (case hr => first | (go_simp; done) | (go_simp; rfl))
              intro gb281 hg w16 hbox hb
              have n0_ := Aside0.mk (Kd.V_below (Kd.V_elderB (by (with_reducible repeat (first | apply Kd.V_alloc | apply Kd.V_drewN | apply Kd.V_drew)); exact HO276.out) gb281 (Nat.le_of_eq hg.symm)) hb)
              have n1_ := Aside0.mk (Kd.V_below (Kd.V_elderB (by (with_reducible repeat (first | apply Kd.V_alloc | apply Kd.V_drewN | apply Kd.V_drew)); exact HO279.out) gb281 (Nat.le_of_eq hg.symm)) hb)
              have n2_ := Aside0.mk (blk_below (g := gb269) (o := .cells #[.int .i64 a0_0, .string a0_1, .string a0_2, .slice A0_3 l0_3.length c0_3, .slice A0_4 l0_4.length c0_4] 25 (0, 0)) (by (with_reducible repeat (first | refine blk_drewN ?_ _ | refine blk_drew ?_ | refine blk_alloc ?_ _)); exact BK269.out) hb)
              have n3_ := Aside0.mk (below_step (by repeat (first | (with_reducible first | exact HB.out | apply below_alloc | apply pw_below_drewN | apply below_drew1 | refine below_set ?_ GE269.out) | exact HB.out)) hb)
              have n4_ := Aside0.mk (hbox)
              have n5_ := Aside0.mk ((by rw [hg]; exact (below_size (by repeat (first | (with_reducible first | exact HB.out | apply below_alloc | apply pw_below_drewN | apply below_drew1 | refine below_set ?_ GE269.out) | exact HB.out))) : w.heap.size ≤ gb281))
              have n6_ := Aside0.mk ((by rw [hg]; exact (below_size (by repeat (first | (with_reducible first | exact HB.out | apply below_alloc | apply pw_below_drewN | apply below_drew1 | refine below_set ?_ GE269.out) | exact HB.out))) : w.heap.size ≤ gb281))
              have n7_ := Aside0.mk ((by rw [hg]; exact Nat.ne_of_lt (blk_lt (g := gb269) (o := .cells #[.int .i64 a0_0, .string a0_1, .string a0_2, .slice A0_3 l0_3.length c0_3, .slice A0_4 l0_4.length c0_4] 25 (0, 0)) (by (with_reducible repeat (first | refine blk_drewN ?_ _ | refine blk_drew ?_ | refine blk_alloc ?_ _)); exact BK269.out)) : gb269 ≠ gb281))
              have n8_ := Aside0.mk ((by rw [hg]; exact Nat.ne_of_gt (blk_lt (g := gb269) (o := .cells #[.int .i64 a0_0, .string a0_1, .string a0_2, .slice A0_3 l0_3.length c0_3, .slice A0_4 l0_4.length c0_4] 25 (0, 0)) (by (with_reducible repeat (first | refine blk_drewN ?_ _ | refine blk_drew ?_ | refine blk_alloc ?_ _)); exact BK269.out)) : gb281 ≠ gb269))
              clear HO276
              clear HO279
              clear BK269
              clear HB
              have HO276 := n0_
              have HO279 := n1_
              have BK269 := n2_
              have HB := n3_
              have BK281 := n4_
              have GW281 := n5_
              have GE281 := n6_
              have NB269_281 := n7_
              have NB281_269 := n8_
              clear n0_ n1_ n2_ n3_ n4_ n5_ n6_ n7_ n8_
              clear hb hbox hg
              refine hK.out _ _ ⟨(blk_cell BK269.out 0).trans rfl, (blk_cell BK269.out 1).trans rfl, (blk_cell BK269.out 2).trans rfl, (blk_cell BK269.out 3).trans rfl, (blk_cell BK269.out 4).trans rfl⟩ (fun hHeld => ?_)
              clear hK K
              refine norm_ (a' := ?_) ?_ ?_
              rotate_left
              · show Act.put _ (some 11) _ = _
                simp only [Act.put, List.setIfInBounds_toArray, List.set_cons_zero, List.set_cons_succ, i64_w, i32_w]
                rfl
              exact norm_ (by simp only [putAll, Act.put, List.setIfInBounds_toArray, List.set_cons_zero, List.set_cons_succ]) (hCont (v275, v278, gb281) _ ⟨hHeld, (by (with_reducible repeat (first | apply Kd.V_alloc | apply Kd.V_drewN | apply Kd.V_drew)); exact HO276.out), (by (with_reducible repeat (first | apply Kd.V_alloc | apply Kd.V_drewN | apply Kd.V_drew)); exact HO279.out), (by (with_reducible repeat (first | refine blk_drewN ?_ _ | refine blk_drew ?_ | refine blk_alloc ?_ _)); exact BK269.out), (by (with_reducible repeat (first | refine blk_drewN ?_ _ | refine blk_drew ?_ | refine blk_alloc ?_ _)); exact BK281.out), GW281.out, GE281.out, NB269_281.out, NB281_269.out, (by repeat (first | (with_reducible first | exact HB.out | apply below_alloc | apply pw_below_drewN | apply below_drew1 | refine below_set ?_ GE269.out | refine below_set ?_ GE281.out) | exact HB.out))⟩)
            · skip
              refine box_step ?hg (N := 11) ?hd (cs := #[.int .i64 0, .string (⟨#[]⟩ : ByteArray), .string (⟨#[]⟩ : ByteArray), .slice none 0 0, .slice none 0 0]) (t := 25) ?hr ?_; (case hd => rfl); (case hg => rfl); (case hr => first | (go_simp; done) | (go_simp; rfl))
              intro gb281 hg w15 hbox hb
              have n0_ := Aside0.mk (blk_below (g := gb269) (o := .cells #[.int .i64 a0_0, .string a0_1, .string a0_2, .slice A0_3 l0_3.length c0_3, .slice A0_4 l0_4.length c0_4] 25 (0, 0)) (by (with_reducible repeat (first | refine blk_drewN ?_ _ | refine blk_drew ?_ | refine blk_alloc ?_ _)); exact BK269.out) hb)
              have n1_ := Aside0.mk (below_step (by repeat (first | (with_reducible first | exact HB.out | apply below_alloc | apply pw_below_drewN | apply below_drew1 | refine below_set ?_ GE269.out) | exact HB.out)) hb)
              have n2_ := Aside0.mk (hbox)
              have n3_ := Aside0.mk ((by rw [hg]; exact (below_size (by repeat (first | (with_reducible first | exact HB.out | apply below_alloc | apply pw_below_drewN | apply below_drew1 | refine below_set ?_ GE269.out) | exact HB.out))) : w.heap.size ≤ gb281))
              have n4_ := Aside0.mk ((by rw [hg]; exact (below_size (by repeat (first | (with_reducible first | exact HB.out | apply below_alloc | apply pw_below_drewN | apply below_drew1 | refine below_set ?_ GE269.out) | exact HB.out))) : w.heap.size ≤ gb281))
              have n5_ := Aside0.mk ((by rw [hg]; exact Nat.ne_of_lt (blk_lt (g := gb269) (o := .cells #[.int .i64 a0_0, .string a0_1, .string a0_2, .slice A0_3 l0_3.length c0_3, .slice A0_4 l0_4.length c0_4] 25 (0, 0)) (by (with_reducible repeat (first | refine blk_drewN ?_ _ | refine blk_drew ?_ | refine blk_alloc ?_ _)); exact BK269.out)) : gb269 ≠ gb281))
              have n6_ := Aside0.mk ((by rw [hg]; exact Nat.ne_of_gt (blk_lt (g := gb269) (o := .cells #[.int .i64 a0_0, .string a0_1, .string a0_2, .slice A0_3 l0_3.length c0_3, .slice A0_4 l0_4.length c0_4] 25 (0, 0)) (by (with_reducible repeat (first | refine blk_drewN ?_ _ | refine blk_drew ?_ | refine blk_alloc ?_ _)); exact BK269.out)) : gb281 ≠ gb269))
              clear BK269
              clear HB
              have BK269 := n0_
              have HB := n1_
              have BK281 := n2_
              have GW281 := n3_
              have GE281 := n4_
              have NB269_281 := n5_
              have NB281_269 := n6_
              clear n0_ n1_ n2_ n3_ n4_ n5_ n6_
              clear hb hbox hg
              refine hK.out _ _ ⟨(blk_cell BK269.out 0).trans rfl, (blk_cell BK269.out 1).trans rfl, (blk_cell BK269.out 2).trans rfl, (blk_cell BK269.out 3).trans rfl, (blk_cell BK269.out 4).trans rfl⟩ (fun hHeld => ?_)
              clear hK K
              refine norm_ (a' := ?_) ?_ ?_
              rotate_left
              · show Act.put _ (some 11) _ = _
                simp only [Act.put, List.setIfInBounds_toArray, List.set_cons_zero, List.set_cons_succ, i64_w, i32_w]
                rfl
              refine one_ (i := 4) (N := some 25) #[true, true, true, true, true, false, false, false, true, false, false] rfl rfl (one_of HT_.out (by kernel_rfl)) (by decide) (fun K hK => ?_)
              refine goes_ Try.func17 (by kernel_rfl) rfl #[.agg #[.int .i64 a0_0, .string a0_1, .string a0_2, .slice A0_3 l0_3.length c0_3, .slice A0_4 l0_4.length c0_4], .slice A1 (l1.take ((ji7) : Int).toNat).length c1] (by rfl) rfl rfl (by (try simp only [List.map_toArray, List.map_cons, List.map_nil]); first | done | (rw [show (l1.take ((ji7) : Int).toNat).length = (ji7).toNat from (by rw [List.length_take]; have h_ : ((ji7) : Int) ≤ (l1.length : Int) := of_decide_eq_true (by first | (with_reducible assumption) | assumption); omega)] <;> rfl) | (simp only [hji7]; rfl) | rfl | (simp only [List.length_drop, List.length_take]; rfl)) ?_
              with_reducible refine (spec_At29.calls k a0_0 a0_1 a0_2 (fun k_ => k_ < w.heap.size) _ _ l0_3 (fun k_ => k_ < w.heap.size) _ _ l0_4 _ _ (l1.take ((ji7) : Int).toNat) t271 t272 t273 t274 t277 t280 _ ?side1 ?side2 ?side3 ?side4 A10.out).mono ?_
              (case side1 => exact Kd.V_mk HC0_3.out (Kd.F_below (Kd.C_F k78_heap HR0_3.out) (by repeat (first | (with_reducible first | exact HB.out | apply below_alloc | apply pw_below_drewN | apply below_drew1 | refine below_set ?_ GE269.out | refine below_set ?_ GE281.out) | exact HB.out))))
              (case side2 => exact Kd.V_mk HC0_4.out (Kd.F_below (Kd.C_F k25_heap HR0_4.out) (by repeat (first | (with_reducible first | exact HB.out | apply below_alloc | apply pw_below_drewN | apply below_drew1 | refine below_set ?_ GE269.out | refine below_set ?_ GE281.out) | exact HB.out))))
              (case side3 => repeat (first | exact (Kd.C_below HR270.out HB.out) | (with_reducible refine Kd.C_alloc ?_ _) | (with_reducible refine Kd.C_drewN ?_ _) | (with_reducible refine Kd.C_drew ?_)))
              (case side4 => exact HC270.out)
              rintro e w16 ⟨v275, v278, rfl, ho0, ho1, hb⟩
              refine ⟨_, rfl, ?_⟩
              have n0_ := Aside0.mk (Kd.V_lower (Kd.V_mono (ok' := fun k_ => k_ ≠ gb269 ∧ k_ ≠ gb281) ho0 (fun k_ hk_ => ⟨Or.elim hk_ (fun hs_ => Or.elim hs_ (fun hs_ => fun e_ => Nat.not_le.2 hs_ (by rw [e_]; exact GW269.out)) (fun hs_ => fun e_ => Nat.not_le.2 hs_ (by rw [e_]; exact GW269.out))) (fun hn_ => (Kd.freshB (g := gb269) (o := .cells #[.int .i64 a0_0, .string a0_1, .string a0_2, .slice A0_3 l0_3.length c0_3, .slice A0_4 l0_4.length c0_4] 25 (0, 0)) (by (with_reducible repeat (first | refine blk_drewN ?_ _ | refine blk_drew ?_ | refine blk_alloc ?_ _)); exact BK269.out) k_ hn_)), Or.elim hk_ (fun hs_ => Or.elim hs_ (fun hs_ => fun e_ => Nat.not_le.2 hs_ (by rw [e_]; exact GW281.out)) (fun hs_ => fun e_ => Nat.not_le.2 hs_ (by rw [e_]; exact GW281.out))) (fun hn_ => (Kd.freshB (g := gb281) (o := .cells #[.int .i64 0, .string (⟨#[]⟩ : ByteArray), .string (⟨#[]⟩ : ByteArray), .slice none 0 0, .slice none 0 0] 25 (0, 0)) (by (with_reducible repeat (first | refine blk_drewN ?_ _ | refine blk_drew ?_ | refine blk_alloc ?_ _)); exact BK281.out) k_ hn_))⟩)) (below_size (by repeat (first | (with_reducible first | exact HB.out | apply below_alloc | apply pw_below_drewN | apply below_drew1 | refine below_set ?_ GE269.out | refine below_set ?_ GE281.out) | exact HB.out))))
              have n1_ := Aside0.mk (Kd.V_lower (Kd.V_mono (ok' := fun k_ => k_ ≠ gb269 ∧ k_ ≠ gb281) ho1 (fun k_ hk_ => ⟨Or.elim hk_ (fun hs_ => Or.elim hs_ (fun hs_ => fun e_ => Nat.not_le.2 hs_ (by rw [e_]; exact GW269.out)) (fun hs_ => fun e_ => Nat.not_le.2 hs_ (by rw [e_]; exact GW269.out))) (fun hn_ => (Kd.freshB (g := gb269) (o := .cells #[.int .i64 a0_0, .string a0_1, .string a0_2, .slice A0_3 l0_3.length c0_3, .slice A0_4 l0_4.length c0_4] 25 (0, 0)) (by (with_reducible repeat (first | refine blk_drewN ?_ _ | refine blk_drew ?_ | refine blk_alloc ?_ _)); exact BK269.out) k_ hn_)), Or.elim hk_ (fun hs_ => Or.elim hs_ (fun hs_ => fun e_ => Nat.not_le.2 hs_ (by rw [e_]; exact GW281.out)) (fun hs_ => fun e_ => Nat.not_le.2 hs_ (by rw [e_]; exact GW281.out))) (fun hn_ => (Kd.freshB (g := gb281) (o := .cells #[.int .i64 0, .string (⟨#[]⟩ : ByteArray), .string (⟨#[]⟩ : ByteArray), .slice none 0 0, .slice none 0 0] 25 (0, 0)) (by (with_reducible repeat (first | refine blk_drewN ?_ _ | refine blk_drew ?_ | refine blk_alloc ?_ _)); exact BK281.out) k_ hn_))⟩)) (below_size (by repeat (first | (with_reducible first | exact HB.out | apply below_alloc | apply pw_below_drewN | apply below_drew1 | refine below_set ?_ GE269.out | refine below_set ?_ GE281.out) | exact HB.out))))
              have n2_ := Aside0.mk (blk_below (g := gb269) (o := .cells #[.int .i64 a0_0, .string a0_1, .string a0_2, .slice A0_3 l0_3.length c0_3, .slice A0_4 l0_4.length c0_4] 25 (0, 0)) (by (with_reducible repeat (first | refine blk_drewN ?_ _ | refine blk_drew ?_ | refine blk_alloc ?_ _)); exact BK269.out) hb)
              have n3_ := Aside0.mk (blk_below (g := gb281) (o := .cells #[.int .i64 0, .string (⟨#[]⟩ : ByteArray), .string (⟨#[]⟩ : ByteArray), .slice none 0 0, .slice none 0 0] 25 (0, 0)) (by (with_reducible repeat (first | refine blk_drewN ?_ _ | refine blk_drew ?_ | refine blk_alloc ?_ _)); exact BK281.out) hb)
              have n4_ := Aside0.mk (below_step (by repeat (first | (with_reducible first | exact HB.out | apply below_alloc | apply pw_below_drewN | apply below_drew1 | refine below_set ?_ GE269.out | refine below_set ?_ GE281.out) | exact HB.out)) hb)
              clear BK269
              clear BK281
              clear HB
              have HO276 := n0_
              have HO279 := n1_
              have BK269 := n2_
              have BK281 := n3_
              have HB := n4_
              clear n0_ n1_ n2_ n3_ n4_
              (try clear hb)
              (try clear hb2)
              (try clear hk)
              (try clear hi)
              (try clear ho0)
              (try clear ho1)
              refine hK.out _ _ ⟨(blk_cell BK269.out 0).trans rfl, (blk_cell BK269.out 1).trans rfl, (blk_cell BK269.out 2).trans rfl, (blk_cell BK269.out 3).trans rfl, (blk_cell BK269.out 4).trans rfl⟩ (fun hHeld => ?_)
              clear hK K
              refine norm_ (a' := ?_) ?_ ?_
              rotate_left
              · show Act.put _ (some 25) _ = _
                simp only [Act.put, List.setIfInBounds_toArray, List.set_cons_zero, List.set_cons_succ, i64_w, i32_w]
                rfl
              refine pure_ (i := 5) (N := some 20) (v := ?_) (a' := ?_) #[true, true, true, true, true, true, false, false, true, false, false] rfl rfl (any_of HT_.out (by kernel_rfl)) (fun _ _ _ h => h) (Or.inl ⟨by rfl, ?_⟩) ?_ ?_
              rotate_left
              · intro w'
                go_simp
                with_reducible rfl
              rotate_left
              · simp only [Act.put, List.setIfInBounds_toArray, List.set_cons_zero, List.set_cons_succ, i64_w, i32_w]
                rfl
              refine pure_ (i := 6) (N := some 26) (v := ?_) (a' := ?_) #[true, true, true, true, true, true, true, false, true, false, false] rfl rfl (any_of HT_.out (by kernel_rfl)) (fun _ _ _ h => h) (Or.inl ⟨by rfl, ?_⟩) ?_ ?_
              rotate_left
              · intro w'
                go_simp
                with_reducible rfl
              rotate_left
              · simp only [Act.put, List.setIfInBounds_toArray, List.set_cons_zero, List.set_cons_succ, i64_w, i32_w]
                rfl
              refine pure_ (i := 7) (N := some 27) (v := ?_) (a' := ?_) #[true, true, true, true, true, true, true, true, true, false, false] rfl rfl (any_of HT_.out (by kernel_rfl)) (fun _ _ _ h => h) (Or.inl ⟨by rfl, ?_⟩) ?_ ?_
              rotate_left
              · intro w'
                go_simp
                with_reducible rfl
              rotate_left
              · simp only [Act.put, List.setIfInBounds_toArray, List.set_cons_zero, List.set_cons_succ, i64_w, i32_w]
                rfl
              exact norm_ (by simp only [putAll, Act.put, List.setIfInBounds_toArray, List.set_cons_zero, List.set_cons_succ]) (hCont (v275, v278, gb281) _ ⟨hHeld, (by (with_reducible repeat (first | apply Kd.V_alloc | apply Kd.V_drewN | apply Kd.V_drew)); exact HO276.out), (by (with_reducible repeat (first | apply Kd.V_alloc | apply Kd.V_drewN | apply Kd.V_drew)); exact HO279.out), (by (with_reducible repeat (first | refine blk_drewN ?_ _ | refine blk_drew ?_ | refine blk_alloc ?_ _)); exact BK269.out), (by (with_reducible repeat (first | refine blk_drewN ?_ _ | refine blk_drew ?_ | refine blk_alloc ?_ _)); exact BK281.out), GW281.out, GE281.out, NB269_281.out, NB281_269.out, (by repeat (first | (with_reducible first | exact HB.out | apply below_alloc | apply pw_below_drewN | apply below_drew1 | refine below_set ?_ GE269.out | refine below_set ?_ GE281.out) | exact HB.out))⟩)
          rintro ⟨v275, v278, gb281⟩ w17 ⟨hS_, h0_, h1_, h2_, h3_, h4_, h5_, h6_, h7_, h8_⟩
          have n0_ : Aside0 (Kd.V k78 78 w17 w.heap.size (fun k_ => k_ ≠ gb269 ∧ k_ ≠ gb281) v275 t274) := ⟨h0_⟩
          have n1_ : Aside0 (Kd.V k25 25 w17 w.heap.size (fun k_ => k_ ≠ gb269 ∧ k_ ≠ gb281) v278 t277) := ⟨h1_⟩
          have n2_ : Aside0 (w17.heap[gb269]? = some (.cells #[.int .i64 a0_0, .string a0_1, .string a0_2, .slice A0_3 l0_3.length c0_3, .slice A0_4 l0_4.length c0_4] 25 (0, 0))) := ⟨h2_⟩
          have n3_ : Aside0 (w17.heap[gb281]? = some (.cells #[.int .i64 0, .string (⟨#[]⟩ : ByteArray), .string (⟨#[]⟩ : ByteArray), .slice none 0 0, .slice none 0 0] 25 (0, 0))) := ⟨h3_⟩
          have n4_ : Aside0 (w.heap.size ≤ gb281) := ⟨h4_⟩
          have n5_ : Aside0 (w.heap.size ≤ gb281) := ⟨h5_⟩
          have n6_ : Aside0 (gb269 ≠ gb281) := ⟨h6_⟩
          have n7_ : Aside0 (gb281 ≠ gb269) := ⟨h7_⟩
          have n8_ : Aside0 (Below w.heap.size w w17) := ⟨h8_⟩
          clear BK269
          clear HB
          clear h0_ h1_ h2_ h3_ h4_ h5_ h6_ h7_ h8_
          have HO276 := n0_
          have HO279 := n1_
          have BK269 := n2_
          have BK281 := n3_
          have GW281 := n4_
          have GE281 := n5_
          have NB269_281 := n6_
          have NB281_269 := n7_
          have HB := n8_
          clear n0_ n1_ n2_ n3_ n4_ n5_ n6_ n7_ n8_
          have hHeld : w17.cell? ⟨gb269, 0, none⟩ = some (.int .i64 a0_0) ∧ w17.cell? ⟨gb269, 1, none⟩ = some (.string a0_1) ∧ w17.cell? ⟨gb269, 2, none⟩ = some (.string a0_2) ∧ w17.cell? ⟨gb269, 3, none⟩ = some (.slice A0_3 l0_3.length c0_3) ∧ w17.cell? ⟨gb269, 4, none⟩ = some (.slice A0_4 l0_4.length c0_4) := hS_
          obtain ⟨Ao21, co21, eo21⟩ := Kd.V_slice HO276.out
          (first | subst eo21 | (injection eo21 with f1_ f2_ f3_; have f4_ := f1_.symm; have f5_ := f3_.symm; clear f1_ f2_ f3_; subst f4_; subst f5_))
          obtain ⟨Ao23, co23, eo23⟩ := Kd.V_slice HO279.out
          (first | subst eo23 | (injection eo23 with f1_ f2_ f3_; have f4_ := f1_.symm; have f5_ := f3_.symm; clear f1_ f2_ f3_; subst f4_; subst f5_))
          refine norm_ (a' := ?_) ?_ ?_
          rotate_left
          · simp only [putAll, Act.put, List.setIfInBounds_toArray, List.set_cons_zero, List.set_cons_succ]
            rfl
          refine one_ (i := 9) (N := none) #[true, true, true, true, true, true, true, true, true, true, false] rfl rfl (one_of HT_.out (by kernel_rfl)) (by decide) (fun K hK => ?_)
          have hs18 : w17.cell? ⟨gb281, 0, none⟩ = some (.int .i64 0) := (blk_cell BK281.out 0).trans rfl
          have hfs18 := blk_frozen BK281.out 0
          have hns18_0 := NB269_281.out
          have hms18_0 := NB281_269.out
          have hs19 : w17.cell? ⟨gb281, 1, none⟩ = some (.string (⟨#[]⟩ : ByteArray)) := (blk_cell BK281.out 1).trans rfl
          have hfs19 := blk_frozen BK281.out 1
          have hns19_0 := NB269_281.out
          have hms19_0 := NB281_269.out
          have hs20 : w17.cell? ⟨gb281, 2, none⟩ = some (.string (⟨#[]⟩ : ByteArray)) := (blk_cell BK281.out 2).trans rfl
          have hfs20 := blk_frozen BK281.out 2
          have hns20_0 := NB269_281.out
          have hms20_0 := NB281_269.out
          have hs22 : w17.cell? ⟨gb281, 3, none⟩ = some (.slice none 0 0) := (blk_cell BK281.out 3).trans rfl
          have hfs22 := blk_frozen BK281.out 3
          have hns22_0 := NB269_281.out
          have hms22_0 := NB281_269.out
          have hs24 : w17.cell? ⟨gb281, 4, none⟩ = some (.slice none 0 0) := (blk_cell BK281.out 4).trans rfl
          have hfs24 := blk_frozen BK281.out 4
          have hns24_0 := NB269_281.out
          have hms24_0 := NB281_269.out
          refine skip_ (w1 := ?_) (by rfl) rfl ?_ ?_
          rotate_left
          · go_simp
            rfl
          refine hK.out _ _ ⟨((cell_far (p := ⟨gb281, _, none⟩) NB269_281.out _).trans (((cell_far (p := ⟨gb281, _, none⟩) NB269_281.out _).trans (((cell_far (p := ⟨gb281, _, none⟩) NB269_281.out _).trans (((cell_far (p := ⟨gb281, _, none⟩) NB269_281.out _).trans (((cell_far (p := ⟨gb281, _, none⟩) NB269_281.out _).trans (hHeld.1)))))))))), ((cell_far (p := ⟨gb281, _, none⟩) NB269_281.out _).trans (((cell_far (p := ⟨gb281, _, none⟩) NB269_281.out _).trans (((cell_far (p := ⟨gb281, _, none⟩) NB269_281.out _).trans (((cell_far (p := ⟨gb281, _, none⟩) NB269_281.out _).trans (((cell_far (p := ⟨gb281, _, none⟩) NB269_281.out _).trans (hHeld.2.1)))))))))), ((cell_far (p := ⟨gb281, _, none⟩) NB269_281.out _).trans (((cell_far (p := ⟨gb281, _, none⟩) NB269_281.out _).trans (((cell_far (p := ⟨gb281, _, none⟩) NB269_281.out _).trans (((cell_far (p := ⟨gb281, _, none⟩) NB269_281.out _).trans (((cell_far (p := ⟨gb281, _, none⟩) NB269_281.out _).trans (hHeld.2.2.1)))))))))), ((cell_far (p := ⟨gb281, _, none⟩) NB269_281.out _).trans (((cell_far (p := ⟨gb281, _, none⟩) NB269_281.out _).trans (((cell_far (p := ⟨gb281, _, none⟩) NB269_281.out _).trans (((cell_far (p := ⟨gb281, _, none⟩) NB269_281.out _).trans (((cell_far (p := ⟨gb281, _, none⟩) NB269_281.out _).trans (hHeld.2.2.2.1)))))))))), ((cell_far (p := ⟨gb281, _, none⟩) NB269_281.out _).trans (((cell_far (p := ⟨gb281, _, none⟩) NB269_281.out _).trans (((cell_far (p := ⟨gb281, _, none⟩) NB269_281.out _).trans (((cell_far (p := ⟨gb281, _, none⟩) NB269_281.out _).trans (((cell_far (p := ⟨gb281, _, none⟩) NB269_281.out _).trans (hHeld.2.2.2.2))))))))))⟩ (fun hHeld => ?_)
          clear hK K
          refine pure_ (i := 10) (N := some 12) (v := ?_) (a' := ?_) #[true, true, true, true, true, true, true, true, true, true, true] rfl rfl (any_of HT_.out (by kernel_rfl)) (fun _ _ _ h => h) (Or.inl ⟨by rfl, ?_⟩) ?_ ?_
          rotate_left
          · intro w'
            go_simp
            with_reducible rfl
          rotate_left
          · simp only [Act.put, List.setIfInBounds_toArray, List.set_cons_zero, List.set_cons_succ, i64_w, i32_w]
            rfl
          refine done_ (done_of HT_.out (by kernel_rfl)) ?_
          have p282 : 0 ≤ ((ji7) : Int) := of_decide_eq_true (by first | (with_reducible assumption) | assumption)
          have q282 : (ji7) < (l1.length : Int) := of_decide_eq_true (by first | (with_reducible assumption) | assumption)
          obtain ⟨ad282, e282, hx282_0⟩ := Kd.at_int HR1.out (ji7) p282 q282
          cases e282
          have hn282_0 : ad282.block ≠ gb281 := Nat.ne_of_lt (Nat.lt_of_lt_of_le (by have := World.block_lt_of_cell? _ _ hx282_0; first | rwa [add_block] at this | exact this) GW281.out)
          have hn282_1 : ad282.block ≠ gb281 := Nat.ne_of_lt (Nat.lt_of_lt_of_le (by have := World.block_lt_of_cell? _ _ hx282_0; first | rwa [add_block] at this | exact this) GW281.out)
          have hn282_2 : ad282.block ≠ gb281 := Nat.ne_of_lt (Nat.lt_of_lt_of_le (by have := World.block_lt_of_cell? _ _ hx282_0; first | rwa [add_block] at this | exact this) GW281.out)
          have hn282_3 : ad282.block ≠ gb281 := Nat.ne_of_lt (Nat.lt_of_lt_of_le (by have := World.block_lt_of_cell? _ _ hx282_0; first | rwa [add_block] at this | exact this) GW281.out)
          have hn282_4 : ad282.block ≠ gb281 := Nat.ne_of_lt (Nat.lt_of_lt_of_le (by have := World.block_lt_of_cell? _ _ hx282_0; first | rwa [add_block] at this | exact this) GW281.out)
          replace hx282_0 := (HB.out.cell (World.block_lt_of_cell? w _ hx282_0)).trans hx282_0
          replace hx282_0 := (cell_far (p := ⟨gb281, 0, none⟩) (by first | (rw [add_block]; exact hn282_0) | (show (Addr.add _ _).block ≠ _; rw [add_block]; exact hn282_0) | exact hn282_0) (.int .i64 t271)).trans hx282_0
          replace hx282_0 := (cell_far (p := ⟨gb281, 1, none⟩) (by first | (rw [add_block]; exact hn282_1) | (show (Addr.add _ _).block ≠ _; rw [add_block]; exact hn282_1) | exact hn282_1) (.string t272)).trans hx282_0
          replace hx282_0 := (cell_far (p := ⟨gb281, 2, none⟩) (by first | (rw [add_block]; exact hn282_2) | (show (Addr.add _ _).block ≠ _; rw [add_block]; exact hn282_2) | exact hn282_2) (.string t273)).trans hx282_0
          replace hx282_0 := (cell_far (p := ⟨gb281, 3, none⟩) (by first | (rw [add_block]; exact hn282_3) | (show (Addr.add _ _).block ≠ _; rw [add_block]; exact hn282_3) | exact hn282_3) (.slice Ao21 t274.length co21)).trans hx282_0
          replace hx282_0 := (cell_far (p := ⟨gb281, 4, none⟩) (by first | (rw [add_block]; exact hn282_4) | (show (Addr.add _ _).block ≠ _; rw [add_block]; exact hn282_4) | exact hn282_4) (.slice Ao23 t277.length co23)).trans hx282_0
          clear hn282_0
          clear hn282_1
          clear hn282_2
          clear hn282_3
          clear hn282_4
          replace p282 := eq_true p282
          replace q282 := eq_true q282
          try go_wp2
          go_loopg [13] k (fun kq v13 w' => ∃ (x13_1 : Int), v13 = .int .i64 x13_1 ∧ Aside0 (spec_Beside29.l0 kq l1 a2 a3 ji7 x13_1 t271 t272 t273 t274 t277 = some (r1, r2)) ∧ Aside0 (kq ≤ k) ∧ Aside0 (Kd.V k78 78 w' w.heap.size (fun k_ => k_ ≠ gb269 ∧ k_ ≠ gb281) (.slice Ao21 t274.length co21) t274) ∧ Aside0 (Kd.V k25 25 w' w.heap.size (fun k_ => k_ ≠ gb269 ∧ k_ ≠ gb281) (.slice Ao23 t277.length co23) t277) ∧ Aside0 (w'.heap[gb269]? = some (.cells #[.int .i64 a0_0, .string a0_1, .string a0_2, (.slice A0_3 l0_3.length c0_3), (.slice A0_4 l0_4.length c0_4)] 25 (0, 0))) ∧ Aside0 (w'.heap[gb281]? = some (.cells #[.int .i64 t271, .string t272, .string t273, (.slice Ao21 t274.length co21), (.slice Ao23 t277.length co23)] 25 (0, 0))) ∧ Aside0 (Below w.heap.size w w'))
          case atStart => exact ⟨(wrap64 ((rd l1 (ji7)) + a2)), (by first | rfl | (simp; done) | (simp only [← hji7] <;> (first | rfl | simp)) | (simp [*]; done)), H', ⟨Nat.le_refl _⟩, ⟨by (with_reducible repeat (first | apply Kd.V_alloc | apply Kd.V_drewN | apply Kd.V_drew)); exact Kd.V_mono (Kd.V_far (p := ⟨gb281, 4, none⟩) (Kd.V_far (p := ⟨gb281, 3, none⟩) (Kd.V_far (p := ⟨gb281, 2, none⟩) (Kd.V_far (p := ⟨gb281, 1, none⟩) (Kd.V_far (p := ⟨gb281, 0, none⟩) (Kd.V_mono HO276.out (fun k_ hk => (⟨hk, hk.2⟩ : _ ∧ k_ ≠ gb281))) (fun _ hk => hk.2) (.int .i64 t271)) (fun _ hk => hk.2) (.string t272)) (fun _ hk => hk.2) (.string t273)) (fun _ hk => hk.2) (.slice Ao21 t274.length co21)) (fun _ hk => hk.2) (.slice Ao23 t277.length co23)) (fun _ hk => ⟨hk.1.1, hk.1.2⟩)⟩, ⟨by (with_reducible repeat (first | apply Kd.V_alloc | apply Kd.V_drewN | apply Kd.V_drew)); exact Kd.V_mono (Kd.V_far (p := ⟨gb281, 4, none⟩) (Kd.V_far (p := ⟨gb281, 3, none⟩) (Kd.V_far (p := ⟨gb281, 2, none⟩) (Kd.V_far (p := ⟨gb281, 1, none⟩) (Kd.V_far (p := ⟨gb281, 0, none⟩) (Kd.V_mono HO279.out (fun k_ hk => (⟨hk, hk.2⟩ : _ ∧ k_ ≠ gb281))) (fun _ hk => hk.2) (.int .i64 t271)) (fun _ hk => hk.2) (.string t272)) (fun _ hk => hk.2) (.string t273)) (fun _ hk => hk.2) (.slice Ao21 t274.length co21)) (fun _ hk => hk.2) (.slice Ao23 t277.length co23)) (fun _ hk => ⟨hk.1.1, hk.1.2⟩)⟩, ⟨by (with_reducible repeat (first | refine blk_drewN ?_ _ | refine blk_drew ?_ | refine blk_alloc ?_ _)); refine blk_far ?_ NB269_281.out _; (with_reducible repeat (first | refine blk_drewN ?_ _ | refine blk_drew ?_ | refine blk_alloc ?_ _)); refine blk_far ?_ NB269_281.out _; (with_reducible repeat (first | refine blk_drewN ?_ _ | refine blk_drew ?_ | refine blk_alloc ?_ _)); refine blk_far ?_ NB269_281.out _; (with_reducible repeat (first | refine blk_drewN ?_ _ | refine blk_drew ?_ | refine blk_alloc ?_ _)); refine blk_far ?_ NB269_281.out _; (with_reducible repeat (first | refine blk_drewN ?_ _ | refine blk_drew ?_ | refine blk_alloc ?_ _)); refine blk_far ?_ NB269_281.out _; (with_reducible repeat (first | refine blk_drewN ?_ _ | refine blk_drew ?_ | refine blk_alloc ?_ _)); exact BK269.out⟩, ⟨by (with_reducible repeat (first | refine blk_drewN ?_ _ | refine blk_drew ?_ | refine blk_alloc ?_ _)); refine blk_put (cs := #[.int .i64 t271, .string t272, .string t273, .slice Ao21 t274.length co21, .slice none 0 0]) ?_ 4 _ rfl; (with_reducible repeat (first | refine blk_drewN ?_ _ | refine blk_drew ?_ | refine blk_alloc ?_ _)); refine blk_put (cs := #[.int .i64 t271, .string t272, .string t273, .slice none 0 0, .slice none 0 0]) ?_ 3 _ rfl; (with_reducible repeat (first | refine blk_drewN ?_ _ | refine blk_drew ?_ | refine blk_alloc ?_ _)); refine blk_put (cs := #[.int .i64 t271, .string t272, .string (⟨#[]⟩ : ByteArray), .slice none 0 0, .slice none 0 0]) ?_ 2 _ rfl; (with_reducible repeat (first | refine blk_drewN ?_ _ | refine blk_drew ?_ | refine blk_alloc ?_ _)); refine blk_put (cs := #[.int .i64 t271, .string (⟨#[]⟩ : ByteArray), .string (⟨#[]⟩ : ByteArray), .slice none 0 0, .slice none 0 0]) ?_ 1 _ rfl; (with_reducible repeat (first | refine blk_drewN ?_ _ | refine blk_drew ?_ | refine blk_alloc ?_ _)); refine blk_put (cs := #[.int .i64 0, .string (⟨#[]⟩ : ByteArray), .string (⟨#[]⟩ : ByteArray), .slice none 0 0, .slice none 0 0]) ?_ 0 _ rfl; (with_reducible repeat (first | refine blk_drewN ?_ _ | refine blk_drew ?_ | refine blk_alloc ?_ _)); exact BK281.out⟩, ⟨by repeat (first | (with_reducible first | exact HB.out | apply below_alloc | apply pw_below_drewN | apply below_drew1 | refine below_set ?_ GE269.out | refine below_set ?_ GE281.out) | exact HB.out)⟩⟩
          case round =>
            clear H'
            try clear c1
            try clear c2
            try clear p2
            try clear q2
            try clear hx2
            try clear c5
            try clear c5b0
            try clear c5b1
            try clear c5b2
            try clear p6
            try clear c8
            try clear c8b0
            try clear c8b1
            try clear c9
            try clear c9b0
            try clear c9b1
            try clear c11
            try clear c11b0
            try clear c17
            try clear hx282_0
            try clear p282
            try clear q282
            obtain ⟨x13_1, rfl, HA, HK1, HO_282003, HO_282004, BK269, BK281, HB⟩ := hrel
            cases gk with
            | zero => exact absurd HA.out (by simp [spec_Beside29.l0])
            | succ k1 =>
              have H := HA.out
              clear HA
              simp only [spec_Beside29.l0] at H
              have HC25 := Aside0.mk H
              clear H
              go_upto_region 6 with (fail)
              go_cut [42] (fun v42 wc => ∃ (kq : Nat) (x42_24 : Bool), v42 = .bool x42_24 ∧ Aside0 (spec_Beside29.j1 kq l1 a2 a3 ji7 x13_1 x42_24 t271 t272 t273 t274 t277 = some (r1, r2)) ∧ Aside0 (kq ≤ k1) ∧ Aside0 (Kd.V k78 78 wc w.heap.size (fun k_ => k_ ≠ gb269 ∧ k_ ≠ gb281) (.slice Ao21 t274.length co21) t274) ∧ Aside0 (Kd.V k25 25 wc w.heap.size (fun k_ => k_ ≠ gb269 ∧ k_ ≠ gb281) (.slice Ao23 t277.length co23) t277) ∧ Aside0 (wc.heap[gb269]? = some (.cells #[.int .i64 a0_0, .string a0_1, .string a0_2, (.slice A0_3 l0_3.length c0_3), (.slice A0_4 l0_4.length c0_4)] 25 (0, 0))) ∧ Aside0 (wc.heap[gb281]? = some (.cells #[.int .i64 t271, .string t272, .string t273, (.slice Ao21 t274.length co21), (.slice Ao23 t277.length co23)] 25 (0, 0))) ∧ Aside0 (Below w.heap.size w wc))
              case first =>
                have H := HC25.out
                clear HC25
                by_cases c26 : x13_1 ≥ 0
                · rw [if_pos c26] at H
                  have c26b0 : decide (0 ≤ x13_1) = true := decide_eq_true c26
                  clear c26
                  (first | rw [c26b0] | (simp only [i64_w, i32_w]; rw [c26b0]) | skip)
                  have H' := Aside0.mk H
                  clear H
                  have hnb27 := NB281_269.out
                  have hnc27 := NB269_281.out
                  have hcz28_0 : wr.cell? ⟨gb281, 0, none⟩ = some (.int .i64 t271) := (blk_cell BK281.out 0).trans rfl
                  have hcz28_1 : wr.cell? ⟨gb281, 1, none⟩ = some (.string t272) := (blk_cell BK281.out 1).trans rfl
                  have hcz28_2 : wr.cell? ⟨gb281, 2, none⟩ = some (.string t273) := (blk_cell BK281.out 2).trans rfl
                  have hcz28_3 : wr.cell? ⟨gb281, 3, none⟩ = some (.slice Ao21 t274.length co21) := (blk_cell BK281.out 3).trans rfl
                  have hcz28_4 : wr.cell? ⟨gb281, 4, none⟩ = some (.slice Ao23 t277.length co23) := (blk_cell BK281.out 4).trans rfl
                  have hfz28_0 := blk_frozen BK281.out 0
                  have hfz28_1 := blk_frozen BK281.out 1
                  have hfz28_2 := blk_frozen BK281.out 2
                  have hfz28_3 := blk_frozen BK281.out 3
                  have hfz28_4 := blk_frozen BK281.out 4
                  go_wp2
                  go_meet
                  case rel => exact ⟨_, (decide (x13_1 < (t277.length : Int))), (by first | rfl | (simp; done) | (simp [*]; done)), H', ⟨by have := HK1.out; first | omega | exact Nat.le_refl _⟩, ⟨by (with_reducible repeat (first | apply Kd.V_alloc | apply Kd.V_drewN | apply Kd.V_drew)); exact HO_282003.out⟩, ⟨by (with_reducible repeat (first | apply Kd.V_alloc | apply Kd.V_drewN | apply Kd.V_drew)); exact HO_282004.out⟩, ⟨by (with_reducible repeat (first | refine blk_drewN ?_ _ | refine blk_drew ?_ | refine blk_alloc ?_ _)); exact BK269.out⟩, ⟨by (with_reducible repeat (first | refine blk_drewN ?_ _ | refine blk_drew ?_ | refine blk_alloc ?_ _)); exact BK281.out⟩, ⟨by repeat (first | (with_reducible first | exact HB.out | apply below_alloc | apply pw_below_drewN | apply below_drew1 | refine below_set ?_ GE269.out | refine below_set ?_ GE281.out) | exact HB.out)⟩⟩
                · rw [if_neg c26] at H
                  have c26b0 : decide (0 ≤ x13_1) = false := decide_eq_false c26
                  clear c26
                  (first | rw [c26b0] | (simp only [i64_w, i32_w]; rw [c26b0]) | skip)
                  have H' := Aside0.mk H
                  clear H
                  go_wp2
                  go_meet
                  case rel => exact ⟨_, (false), (by first | rfl | (simp; done) | (simp [*]; done)), H', ⟨by have := HK1.out; first | omega | exact Nat.le_refl _⟩, ⟨by (with_reducible repeat (first | apply Kd.V_alloc | apply Kd.V_drewN | apply Kd.V_drew)); exact HO_282003.out⟩, ⟨by (with_reducible repeat (first | apply Kd.V_alloc | apply Kd.V_drewN | apply Kd.V_drew)); exact HO_282004.out⟩, ⟨by (with_reducible repeat (first | refine blk_drewN ?_ _ | refine blk_drew ?_ | refine blk_alloc ?_ _)); exact BK269.out⟩, ⟨by (with_reducible repeat (first | refine blk_drewN ?_ _ | refine blk_drew ?_ | refine blk_alloc ?_ _)); exact BK281.out⟩, ⟨by repeat (first | (with_reducible first | exact HB.out | apply below_alloc | apply pw_below_drewN | apply below_drew1 | refine below_set ?_ GE269.out | refine below_set ?_ GE281.out) | exact HB.out)⟩⟩
              case rest =>
                clear HC25
                try clear c1
                try clear c2
                try clear p2
                try clear q2
                try clear hx2
                try clear c5
                try clear c5b0
                try clear c5b1
                try clear c5b2
                try clear p6
                try clear c8
                try clear c8b0
                try clear c8b1
                try clear c9
                try clear c9b0
                try clear c9b1
                try clear c11
                try clear c11b0
                try clear c17
                try clear c25
                try clear c26
                try clear c26b0
                try clear c27
                try clear p28
                try clear q28
                try clear hx28
                try clear hcz28_0
                try clear hcz28_1
                try clear hcz28_2
                try clear hcz28_3
                try clear hcz28_4
                try clear hfz28_0
                try clear hfz28_1
                try clear hfz28_2
                try clear hfz28_3
                try clear hfz28_4
                try clear hx282_0
                try clear p2
                try clear p282
                try clear p6
                try clear q2
                try clear q282
                obtain ⟨kq, x42_24, rfl, HA, HJ24, HO_282003, HO_282004, BK269, BK281, HB⟩ := hcut
                cases kq with
                | zero => exact absurd HA.out (by simp [spec_Beside29.j1])
                | succ kj24 =>
                  have H := HA.out
                  clear HA
                  simp only [spec_Beside29.j1] at H
                  by_cases c29 : x42_24 = true
                  · subst c29
                    have H1 : (if 0 ≤ x13_1 then (if x13_1 < (t277.length : Int) then ((spec_among29.f ((rd_T25 t277 x13_1).f0) ((rd_T25 t277 x13_1).f1) ((rd_T25 t277 x13_1).f2) ((rd_T25 t277 x13_1).f3) ((rd_T25 t277 x13_1).f4) a3).bind fun t284 => (if t284 = true then (if 0 ≤ ji7 then (if ji7 ≤ (l1.length : Int) then ((spec_Under29.f (l1.take (ji7 : Int).toNat) x13_1).bind fun t286 => (some (t286, true))) else (none)) else (none)) else (spec_Beside29.l0 kj24 l1 a2 a3 ji7 (wrap64 (x13_1 + a2)) t271 t272 t273 t274 t277))) else (none)) else (none)) = some (r1, r2) := by rw [if_pos rfl] at H; exact H
                    clear H
                    have H := H1
                    clear H1
                    by_cases c30 : 0 ≤ x13_1
                    · rw [if_pos c30] at H
                      have c30b0 : decide (0 ≤ x13_1) = true := decide_eq_true c30
                      clear c30
                      by_cases c31 : x13_1 < (t277.length : Int)
                      · rw [if_pos c31] at H
                        have c31b0 : decide (x13_1 < (t277.length : Int)) = true := decide_eq_true c31
                        clear c31
                        replace H := Option.bind_eq_some_iff.mp H
                        obtain ⟨t284, A320, H⟩ := H
                        replace H : (if t284 = true then (if 0 ≤ ji7 then (if ji7 ≤ (l1.length : Int) then ((spec_Under29.f (l1.take (ji7 : Int).toNat) x13_1).bind fun t286 => (some (t286, true))) else (none)) else (none)) else (spec_Beside29.l0 kj24 l1 a2 a3 ji7 (wrap64 (x13_1 + a2)) t271 t272 t273 t274 t277)) = some (r1, r2) := H
                        have A32 := Aside0.mk A320
                        clear A320
                        by_cases c33 : t284 = true
                        · subst c33
                          have H1 : (if 0 ≤ ji7 then (if ji7 ≤ (l1.length : Int) then ((spec_Under29.f (l1.take (ji7 : Int).toNat) x13_1).bind fun t286 => (some (t286, true))) else (none)) else (none)) = some (r1, r2) := by rw [if_pos rfl] at H; exact H
                          clear H
                          have H := H1
                          clear H1
                          by_cases c34 : 0 ≤ ji7
                          · rw [if_pos c34] at H
                            have c34b0 := eq_true c34
                            have c34b1 : decide (0 ≤ ji7) = true := decide_eq_true c34
                            clear c34
                            by_cases c35 : ji7 ≤ (l1.length : Int)
                            · rw [if_pos c35] at H
                              have c35b0 := eq_true c35
                              have c35b1 : decide (ji7 ≤ (l1.length : Int)) = true := decide_eq_true c35
                              clear c35
                              replace H := Option.bind_eq_some_iff.mp H
                              obtain ⟨t286, A360, H⟩ := H
                              replace H : (some (t286, true)) = some (r1, r2) := H
                              have A36 := Aside0.mk A360
                              clear A360
                              simp only [Option.some.injEq, Prod.mk.injEq] at H
                              obtain ⟨rfl, rfl⟩ := H
                              have hnb37 := NB281_269.out
                              have hnc37 := NB269_281.out
                              have hcz38_0 : wc.cell? ⟨gb281, 0, none⟩ = some (.int .i64 t271) := (blk_cell BK281.out 0).trans rfl
                              have hcz38_1 : wc.cell? ⟨gb281, 1, none⟩ = some (.string t272) := (blk_cell BK281.out 1).trans rfl
                              have hcz38_2 : wc.cell? ⟨gb281, 2, none⟩ = some (.string t273) := (blk_cell BK281.out 2).trans rfl
                              have hcz38_3 : wc.cell? ⟨gb281, 3, none⟩ = some (.slice Ao21 t274.length co21) := (blk_cell BK281.out 3).trans rfl
                              have hcz38_4 : wc.cell? ⟨gb281, 4, none⟩ = some (.slice Ao23 t277.length co23) := (blk_cell BK281.out 4).trans rfl
                              have hfz38_0 := blk_frozen BK281.out 0
                              have hfz38_1 := blk_frozen BK281.out 1
                              have hfz38_2 := blk_frozen BK281.out 2
                              have hfz38_3 := blk_frozen BK281.out 3
                              have hfz38_4 := blk_frozen BK281.out 4
                              have p283 : 0 ≤ (x13_1 : Int) := of_decide_eq_true (by first | (with_reducible assumption) | assumption)
                              have q283 : x13_1 < (t277.length : Int) := of_decide_eq_true (by first | (with_reducible assumption) | assumption)
                              obtain ⟨ad283, A283_3, c283_3, A283_4, c283_4, e283, hx283_0, hx283_1, hx283_2, hx283_3, hx283_4, hl283_3, hi283_3, hl283_4, hi283_4⟩ := at_T25 (Kd.V_reads' HO_282004.out).2.2 x13_1 p283 q283
                              cases e283
                              obtain ⟨ce283, hce283, hMe283, hcc283⟩ := Kd.V_get HO_282004.out z25 x13_1 p283 (by first | exact q283 | exact of_decide_eq_true (by first | (with_reducible assumption) | assumption) | (have e_ := (Kd.V_reads' HO_282004.out).1; omega))
                              obtain ⟨ua283_3, uc283_3, ua283_4, uc283_4, rfl, ul283_3, ge283_3, ul283_4, ge283_4⟩ := k25_openF hMe283
                              have hv283_3 := hcc283 3 _ rfl
                              rw [add_field _ _ 3 (by omega)] at hv283_3
                              replace hv283_3 := Option.some.inj (hv283_3.symm.trans hx283_3)
                              injection hv283_3 with hva_ hvn_ hvc_
                              rw [hva_] at ge283_3
                              rw [hvc_] at ul283_3
                              have HL283_3 := Aside0.mk (show Kd.V k78 78 _ w.heap.size _ _ ((rd_T25 t277 x13_1).f3) from Kd.V_mk ul283_3 ge283_3)
                              clear hva_ hvn_ hvc_ ge283_3 ul283_3
                              have hv283_4 := hcc283 4 _ rfl
                              rw [add_field _ _ 4 (by omega)] at hv283_4
                              replace hv283_4 := Option.some.inj (hv283_4.symm.trans hx283_4)
                              injection hv283_4 with hva_ hvn_ hvc_
                              rw [hva_] at ge283_4
                              rw [hvc_] at ul283_4
                              have HL283_4 := Aside0.mk (show Kd.V k25 25 _ w.heap.size _ _ ((rd_T25 t277 x13_1).f4) from Kd.V_mk ul283_4 ge283_4)
                              clear hva_ hvn_ hvc_ ge283_4 ul283_4
                              clear hcc283 hce283
                              have HR283_3 := Aside0.mk hi283_3
                              have HC283_3 := Aside0.mk hl283_3
                              clear hi283_3 hl283_3
                              have HR283_4 := Aside0.mk hi283_4
                              have HC283_4 := Aside0.mk hl283_4
                              clear hi283_4 hl283_4
                              replace p283 := eq_true p283
                              replace q283 := eq_true q283
                              go_wp2_with (first | ((with_reducible refine gate_callee (f := 48) rfl ?_); refine goesL_ (some 52) rfl rfl Try.func48 (by kernel_rfl) rfl #[.agg #[.int .i64 ((rd_T25 t277 x13_1).f0), .string ((rd_T25 t277 x13_1).f1), .string ((rd_T25 t277 x13_1).f2), .slice A283_3 ((rd_T25 t277 x13_1).f3).length c283_3, .slice A283_4 ((rd_T25 t277 x13_1).f4).length c283_4], .bool a3] rfl (by (try simp only [List.map_toArray, List.map_cons, List.map_nil]); first | done | rfl | (simp only [List.length_drop, List.length_take]; rfl)) ?_; (with_reducible refine (spec_among29.calls ((rd_T25 t277 x13_1).f0) ((rd_T25 t277 x13_1).f1) ((rd_T25 t277 x13_1).f2) _ _ ((rd_T25 t277 x13_1).f3) _ _ ((rd_T25 t277 x13_1).f4) a3 true _ ?side1 ?side2 ?side3 ?side4 A32.out).mono ?_); (case side1 => repeat (first | exact (by repeat (first | (with_reducible exact HR283_3.out) | (with_reducible refine Kd.C_alloc ?_ _) | (with_reducible refine Kd.C_drewN ?_ _) | (with_reducible refine Kd.C_drew ?_) | exact HR283_3.out)) | (with_reducible refine Kd.C_alloc ?_ _) | (with_reducible refine Kd.C_drewN ?_ _) | (with_reducible refine Kd.C_drew ?_))); (case side2 => exact HC283_3.out); (case side3 => repeat (first | exact (by repeat (first | (with_reducible exact HR283_4.out) | (with_reducible refine Kd.C_alloc ?_ _) | (with_reducible refine Kd.C_drewN ?_ _) | (with_reducible refine Kd.C_drew ?_) | exact HR283_4.out)) | (with_reducible refine Kd.C_alloc ?_ _) | (with_reducible refine Kd.C_drewN ?_ _) | (with_reducible refine Kd.C_drew ?_))); (case side4 => exact HC283_4.out); rintro e w39 ⟨rfl, hb⟩; refine ⟨_, rfl, ?_⟩; have n0_ := Aside0.mk (Kd.V_below (by (with_reducible repeat (first | apply Kd.V_alloc | apply Kd.V_drewN | apply Kd.V_drew)); exact HO_282003.out) hb); have n1_ := Aside0.mk (Kd.V_below (by (with_reducible repeat (first | apply Kd.V_alloc | apply Kd.V_drewN | apply Kd.V_drew)); exact HO_282004.out) hb); have n2_ := Aside0.mk (Kd.V_below (by (with_reducible repeat (first | apply Kd.V_alloc | apply Kd.V_drewN | apply Kd.V_drew)); exact HL283_3.out) hb); have n3_ := Aside0.mk (Kd.V_below (by (with_reducible repeat (first | apply Kd.V_alloc | apply Kd.V_drewN | apply Kd.V_drew)); exact HL283_4.out) hb); have n4_ := Aside0.mk (blk_below (g := gb269) (o := .cells #[.int .i64 a0_0, .string a0_1, .string a0_2, .slice A0_3 l0_3.length c0_3, .slice A0_4 l0_4.length c0_4] 25 (0, 0)) (by (with_reducible repeat (first | refine blk_drewN ?_ _ | refine blk_drew ?_ | refine blk_alloc ?_ _)); exact BK269.out) hb); have n5_ := Aside0.mk (blk_below (g := gb281) (o := .cells #[.int .i64 t271, .string t272, .string t273, .slice Ao21 t274.length co21, .slice (some ad283) t277.length co23] 25 (0, 0)) (by (with_reducible repeat (first | refine blk_drewN ?_ _ | refine blk_drew ?_ | refine blk_alloc ?_ _)); exact BK281.out) hb); have n6_ := Aside0.mk (Kd.C_below (by repeat (first | (with_reducible exact HR283_3.out) | (with_reducible refine Kd.C_alloc ?_ _) | (with_reducible refine Kd.C_drewN ?_ _) | (with_reducible refine Kd.C_drew ?_) | exact HR283_3.out)) hb); have n7_ := Aside0.mk (Kd.C_below (by repeat (first | (with_reducible exact HR283_4.out) | (with_reducible refine Kd.C_alloc ?_ _) | (with_reducible refine Kd.C_drewN ?_ _) | (with_reducible refine Kd.C_drew ?_) | exact HR283_4.out)) hb); have n8_ := Aside0.mk (below_step (by repeat (first | (with_reducible first | exact HB.out | apply below_alloc | apply pw_below_drewN | apply below_drew1 | refine below_set ?_ GE269.out | refine below_set ?_ GE281.out) | exact HB.out)) hb); clear HO_282003; clear HO_282004; clear HL283_3; clear HL283_4; clear BK269; clear BK281; clear HR283_3; clear HR283_4; clear HB; have HO_282003 := n0_; have HO_282004 := n1_; have HL283_3 := n2_; have HL283_4 := n3_; have BK269 := n4_; have BK281 := n5_; have HR283_3 := n6_; have HR283_4 := n7_; have HB := n8_; clear n0_ n1_ n2_ n3_ n4_ n5_ n6_ n7_ n8_; (try clear hb); (try clear hb2); (try clear hk); (try clear hi); obtain ⟨i040, hi040, _, hsz40, _⟩ := info_parts info3; obtain ⟨hcut40, hA40, hC40⟩ := print_take_of (P := Try.prog) (Value.int .i64) 0 32 3 .i64 Try.underlying32 hi040 hsz40 (some ad282) c1 l1 ji7 (of_decide_eq_true (by first | (with_reducible assumption) | assumption)) (of_decide_eq_true (by first | (with_reducible assumption) | assumption)) HC1.out; have HR285 := Aside0.mk (Kd.C_of_reads (h1 := fun _ => rfl) (hA40 _ (Kd.reads_of_C HR1.out))); have HC285 := Aside0.mk hC40; clear hA40 hC40 hi040 hsz40) | ((with_reducible refine gate_callee (f := 40) rfl ?_); refine goesL_ (some 57) rfl rfl Try.func40 (by kernel_rfl) rfl #[.slice (some ad282) (l1.take (ji7 : Int).toNat).length c1, .int .i64 x13_1] rfl (by (try simp only [List.map_toArray, List.map_cons, List.map_nil]); first | done | (rw [show (l1.take (ji7 : Int).toNat).length = ji7.toNat from (by rw [List.length_take]; have h_ : (ji7 : Int) ≤ (l1.length : Int) := of_decide_eq_true (by first | (with_reducible assumption) | assumption); omega)] <;> rfl) | (simp only [hji7]; rfl) | rfl | (simp only [List.length_drop, List.length_take]; rfl)) ?_; (with_reducible refine (spec_Under29.calls _ _ (l1.take (ji7 : Int).toNat) x13_1 t286 _ ?side1 ?side2 A36.out).mono ?_); (case side1 => repeat (first | exact (Kd.C_below HR285.out HB.out) | (with_reducible refine Kd.C_alloc ?_ _) | (with_reducible refine Kd.C_drewN ?_ _) | (with_reducible refine Kd.C_drew ?_))); (case side2 => exact HC285.out); rintro e w41 ⟨v287, rfl, ho0, hb⟩; refine ⟨_, rfl, ?_⟩; have n0_ := Aside0.mk (Kd.V_elder' (by (with_reducible repeat (first | apply Kd.V_alloc | apply Kd.V_drewN | apply Kd.V_drew)); exact HO_282003.out) (Kd.R_base ho0) hb); have n1_ := Aside0.mk (Kd.V_elder' (by (with_reducible repeat (first | apply Kd.V_alloc | apply Kd.V_drewN | apply Kd.V_drew)); exact HO_282004.out) (Kd.R_base ho0) hb); have n2_ := Aside0.mk (Kd.V_elder' (by (with_reducible repeat (first | apply Kd.V_alloc | apply Kd.V_drewN | apply Kd.V_drew)); exact HL283_3.out) (Kd.R_base ho0) hb); have n3_ := Aside0.mk (Kd.V_elder' (by (with_reducible repeat (first | apply Kd.V_alloc | apply Kd.V_drewN | apply Kd.V_drew)); exact HL283_4.out) (Kd.R_base ho0) hb); have n4_ := Aside0.mk (Kd.R_lower ho0 (below_size (by repeat (first | (with_reducible first | exact HB.out | apply below_alloc | apply pw_below_drewN | apply below_drew1 | refine below_set ?_ GE269.out | refine below_set ?_ GE281.out) | exact HB.out)))); have n5_ := Aside0.mk (blk_below (g := gb269) (o := .cells #[.int .i64 a0_0, .string a0_1, .string a0_2, .slice A0_3 l0_3.length c0_3, .slice A0_4 l0_4.length c0_4] 25 (0, 0)) (by (with_reducible repeat (first | refine blk_drewN ?_ _ | refine blk_drew ?_ | refine blk_alloc ?_ _)); exact BK269.out) hb); have n6_ := Aside0.mk (blk_below (g := gb281) (o := .cells #[.int .i64 t271, .string t272, .string t273, .slice Ao21 t274.length co21, .slice (some ad283) t277.length co23] 25 (0, 0)) (by (with_reducible repeat (first | refine blk_drewN ?_ _ | refine blk_drew ?_ | refine blk_alloc ?_ _)); exact BK281.out) hb); have n7_ := Aside0.mk (Kd.C_below (by repeat (first | (with_reducible exact HR283_3.out) | (with_reducible refine Kd.C_alloc ?_ _) | (with_reducible refine Kd.C_drewN ?_ _) | (with_reducible refine Kd.C_drew ?_) | exact HR283_3.out)) hb); have n8_ := Aside0.mk (Kd.C_below (by repeat (first | (with_reducible exact HR283_4.out) | (with_reducible refine Kd.C_alloc ?_ _) | (with_reducible refine Kd.C_drewN ?_ _) | (with_reducible refine Kd.C_drew ?_) | exact HR283_4.out)) hb); have n9_ := Aside0.mk (below_step (by repeat (first | (with_reducible first | exact HB.out | apply below_alloc | apply pw_below_drewN | apply below_drew1 | refine below_set ?_ GE269.out | refine below_set ?_ GE281.out) | exact HB.out)) hb); clear HO_282003; clear HO_282004; clear HL283_3; clear HL283_4; clear BK269; clear BK281; clear HR283_3; clear HR283_4; clear HB; have HO_282003 := n0_; have HO_282004 := n1_; have HL283_3 := n2_; have HL283_4 := n3_; have HO288 := n4_; have BK269 := n5_; have BK281 := n6_; have HR283_3 := n7_; have HR283_4 := n8_; have HB := n9_; clear n0_ n1_ n2_ n3_ n4_ n5_ n6_ n7_ n8_ n9_; (try clear hb); (try clear hb2); (try clear hk); (try clear hi); (try clear ho0)))
                              go_ret2
                              exact ⟨_, by first | rfl | (simp [errW_none, errW_some] <;> rfl) | (simp only [← hji7]; first | rfl | (simp [errW_none, errW_some] <;> rfl)) | (simp [*, errW_none, errW_some] <;> rfl), by (with_reducible repeat (first | apply Kd.R_alloc | apply Kd.R_drewN | apply Kd.R_drew)); exact HO288.out, by repeat (first | (with_reducible first | exact HB.out | apply below_alloc | apply pw_below_drewN | apply below_drew1 | refine below_set ?_ GE269.out | refine below_set ?_ GE281.out) | exact HB.out)⟩
                            · rw [if_neg c35] at H
                              exact absurd H (by simp)
                          · rw [if_neg c34] at H
                            exact absurd H (by simp)
                        · replace c33 := Bool.eq_false_iff.mpr c33
                          subst c33
                          have H1 : (spec_Beside29.l0 kj24 l1 a2 a3 ji7 (wrap64 (x13_1 + a2)) t271 t272 t273 t274 t277) = some (r1, r2) := by rw [if_neg (show ¬ (false = true) by decide)] at H; exact H
                          clear H
                          have H := H1
                          clear H1
                          have H' := Aside0.mk H
                          clear H
                          have hnb42 := NB281_269.out
                          have hnc42 := NB269_281.out
                          have hcz43_0 : wc.cell? ⟨gb281, 0, none⟩ = some (.int .i64 t271) := (blk_cell BK281.out 0).trans rfl
                          have hcz43_1 : wc.cell? ⟨gb281, 1, none⟩ = some (.string t272) := (blk_cell BK281.out 1).trans rfl
                          have hcz43_2 : wc.cell? ⟨gb281, 2, none⟩ = some (.string t273) := (blk_cell BK281.out 2).trans rfl
                          have hcz43_3 : wc.cell? ⟨gb281, 3, none⟩ = some (.slice Ao21 t274.length co21) := (blk_cell BK281.out 3).trans rfl
                          have hcz43_4 : wc.cell? ⟨gb281, 4, none⟩ = some (.slice Ao23 t277.length co23) := (blk_cell BK281.out 4).trans rfl
                          have hfz43_0 := blk_frozen BK281.out 0
                          have hfz43_1 := blk_frozen BK281.out 1
                          have hfz43_2 := blk_frozen BK281.out 2
                          have hfz43_3 := blk_frozen BK281.out 3
                          have hfz43_4 := blk_frozen BK281.out 4
                          have p283 : 0 ≤ (x13_1 : Int) := of_decide_eq_true (by first | (with_reducible assumption) | assumption)
                          have q283 : x13_1 < (t277.length : Int) := of_decide_eq_true (by first | (with_reducible assumption) | assumption)
                          obtain ⟨ad283, A283_3, c283_3, A283_4, c283_4, e283, hx283_0, hx283_1, hx283_2, hx283_3, hx283_4, hl283_3, hi283_3, hl283_4, hi283_4⟩ := at_T25 (Kd.V_reads' HO_282004.out).2.2 x13_1 p283 q283
                          cases e283
                          obtain ⟨ce283, hce283, hMe283, hcc283⟩ := Kd.V_get HO_282004.out z25 x13_1 p283 (by first | exact q283 | exact of_decide_eq_true (by first | (with_reducible assumption) | assumption) | (have e_ := (Kd.V_reads' HO_282004.out).1; omega))
                          obtain ⟨ua283_3, uc283_3, ua283_4, uc283_4, rfl, ul283_3, ge283_3, ul283_4, ge283_4⟩ := k25_openF hMe283
                          have hv283_3 := hcc283 3 _ rfl
                          rw [add_field _ _ 3 (by omega)] at hv283_3
                          replace hv283_3 := Option.some.inj (hv283_3.symm.trans hx283_3)
                          injection hv283_3 with hva_ hvn_ hvc_
                          rw [hva_] at ge283_3
                          rw [hvc_] at ul283_3
                          have HL283_3 := Aside0.mk (show Kd.V k78 78 _ w.heap.size _ _ ((rd_T25 t277 x13_1).f3) from Kd.V_mk ul283_3 ge283_3)
                          clear hva_ hvn_ hvc_ ge283_3 ul283_3
                          have hv283_4 := hcc283 4 _ rfl
                          rw [add_field _ _ 4 (by omega)] at hv283_4
                          replace hv283_4 := Option.some.inj (hv283_4.symm.trans hx283_4)
                          injection hv283_4 with hva_ hvn_ hvc_
                          rw [hva_] at ge283_4
                          rw [hvc_] at ul283_4
                          have HL283_4 := Aside0.mk (show Kd.V k25 25 _ w.heap.size _ _ ((rd_T25 t277 x13_1).f4) from Kd.V_mk ul283_4 ge283_4)
                          clear hva_ hvn_ hvc_ ge283_4 ul283_4
                          clear hcc283 hce283
                          have HR283_3 := Aside0.mk hi283_3
                          have HC283_3 := Aside0.mk hl283_3
                          clear hi283_3 hl283_3
                          have HR283_4 := Aside0.mk hi283_4
                          have HC283_4 := Aside0.mk hl283_4
                          clear hi283_4 hl283_4
                          replace p283 := eq_true p283
                          replace q283 := eq_true q283
                          go_wp2_with (first | ((with_reducible refine gate_callee (f := 48) rfl ?_); refine goesL_ (some 52) rfl rfl Try.func48 (by kernel_rfl) rfl #[.agg #[.int .i64 ((rd_T25 t277 x13_1).f0), .string ((rd_T25 t277 x13_1).f1), .string ((rd_T25 t277 x13_1).f2), .slice A283_3 ((rd_T25 t277 x13_1).f3).length c283_3, .slice A283_4 ((rd_T25 t277 x13_1).f4).length c283_4], .bool a3] rfl (by (try simp only [List.map_toArray, List.map_cons, List.map_nil]); first | done | rfl | (simp only [List.length_drop, List.length_take]; rfl)) ?_; (with_reducible refine (spec_among29.calls ((rd_T25 t277 x13_1).f0) ((rd_T25 t277 x13_1).f1) ((rd_T25 t277 x13_1).f2) _ _ ((rd_T25 t277 x13_1).f3) _ _ ((rd_T25 t277 x13_1).f4) a3 false _ ?side1 ?side2 ?side3 ?side4 A32.out).mono ?_); (case side1 => repeat (first | exact (by repeat (first | (with_reducible exact HR283_3.out) | (with_reducible refine Kd.C_alloc ?_ _) | (with_reducible refine Kd.C_drewN ?_ _) | (with_reducible refine Kd.C_drew ?_) | exact HR283_3.out)) | (with_reducible refine Kd.C_alloc ?_ _) | (with_reducible refine Kd.C_drewN ?_ _) | (with_reducible refine Kd.C_drew ?_))); (case side2 => exact HC283_3.out); (case side3 => repeat (first | exact (by repeat (first | (with_reducible exact HR283_4.out) | (with_reducible refine Kd.C_alloc ?_ _) | (with_reducible refine Kd.C_drewN ?_ _) | (with_reducible refine Kd.C_drew ?_) | exact HR283_4.out)) | (with_reducible refine Kd.C_alloc ?_ _) | (with_reducible refine Kd.C_drewN ?_ _) | (with_reducible refine Kd.C_drew ?_))); (case side4 => exact HC283_4.out); rintro e w44 ⟨rfl, hb⟩; refine ⟨_, rfl, ?_⟩; have n0_ := Aside0.mk (Kd.V_below (by (with_reducible repeat (first | apply Kd.V_alloc | apply Kd.V_drewN | apply Kd.V_drew)); exact HO_282003.out) hb); have n1_ := Aside0.mk (Kd.V_below (by (with_reducible repeat (first | apply Kd.V_alloc | apply Kd.V_drewN | apply Kd.V_drew)); exact HO_282004.out) hb); have n2_ := Aside0.mk (Kd.V_below (by (with_reducible repeat (first | apply Kd.V_alloc | apply Kd.V_drewN | apply Kd.V_drew)); exact HL283_3.out) hb); have n3_ := Aside0.mk (Kd.V_below (by (with_reducible repeat (first | apply Kd.V_alloc | apply Kd.V_drewN | apply Kd.V_drew)); exact HL283_4.out) hb); have n4_ := Aside0.mk (blk_below (g := gb269) (o := .cells #[.int .i64 a0_0, .string a0_1, .string a0_2, .slice A0_3 l0_3.length c0_3, .slice A0_4 l0_4.length c0_4] 25 (0, 0)) (by (with_reducible repeat (first | refine blk_drewN ?_ _ | refine blk_drew ?_ | refine blk_alloc ?_ _)); exact BK269.out) hb); have n5_ := Aside0.mk (blk_below (g := gb281) (o := .cells #[.int .i64 t271, .string t272, .string t273, .slice Ao21 t274.length co21, .slice (some ad283) t277.length co23] 25 (0, 0)) (by (with_reducible repeat (first | refine blk_drewN ?_ _ | refine blk_drew ?_ | refine blk_alloc ?_ _)); exact BK281.out) hb); have n6_ := Aside0.mk (Kd.C_below (by repeat (first | (with_reducible exact HR283_3.out) | (with_reducible refine Kd.C_alloc ?_ _) | (with_reducible refine Kd.C_drewN ?_ _) | (with_reducible refine Kd.C_drew ?_) | exact HR283_3.out)) hb); have n7_ := Aside0.mk (Kd.C_below (by repeat (first | (with_reducible exact HR283_4.out) | (with_reducible refine Kd.C_alloc ?_ _) | (with_reducible refine Kd.C_drewN ?_ _) | (with_reducible refine Kd.C_drew ?_) | exact HR283_4.out)) hb); have n8_ := Aside0.mk (below_step (by repeat (first | (with_reducible first | exact HB.out | apply below_alloc | apply pw_below_drewN | apply below_drew1 | refine below_set ?_ GE269.out | refine below_set ?_ GE281.out) | exact HB.out)) hb); clear HO_282003; clear HO_282004; clear HL283_3; clear HL283_4; clear BK269; clear BK281; clear HR283_3; clear HR283_4; clear HB; have HO_282003 := n0_; have HO_282004 := n1_; have HL283_3 := n2_; have HL283_4 := n3_; have BK269 := n4_; have BK281 := n5_; have HR283_3 := n6_; have HR283_4 := n7_; have HB := n8_; clear n0_ n1_ n2_ n3_ n4_ n5_ n6_ n7_ n8_; (try clear hb); (try clear hb2); (try clear hk); (try clear hi)))
                          go_roundg kj24
                          case measure => have := HK1.out; have := HJ24.out; omega
                          case rel => exact ⟨(wrap64 (x13_1 + a2)), (by first | rfl | (simp; done) | (simp [*]; done)), H', ⟨by have := HK1.out; have := HJ24.out; omega⟩, ⟨by (with_reducible repeat (first | apply Kd.V_alloc | apply Kd.V_drewN | apply Kd.V_drew)); exact HO_282003.out⟩, ⟨by (with_reducible repeat (first | apply Kd.V_alloc | apply Kd.V_drewN | apply Kd.V_drew)); exact HO_282004.out⟩, ⟨by (with_reducible repeat (first | refine blk_drewN ?_ _ | refine blk_drew ?_ | refine blk_alloc ?_ _)); exact BK269.out⟩, ⟨by (with_reducible repeat (first | refine blk_drewN ?_ _ | refine blk_drew ?_ | refine blk_alloc ?_ _)); exact BK281.out⟩, ⟨by repeat (first | (with_reducible first | exact HB.out | apply below_alloc | apply pw_below_drewN | apply below_drew1 | refine below_set ?_ GE269.out | refine below_set ?_ GE281.out) | exact HB.out)⟩⟩
                      · rw [if_neg c31] at H
                        exact absurd H (by simp)
                    · rw [if_neg c30] at H
                      exact absurd H (by simp)
                  · replace c29 := Bool.eq_false_iff.mpr c29
                    subst c29
                    have H1 : (some (([] : List Int), false)) = some (r1, r2) := by rw [if_neg (show ¬ (false = true) by decide)] at H; exact H
                    clear H
                    have H := H1
                    clear H1
                    simp only [Option.some.injEq, Prod.mk.injEq] at H
                    obtain ⟨rfl, rfl⟩ := H
                    go_wp2
                    go_ret2
                    exact ⟨_, by first | rfl | (simp [errW_none, errW_some] <;> rfl) | (simp only [← hji7]; first | rfl | (simp [errW_none, errW_some] <;> rfl)) | (simp [*, errW_none, errW_some] <;> rfl), by first | exact Kd.R_nil _ _ _ _ _ | exact Kd.N_nil _ _ _ _ _ | exact Kd.V_nil _ _ _ _ _ | exact Kd.Q_nil _ _ _ _ _ | exact Kd.S_nil _ _ _ _ _, by repeat (first | (with_reducible first | exact HB.out | apply below_alloc | apply pw_below_drewN | apply below_drew1 | refine below_set ?_ GE269.out | refine below_set ?_ GE281.out) | exact HB.out)⟩
        · rw [if_neg c11] at H
          exact absurd H (by simp)
      · rw [if_neg c9] at H
        exact absurd H (by simp)
    · rw [if_neg c8] at H
      exact absurd H (by simp)

-- NOT PRINTED: function 84 (dom_goUpForever)

-- NOT PRINTED: function 66 (dom_GetNextNeighborNode)

-- NOT PRINTED: function 74 (dom_FirstChildElement)

-- NOT PRINTED: function 77 (dom_NextSiblingElement)

-- NOT PRINTED: function 67 (dom_GetNextNeighborElement)

-- NOT PRINTED: function 85 (dom_skipFirstChild)

-- NOT PRINTED: function 68 (dom_GetNextNeighborNodeExcludingOwnChild)

-- NOT PRINTED: function 69 (dom_GetNextNeighborElementExcludingOwnChild)

-- NOT PRINTED: function 75 (dom_PrevSiblingNode)

-- NOT PRINTED: function 70 (dom_GetPrevNeighborNode)

-- NOT PRINTED: function 76 (dom_PrevSiblingElement)

-- NOT PRINTED: function 71 (dom_GetPrevNeighborElement)

-- NOT PRINTED: function 72 (dom_GetPrevNeighborNodeExcludingOwnChild)

-- NOT PRINTED: function 73 (dom_GetPrevNeighborElementExcludingOwnChild)

-- NOT PRINTED: function 49 (impl_neighbor)

-- NOT PRINTED: function 26 (impl_Neighbor)

-- NOT PRINTED: function 6 (laws_FnDomSibling)

end Go.Proofs.Ytibfoaahdbdogaa.PDom

/- Printed by the program extprint.py of this session, out of the kit's print and contracts of this session's own; Lean checks it. -/
namespace Go.Proofs.Ytibfoaahdbdogaa.PDom
open Go.RowKit Go.Proofs.YtibfoaahdbdogaaW.PrintWords Go.Proofs.YtibfoaahdbdogaaW.PrintLast Go.Proofs.YtibfoaahdbdogaaW.PrintMore
attribute [local go_sem] max2_int min2_int max_two min_two max_three min_three max_four min_four   -- for this text's walks alone
set_option linter.unusedVariables false
set_option linter.unusedSimpArgs false

theorem eqA78 (d : Nat) (w : World) (x0 y0 : ByteArray) (x1 y1 : ByteArray) :
    (Op.equalIn (d + 2) 78 (.agg #[.string x0, .string x1]) (.agg #[.string y0, .string y1])).run Try.prog w = .ok (x0.toList == y0.toList && (x1.toList == y1.toList)) w := by
  refine eqA_of Try.underlying78 (by kernel_rfl) ?_
  refine eqf_cons (by rfl) (by go_simp; rfl) (by go_simp; rfl) (by go_simp) ?_
  exact eqf_last (by rfl) (by go_simp; rfl) (by go_simp; rfl) (by go_simp)
end Go.Proofs.Ytibfoaahdbdogaa.PDom

/- impl.AllNodes: its contract. -/
namespace Go.Proofs.Ytibfoaahdbdogaa.PDom
open Go.RowKit Go.Proofs.YtibfoaahdbdogaaW.PrintWords Go.Proofs.YtibfoaahdbdogaaW.PrintLast Go.Proofs.YtibfoaahdbdogaaW.PrintMore Go.Proofs.Ytibfoaahdbdogaa.Dom
set_option linter.unusedVariables false
set_option linter.unusedSimpArgs false

abbrev kI : Kd (List Int) := Kd.slice 3 (Kd.int .i64)
theorem infoI : (Try.prog.info? 32).map (fun i => (i.zero, i.size, i.bytes)) = some (some (.slice none 0 0), 1, 24) := by kernel_rfl
theorem FK_of_R {w : World} {base : Nat} {v : Value} {xs : List Int} (h : (Kd.int .i64).R 3 w base (fun _ => True) v xs) : Kd.FK kI w (fun k => base ≤ k) xs [v] := by
  obtain ⟨_, inner, hown, hr⟩ := h
  have h2 : (Kd.int .i64).R 3 w base (fun k => base ≤ k) v xs := ⟨fun k hk => own_base hown k hk, inner, hown, hr.imp_ (fun _ _ h => h)⟩
  exact Kd.FK_of_M (Kd.M_row h2)
set_option maxHeartbeats 4000000 in
set_option maxRecDepth 100000 in
theorem allnodes_walk (t : T) (hn : Norm true t) (hc : countT t ≤ 300) (ht : Fit t) (w : World) (A3 : Option Addr) (c3 : Nat) (A4 : Option Addr) (c4 : Nat) (h3 : Kd.C k78 w A3 t.f3.length t.f3) (l3 : t.f3.length ≤ c3) (h4 : Kd.C k25 w A4 t.f4.length t.f4) (l4 : t.f4.length ≤ c4) :
    Calls Try.prog 13 #[.agg #[.int .i64 t.f0, .string t.f1, .string t.f2, .slice A3 t.f3.length c3, .slice A4 t.f4.length c4]] w fun e w' => ∃ v : Value, e = .returned v ∧ Kd.N kI 32 w' w.heap.size (fun k => w.heap.size ≤ k) v (pathsT [] t) ∧ Below w.heap.size w w' := by
  have HB0 := Aside0.mk (below_alloc (Below.refl w.heap.size w) (Obj.cells #[Value.int IntKind.i64 t.f0, Value.string t.f1, Value.string t.f2, Value.slice A3 t.f3.length c3, Value.slice A4 t.f4.length c4] 25))
  have HM := Aside0.mk (made_calls _ t (Nat.le_refl _) ht _ A3 c3 A4 c4 (Kd.C_below h3 HB0.out) l3 (Kd.C_below h4 HB0.out) l4)
  clear h3 l3 h4 l4
  have HN := Aside0.mk hn
  have HC := Aside0.mk hc
  clear hn hc ht
  go_enter Try.func13, Try.ntmps13
  go_wp2_with fail
  refine HM.out.mono ?_
  rintro e w1 ⟨b, D, rfl, hm⟩
  have hb1 := below_step HB0.out hm.below
  obtain ⟨i0, hi0⟩ : ∃ i, D b = some i := by
    obtain ⟨_, _, i, h, _⟩ := hm.tree
    exact ⟨i, h⟩
  obtain ⟨r, rfl, hr, hto⟩ := hm.tree.rt hm.dom.wf i0 hi0
  have hroot := hm.root i0 hi0
  rw [hroot] at hr
  obtain ⟨hpa, hpl⟩ := told_paths r t true HN.out hto
  have hall := Is.paths (root := r.id) r none [] hr (PathTo.root _ hr.root (by cases r; rfl))
  rw [hpa] at hall
  have hsm := paths_small r []
  rw [hpa, hpl] at hsm
  have HD := Aside0.mk hm.dom
  have HA := Aside0.mk (all_calls w1 D hm.dom none r hr 300 (by omega) (by rw [hpl]; exact HC.out))
  have HB1 := Aside0.mk hb1
  have HS := Aside0.mk hsm
  have HP := Aside0.mk hall
  have HLN := Aside0.mk (show (pathsT [] t).length ≤ 300 by rw [← HP.out.length, hpl]; exact HC.out)
  clear hsm hall hpa hpl hroot hto hr hi0 hm hb1 HM
  generalize r.id = root at *
  generalize r.pre = l at *
  generalize hpe : pathsT [] t = ps at *
  have HPE := Aside0.mk hpe
  clear hpe
  simp only [ptr_some] at HA ⊢
  go_wp2_with (go_at_call 38; go_must (refine HA.out.mono ?_; rintro e w2 ⟨v2, rfl, ho2, hb2⟩; obtain ⟨A2, c2, rfl, hc2, hC2⟩ := Kd.R_reads ho2; have HC2 := Aside0.mk hC2; have HB2 := Aside0.mk hb2; clear hc2 hC2 ho2 hb2))
  have HBN := Aside0.mk (below_step HB1.out HB2.out)
  have HD2 := Aside0.mk (HD.out.below HB2.out)
  clear HA
  have hlp : l.length ≤ 300 := by rw [HP.out.length]; exact HLN.out
  go_loopw [3, 10] (fun vo vi wr => ∃ j : Nat, j ≤ l.length ∧ vi = .int .i64 j ∧ Aside0 (Kd.N kI 32 wr w2.heap.size (fun k => w2.heap.size ≤ k) vo (ps.take j)) ∧ Aside0 (Below w2.heap.size w2 wr)) (fun _ i _ => l.length - (intOf i).toNat)
  case atStart => exact ⟨0, Nat.zero_le _, rfl, ⟨Kd.N_nil _ _ _ _ _⟩, ⟨Below.refl _ _⟩⟩
  case round =>
    obtain ⟨j, hj, rfl, HO, HB⟩ := hrel
    by_cases hlt : j < l.length
    · obtain ⟨ad, c, rfl, hcl, hK, hcc⟩ := Kd.C_get (Kd.C_below HC2.out HB.out) 0 (j : Int) (by omega) (by omega)
      have hx := hcc 0 (ptr (some (l.getD j 0))) (by rw [hK]; rfl)
      have hsz1 : kP.sz = 1 := rfl
      have he : l.getD j 0 = l[j] := by simp [List.getD_eq_getElem?_getD, List.getElem?_eq_getElem hlt]
      have hjp : j < ps.length := by rw [← HP.out.length]; exact hlt
      rw [he] at hx
      simp only [Int.toNat_natCast, hsz1, Nat.mul_one, Nat.add_zero] at hx
      have hpa := HP.out.get j hlt hjp
      have hq := HS.out ps[j] (List.getElem_mem hjp)
      have hcn := HC.out
      have hps : ps.take (j + 1) = ps.take j ++ [ps[j]] := List.take_succ_eq_append_getElem hjp
      have hlen : (ps.take j).length ≤ 300 := by rw [List.length_take]; omega
      generalize l[j] = x at *
      generalize ps[j] = q at *
      have HPC := Aside0.mk (path_calls wr D root x q (HD2.out.below HB.out) hpa (by have := hq.1; simp at this; omega) (fun y hy => by rcases hq.2 y hy with h | h; cases h; omega))
      have HPS := Aside0.mk hps
      have hlo := Kd.N_lt HO.out
      have HOL := Aside0.mk hlo
      have HSZ := Aside0.mk (show w2.heap.size ≤ wr.heap.size from HB.out.size)
      clear he hcl hK hcc hsz1 hpa hq hps hlo hcn hjp
      simp only [ptr_some] at hx HPC
      go_wp2_with fail
      refine HPC.out.mono ?_
      rintro e w3 ⟨v0, rfl, hR, hB⟩
      have HO1 := Aside0.mk (Kd.N_below HO.out hB)
      have HB3 := Aside0.mk (below_step HB.out hB)
      obtain ⟨A5, c5, rfl, _, _⟩ := Kd.R_reads hR
      have HF := Aside0.mk (FK_of_R hR)
      clear hR hB
      go_wp2_with ((with_reducible refine gate_builtin (b := .append) (xs := #[.tmp 14, .tmp 17]) rfl ?_); at_builtin; go_must (refine Kd.N_append kI (w0 := w2) w2.heap.size rfl (.tmp 14) (.tmp 17) 29 32 (.slice none 0 0) 24 rfl Try.underlying29 infoI rfl (by decide) (by omega) u3 (ps.take j) q [.slice A5 q.length c5] (fun k => w2.heap.size ≤ k) (fun k => wr.heap.size ≤ k) rfl (by go_simp) HF.out (fun k hk => ⟨Nat.le_trans HSZ.out hk, fun e => by have := HOL.out k e.symm; omega⟩) (fun k hk => Nat.le_trans HB3.out.size hk) HO1.out HB3.out HB3.out.size (by omega) ?_))
      intro v1 w4 ho hb hg hat
      have HO2 := Aside0.mk (show Kd.N kI 32 w4 w2.heap.size (fun k => w2.heap.size ≤ k) v1 (ps.take (j + 1)) by rw [HPS.out]; exact ho)
      have HB4 := Aside0.mk hb
      clear ho hb hg hat
      go_wp2
      go_roundw
      case rel => exact ⟨j + 1, by omega, by go_num, HO2, HB4⟩
      case measure => simp [intOf]; omega
    · have hje : j = l.length := by omega
      subst hje
      have hO := HO.out
      rw [List.take_of_length_le (by rw [← HP.out.length]; exact Nat.le_refl _)] at hO
      go_wp2
      go_ret
      exact ⟨_, rfl, by rw [HPE.out]; exact Kd.N_mono (Kd.N_lower hO HBN.out.size) (fun k hk => Nat.le_trans HBN.out.size hk), below_step HBN.out HB.out⟩

def impl_AllNodes.f (k : Nat) (a0_0 : Int) (a0_1 : ByteArray) (a0_2 : ByteArray) (l0_3 : List (S78)) (l0_4 : List (S25)) : Option (List (List Int)) :=
  (laws_tree29.f k a0_0 a0_1 a0_2 l0_3 l0_4).bind fun b => if b = true then (if fitB k ⟨a0_0, a0_1, a0_2, l0_3, l0_4⟩ = true then some (pathsT [] ⟨a0_0, a0_1, a0_2, l0_3, l0_4⟩) else none) else none
theorem impl_AllNodes.mono : ∀ a0 a1 a2 a3 a4 k, LeO (impl_AllNodes.f k a0 a1 a2 a3 a4) (impl_AllNodes.f (k + 1) a0 a1 a2 a3 a4) := by
  intro a0 a1 a2 a3 a4 k
  unfold impl_AllNodes.f
  refine LeO.bind (laws_tree29.mono _ _ _ _ _ _) (fun b => ?_)
  by_cases hb : b = true
  · rw [if_pos hb, if_pos hb]
    by_cases hf : fitB k ⟨a0, a1, a2, a3, a4⟩ = true
    · rw [if_pos hf, if_pos (fitB_mono _ _ hf)]
      exact LeO.refl _
    · rw [if_neg hf]
      exact LeO.none _
  · rw [if_neg hb]
    exact LeO.none _
theorem impl_AllNodes.calls (k : Nat) (a0_0 : Int) (a0_1 : ByteArray) (a0_2 : ByteArray) (A0_3 : Option Addr) (c0_3 : Nat) (l0_3 : List (S78)) (A0_4 : Option Addr) (c0_4 : Nat) (l0_4 : List (S25)) (r : List (List Int)) (w : World) (hr0_3 : Kd.C k78 w A0_3 l0_3.length l0_3) (hc0_3 : l0_3.length ≤ c0_3) (hr0_4 : Kd.C k25 w A0_4 l0_4.length l0_4) (hc0_4 : l0_4.length ≤ c0_4) (h : impl_AllNodes.f k a0_0 a0_1 a0_2 l0_3 l0_4 = some r) :
    Calls Try.prog 13 #[.agg #[.int .i64 a0_0, .string a0_1, .string a0_2, .slice A0_3 l0_3.length c0_3, .slice A0_4 l0_4.length c0_4]] w fun e w' => ∃ v0_ : Value, e = .returned (v0_) ∧ Kd.N (Kd.slice 3 (Kd.int .i64)) 32 w' w.heap.size (fun k_ => w.heap.size ≤ k_) v0_ r ∧ Below w.heap.size w w' := by
  obtain ⟨hb, hfit, hr⟩ : laws_tree29.f k a0_0 a0_1 a0_2 l0_3 l0_4 = some true ∧ fitB k ⟨a0_0, a0_1, a0_2, l0_3, l0_4⟩ = true ∧ pathsT [] ⟨a0_0, a0_1, a0_2, l0_3, l0_4⟩ = r := by
    unfold impl_AllNodes.f at h
    obtain ⟨b, hb, h2⟩ := Option.bind_eq_some_iff.1 h
    split at h2
    case isFalse => cases h2
    rename_i hbt
    subst hbt
    split at h2
    case isFalse => cases h2
    rename_i hf
    exact ⟨hb, hf, Option.some.inj h2⟩
  have ht := fitB_fit _ _ hfit
  obtain ⟨hn, hc, _⟩ := tree_norm (t := ⟨a0_0, a0_1, a0_2, l0_3, l0_4⟩) ht hb
  have hw := allnodes_walk ⟨a0_0, a0_1, a0_2, l0_3, l0_4⟩ hn hc ht w A0_3 c0_3 A0_4 c0_4 hr0_3 hc0_3 hr0_4 hc0_4
  rw [hr] at hw
  exact hw
end Go.Proofs.Ytibfoaahdbdogaa.PDom

/- Printed by the program extprint.py of this session, out of the kit's print and contracts of this session's own; Lean checks it. -/
namespace Go.Proofs.Ytibfoaahdbdogaa.PDom
open Go.RowKit Go.Proofs.YtibfoaahdbdogaaW.PrintWords Go.Proofs.YtibfoaahdbdogaaW.PrintLast Go.Proofs.YtibfoaahdbdogaaW.PrintMore
attribute [local go_sem] max2_int min2_int max_two min_two max_three min_three max_four min_four   -- for this text's walks alone
set_option linter.unusedVariables false
set_option linter.unusedSimpArgs false

-- NOT PRINTED: function 36 (dom_NodeName)


-- NOT PRINTED: function 58 (html_Node_AppendChild)

-- NOT PRINTED: function 37 (impl_made)


-- NOT PRINTED: function 38 (dom_AllNodes)

-- NOT PRINTED: function 39 (impl_pathOf)




/-! ### laws_living29: function 23 -/
def laws_living29.f (k : Nat)  : Option (Bool) := (laws_text29.f (⟨#[97]⟩ : ByteArray)).bind fun bt103 => ((laws_tag29.f (⟨#[112]⟩ : ByteArray) (([(⟨bt103.1, bt103.2.1, bt103.2.2.1, bt103.2.2.2.1, bt103.2.2.2.2⟩ : S25)] : List (S25)))).bind fun bt115 => ((impl_NameOf.f k bt115.1 bt115.2.1 bt115.2.2.1 bt115.2.2.2.1 bt115.2.2.2.2).bind fun t125 => (if t125.toList = ([112] : List UInt8) then ((impl_AllNodes.f k bt115.1 bt115.2.1 bt115.2.2.1 bt115.2.2.2.1 bt115.2.2.2.2).bind fun t126 => (some ((t126.length : Int) == 2))) else (some false))))
theorem laws_living29.mono : ∀ k, LeO (laws_living29.f k ) (laws_living29.f (k + 1) ) := by
  intro  k
  unfold laws_living29.f
  repeat' first
      | (with_reducible exact impl_AllNodes.mono _ _ _ _ _ _)
      | (with_reducible exact impl_NameOf.mono _ _ _ _ _ _)
      | (with_reducible exact LeO.refl _)
      | (with_reducible exact LeO.none _)
      | (with_reducible refine LeO.ite ?_ ?_)
      | (with_reducible refine LeO.bind ?_ (fun _ => ?_))
      | exact impl_AllNodes.mono _ _ _ _ _ _
      | exact impl_NameOf.mono _ _ _ _ _ _
      | exact LeO.none _
      | refine LeO.ite ?_ ?_
      | refine LeO.bind ?_ (fun _ => ?_)
set_option maxHeartbeats 8000000 in
set_option maxRecDepth 100000 in
theorem laws_living29.calls (k : Nat)  (r : Bool) (w : World) (h : laws_living29.f k  = some r) :
    Calls Try.prog 23 #[] w fun e w' => e = .returned (.bool r) ∧ Below w.heap.size w w' := by
  have hu25 := Try.underlying25
  have HB := Aside0.mk (Below.refl w.heap.size w)
  have H : ((laws_text29.f (⟨#[97]⟩ : ByteArray)).bind fun bt103 => ((laws_tag29.f (⟨#[112]⟩ : ByteArray) (([(⟨bt103.1, bt103.2.1, bt103.2.2.1, bt103.2.2.2.1, bt103.2.2.2.2⟩ : S25)] : List (S25)))).bind fun bt115 => ((impl_NameOf.f k bt115.1 bt115.2.1 bt115.2.2.1 bt115.2.2.2.1 bt115.2.2.2.2).bind fun t125 => (if t125.toList = ([112] : List UInt8) then ((impl_AllNodes.f k bt115.1 bt115.2.1 bt115.2.2.1 bt115.2.2.2.1 bt115.2.2.2.2).bind fun t126 => (some ((t126.length : Int) == 2))) else (some false))))) = some r := h
  clear h
  replace H := Option.bind_eq_some_iff.mp H
  obtain ⟨⟨t103, t104, t105, t106, t109⟩, A10, H⟩ := H
  replace H : ((laws_tag29.f (⟨#[112]⟩ : ByteArray) (([(⟨t103, t104, t105, t106, t109⟩ : S25)] : List (S25)))).bind fun bt115 => ((impl_NameOf.f k bt115.1 bt115.2.1 bt115.2.2.1 bt115.2.2.2.1 bt115.2.2.2.2).bind fun t125 => (if t125.toList = ([112] : List UInt8) then ((impl_AllNodes.f k bt115.1 bt115.2.1 bt115.2.2.1 bt115.2.2.2.1 bt115.2.2.2.2).bind fun t126 => (some ((t126.length : Int) == 2))) else (some false)))) = some r := H
  have A1 := Aside0.mk A10
  clear A10
  obtain ⟨y112, hy112⟩ : ∃ y_ : List (S25), y_ = (([(⟨t103, t104, t105, t106, t109⟩ : S25)] : List (S25))) := ⟨_, rfl⟩
  replace H : ((laws_tag29.f (⟨#[112]⟩ : ByteArray) y112).bind fun bt115 => ((impl_NameOf.f k bt115.1 bt115.2.1 bt115.2.2.1 bt115.2.2.2.1 bt115.2.2.2.2).bind fun t125 => (if t125.toList = ([112] : List UInt8) then ((impl_AllNodes.f k bt115.1 bt115.2.1 bt115.2.2.1 bt115.2.2.2.1 bt115.2.2.2.2).bind fun t126 => (some ((t126.length : Int) == 2))) else (some false)))) = some r := by first | (rw [hy112]; with_reducible exact H) | (have H2_ := (Option.bind_some _ _).symm.trans H; rw [hy112]; with_reducible exact H2_) | (have H2_ := (Option.bind_some _ _).symm.trans H; with_reducible exact H2_) | with_reducible exact H | (rw [hy112]; exact H) | exact H
  have Ny112 := Aside0.mk hy112
  clear hy112
  replace H := Option.bind_eq_some_iff.mp H
  obtain ⟨⟨t115, t116, t117, t118, t121⟩, A20, H⟩ := H
  replace H : ((impl_NameOf.f k t115 t116 t117 t118 t121).bind fun t125 => (if t125.toList = ([112] : List UInt8) then ((impl_AllNodes.f k t115 t116 t117 t118 t121).bind fun t126 => (some ((t126.length : Int) == 2))) else (some false))) = some r := H
  have A2 := Aside0.mk A20
  clear A20
  replace H := Option.bind_eq_some_iff.mp H
  obtain ⟨t125, A30, H⟩ := H
  replace H : (if t125.toList = ([112] : List UInt8) then ((impl_AllNodes.f k t115 t116 t117 t118 t121).bind fun t126 => (some ((t126.length : Int) == 2))) else (some false)) = some r := H
  have A3 := Aside0.mk A30
  clear A30
  by_cases c4 : t125.toList = ([112] : List UInt8)
  · rw [if_pos c4] at H
    have c4b0 : (t125.toList == ([112] : List UInt8)) = true := beq_iff_eq.mpr c4
    have c4b1 : (t125.toList != ([112] : List UInt8)) = false := bne_eq_false_iff_eq.mpr c4
    clear c4
    replace H := Option.bind_eq_some_iff.mp H
    obtain ⟨t126, A50, H⟩ := H
    replace H : (some ((t126.length : Int) == 2)) = some r := H
    have A5 := Aside0.mk A50
    clear A50
    obtain rfl := Option.some.inj H
    go_enter Try.func23, Try.ntmps23
    go_wp2_with (first | ((with_reducible refine gate_callee (f := 47) rfl ?_); refine goesL_ (some 2) rfl rfl Try.func47 (by kernel_rfl) rfl #[.string (⟨#[97]⟩ : ByteArray)] rfl (by (try simp only [List.map_toArray, List.map_cons, List.map_nil]); first | done | rfl | (simp only [List.length_drop, List.length_take]; rfl)) ?_; (with_reducible refine (laws_text29.calls (⟨#[97]⟩ : ByteArray) t103 t104 t105 t106 t109 _ A1.out).mono ?_); rintro e w6 ⟨v107, v110, rfl, ho0, ho1, hb⟩; refine ⟨_, rfl, ?_⟩; have n0_ := Aside0.mk (Kd.R_lower ho0 (below_size (by repeat (first | (with_reducible first | exact HB.out | apply below_alloc | apply pw_below_drewN | apply below_drew1) | exact HB.out)))); have n1_ := Aside0.mk (Kd.N_lower (Kd.N_mono (ok' := fun k_ => some k_ ≠ (v107 : Value).ownBlock) (Kd.R_N (Kd.R_bound ho1)) (fun k_ hk_ => hk_.1)) (below_size (by repeat (first | (with_reducible first | exact HB.out | apply below_alloc | apply pw_below_drewN | apply below_drew1) | exact HB.out)))); have n2_ := Aside0.mk (below_step (by repeat (first | (with_reducible first | exact HB.out | apply below_alloc | apply pw_below_drewN | apply below_drew1) | exact HB.out)) hb); clear HB; have HO108 := n0_; have HO111 := n1_; have HB := n2_; clear n0_ n1_ n2_; (try clear hb); (try clear hb2); (try clear hk); (try clear hi); (try clear ho0); (try clear ho1); obtain ⟨Ao7, co7, eo7⟩ := Kd.R_slice HO108.out; subst eo7; obtain ⟨Ao8, co8, eo8⟩ := Kd.N_slice HO111.out; subst eo8) | ((with_reducible refine gate_dst (N := 3) rfl ?_); (try (refine gate_guard (by rfl) ?_; dsimp only)); refine Kd.N_lit k25 _ 25 ?hg (N' := 3) ?hd (xs := ([(⟨t103, t104, t105, t106, t109⟩ : S25)] : List (S25))) (inner := [.int .i64 t103, .string t104, .string t105, .slice Ao7 t106.length co7, .slice Ao8 t109.length co8]) (ok := (fun _ => True)) (okp := (fun _ => True)) ?hr ?hp (fun _ hk => hk) ((show ∀ k_, w6.heap.size ≤ k_ → (fun _ => True) k_ from fun k_ hk => trivial) _ (Nat.le_refl _)) (Below.refl _ _) (Nat.le_refl _) (by simp) ?_; (case hd => rfl); (case hg => rfl); (case hr => first | (go_simp; done) | (go_simp; rfl)); (case hp => exact (Reps.c5 (show Kd.FK k25 _ _ (⟨t103, t104, t105, t106, t109⟩ : S25) [.int .i64 t103, .string t104, .string t105, .slice Ao7 t106.length co7, .slice Ao8 t109.length co8] from (k25_mkF _ _ (⟨t103, t104, t105, t106, t109⟩ : S25) (Kd.R_reads' (Kd.R_mono (ok' := (fun _ => True)) (HO108.out) (fun k_ hk => trivial))).2.1 (Kd.R_F (Kd.R_mono (ok' := (fun _ => True)) (HO108.out) (fun k_ hk => trivial))) (Kd.N_reads' (Kd.N_mono (ok' := (fun _ => True)) (HO111.out) (fun k_ hk => trivial))).2.1 (Kd.N_F (Kd.N_mono (ok' := (fun _ => True)) (HO111.out) (fun k_ hk => trivial))))) (Reps.none _ _))); intro v113 w9 ho10 hb hg_ hnew_; clear hg_ hnew_; (first | rw [← Ny112.out] at ho10 | (simp only [Int.reduceToNat] at ho10; rw [← Ny112.out] at ho10)); have n0_ := Aside0.mk (Kd.N_lower ho10 (below_size (by repeat (first | (with_reducible first | exact HB.out | apply below_alloc | apply pw_below_drewN | apply below_drew1) | exact HB.out)))); have n1_ := Aside0.mk (below_step (by repeat (first | (with_reducible first | exact HB.out | apply below_alloc | apply pw_below_drewN | apply below_drew1) | exact HB.out)) hb); clear HB; clear HO108; clear HO111; have HO114 := n0_; have HB := n1_; clear n0_ n1_; clear hb ho10; obtain ⟨Ao11, co11, eo11⟩ := Kd.N_slice HO114.out; subst eo11) | ((with_reducible refine gate_callee (f := 46) rfl ?_); refine goesL_ (some 4) rfl rfl Try.func46 (by kernel_rfl) rfl #[.string (⟨#[112]⟩ : ByteArray), .slice Ao11 y112.length co11] rfl (by (try simp only [List.map_toArray, List.map_cons, List.map_nil]); first | done | rfl | (simp only [List.length_drop, List.length_take]; rfl)) ?_; (with_reducible refine (laws_tag29.calls (⟨#[112]⟩ : ByteArray) (fun k_ => True) _ _ y112 t115 t116 t117 t118 t121 _ ?side1 A2.out).mono ?_); (case side1 => exact Kd.N_V (HO114.out)); rintro e w12 ⟨v119, v122, rfl, ho0, ho1, hb⟩; refine ⟨_, rfl, ?_⟩; have n0_ := Aside0.mk (Kd.N_elder' (by (with_reducible repeat (first | apply Kd.N_alloc | apply Kd.N_drewN | apply Kd.N_drew)); exact HO114.out) (Kd.R_base ho0) hb); have n1_ := Aside0.mk (Kd.R_lower (Kd.R_mono (ok' := fun k_ => True) ho0 (fun _ hk_ => trivial)) (below_size (by repeat (first | (with_reducible first | exact HB.out | apply below_alloc | apply pw_below_drewN | apply below_drew1) | exact HB.out)))); have n2_ := Aside0.mk (Kd.V_lower (Kd.V_mono (ok' := fun k_ => some k_ ≠ (v119 : Value).ownBlock) ho1 (fun k_ hk_ => hk_.2)) (below_size (by repeat (first | (with_reducible first | exact HB.out | apply below_alloc | apply pw_below_drewN | apply below_drew1) | exact HB.out)))); have n3_ := Aside0.mk (below_step (by repeat (first | (with_reducible first | exact HB.out | apply below_alloc | apply pw_below_drewN | apply below_drew1) | exact HB.out)) hb); clear HO114; clear HB; have HO114 := n0_; have HO120 := n1_; have HO123 := n2_; have HB := n3_; clear n0_ n1_ n2_ n3_; (try clear hb); (try clear hb2); (try clear hk); (try clear hi); (try clear ho0); (try clear ho1)) | ((with_reducible refine gate_dst (N := 1) rfl ?_); (try (refine gate_guard (by rfl) ?_; dsimp only)); refine box_event ?hg (N := 1) ?hd (cs := #[.int .i64 0, .string (⟨#[]⟩ : ByteArray), .string (⟨#[]⟩ : ByteArray), .slice none 0 0, .slice none 0 0]) (t := 25) ?hr ?_; (case hd => rfl); (case hg => rfl); (case hr => first | (go_simp; done) | (go_simp; rfl)); intro gb124 hg w13 hbox hb; have n0_ := Aside0.mk (Kd.N_below (Kd.N_elderB (by (with_reducible repeat (first | apply Kd.N_alloc | apply Kd.N_drewN | apply Kd.N_drew)); exact HO114.out) gb124 (Nat.le_of_eq hg.symm)) hb); have n1_ := Aside0.mk (Kd.R_below (by (with_reducible repeat (first | apply Kd.R_alloc | apply Kd.R_drewN | apply Kd.R_drew)); exact HO120.out) hb); have n2_ := Aside0.mk (Kd.V_below (Kd.V_elderB (by (with_reducible repeat (first | apply Kd.V_alloc | apply Kd.V_drewN | apply Kd.V_drew)); exact HO123.out) gb124 (Nat.le_of_eq hg.symm)) hb); have n3_ := Aside0.mk (below_step (by repeat (first | (with_reducible first | exact HB.out | apply below_alloc | apply pw_below_drewN | apply below_drew1) | exact HB.out)) hb); have n4_ := Aside0.mk (hbox); have n5_ := Aside0.mk ((by rw [hg]; exact (below_size (by repeat (first | (with_reducible first | exact HB.out | apply below_alloc | apply pw_below_drewN | apply below_drew1) | exact HB.out))) : w.heap.size ≤ gb124)); have n6_ := Aside0.mk ((by rw [hg]; exact (below_size (by repeat (first | (with_reducible first | exact HB.out | apply below_alloc | apply pw_below_drewN | apply below_drew1) | exact HB.out))) : w.heap.size ≤ gb124)); clear HO114; clear HO120; clear HO123; clear HB; have HO114 := n0_; have HO120 := n1_; have HO123 := n2_; have HB := n3_; have BK124 := n4_; have GW124 := n5_; have GE124 := n6_; clear n0_ n1_ n2_ n3_ n4_ n5_ n6_; clear hb hbox hg; have hcz14_0 : w13.cell? ⟨gb124, 0, none⟩ = some (.int .i64 0) := (blk_cell BK124.out 0).trans rfl; have hcz14_1 : w13.cell? ⟨gb124, 1, none⟩ = some (.string (⟨#[]⟩ : ByteArray)) := (blk_cell BK124.out 1).trans rfl; have hcz14_2 : w13.cell? ⟨gb124, 2, none⟩ = some (.string (⟨#[]⟩ : ByteArray)) := (blk_cell BK124.out 2).trans rfl; have hcz14_3 : w13.cell? ⟨gb124, 3, none⟩ = some (.slice none 0 0) := (blk_cell BK124.out 3).trans rfl; have hcz14_4 : w13.cell? ⟨gb124, 4, none⟩ = some (.slice none 0 0) := (blk_cell BK124.out 4).trans rfl; have hfz14_0 := blk_frozen BK124.out 0; have hfz14_1 := blk_frozen BK124.out 1; have hfz14_2 := blk_frozen BK124.out 2; have hfz14_3 := blk_frozen BK124.out 3; have hfz14_4 := blk_frozen BK124.out 4; obtain ⟨Ao15, co15, eo15⟩ := Kd.R_slice HO120.out; subst eo15; obtain ⟨Ao16, co16, eo16⟩ := Kd.V_slice HO123.out; subst eo16) | ((with_reducible refine gate_callee (f := 11) rfl ?_); refine goesL_ (some 6) rfl rfl Try.func11 (by kernel_rfl) rfl #[.agg #[.int .i64 t115, .string t116, .string t117, .slice Ao15 t118.length co15, .slice Ao16 t121.length co16]] rfl (by (try simp only [List.map_toArray, List.map_cons, List.map_nil]); first | done | rfl | (simp only [List.length_drop, List.length_take]; rfl)) ?_; (with_reducible refine (impl_NameOf.calls k t115 t116 t117 _ _ t118 _ _ t121 t125 _ ?side1 ?side2 ?side3 ?side4 A3.out).mono ?_); (case side1 => refine (Kd.R_reads' (e := 78) (base := w.heap.size) (ok := fun k_ => True) (n := t118.length) (c := co15) ?_).2.2; exact (by (with_reducible repeat (first | apply Kd.R_alloc | apply Kd.R_drewN | apply Kd.R_drew)); exact (Kd.R_mono (Kd.R_far (p := ⟨gb124, 4, none⟩) (Kd.R_far (p := ⟨gb124, 3, none⟩) (Kd.R_far (p := ⟨gb124, 2, none⟩) (Kd.R_far (p := ⟨gb124, 1, none⟩) (Kd.R_far (p := ⟨gb124, 0, none⟩) (Kd.R_types HO120.out BK124.out (by decide)) (fun _ hk => hk.2) (.int .i64 t115)) (fun _ hk => hk.2) (.string t116)) (fun _ hk => hk.2) (.string t117)) (fun _ hk => hk.2) (.slice Ao15 t118.length co15)) (fun _ hk => hk.2) (.slice Ao16 t121.length co16)) (fun _ h_ => h_.1)))); (case side2 => exact (Kd.R_reads' HO120.out).2.1); (case side3 => refine (Kd.V_reads' (e := 25) (base := w.heap.size) (ok := fun k_ => (some k_ ≠ (.slice Ao15 t118.length co15 : Value).ownBlock ∧ k_ ≠ gb124)) (n := t121.length) (c := co16) ?_).2.2; exact (by (with_reducible repeat (first | apply Kd.V_alloc | apply Kd.V_drewN | apply Kd.V_drew)); exact (Kd.V_mono (Kd.V_far (p := ⟨gb124, 4, none⟩) (Kd.V_far (p := ⟨gb124, 3, none⟩) (Kd.V_far (p := ⟨gb124, 2, none⟩) (Kd.V_far (p := ⟨gb124, 1, none⟩) (Kd.V_far (p := ⟨gb124, 0, none⟩) (Kd.V_mono HO123.out (fun k_ hk => (⟨hk, hk.2⟩ : _ ∧ k_ ≠ gb124))) (fun _ hk => hk.2) (.int .i64 t115)) (fun _ hk => hk.2) (.string t116)) (fun _ hk => hk.2) (.string t117)) (fun _ hk => hk.2) (.slice Ao15 t118.length co15)) (fun _ hk => hk.2) (.slice Ao16 t121.length co16)) (fun _ h_ => h_.1)))); (case side4 => exact (Kd.V_reads' HO123.out).2.1); rintro e w17 ⟨rfl, hb⟩; refine ⟨_, rfl, ?_⟩; have n0_ := Aside0.mk (Kd.N_below (by (with_reducible repeat (first | apply Kd.N_alloc | apply Kd.N_drewN | apply Kd.N_drew)); exact (Kd.N_mono (Kd.N_far (p := ⟨gb124, 4, none⟩) (Kd.N_far (p := ⟨gb124, 3, none⟩) (Kd.N_far (p := ⟨gb124, 2, none⟩) (Kd.N_far (p := ⟨gb124, 1, none⟩) (Kd.N_far (p := ⟨gb124, 0, none⟩) (Kd.N_mono HO114.out (fun k_ hk => (⟨hk, hk.2⟩ : _ ∧ k_ ≠ gb124))) (fun _ hk => hk.2) (.int .i64 t115)) (fun _ hk => hk.2) (.string t116)) (fun _ hk => hk.2) (.string t117)) (fun _ hk => hk.2) (.slice Ao15 t118.length co15)) (fun _ hk => hk.2) (.slice Ao16 t121.length co16)) (fun _ h_ => h_.1))) hb); have n1_ := Aside0.mk (Kd.R_below (by (with_reducible repeat (first | apply Kd.R_alloc | apply Kd.R_drewN | apply Kd.R_drew)); exact (Kd.R_mono (Kd.R_far (p := ⟨gb124, 4, none⟩) (Kd.R_far (p := ⟨gb124, 3, none⟩) (Kd.R_far (p := ⟨gb124, 2, none⟩) (Kd.R_far (p := ⟨gb124, 1, none⟩) (Kd.R_far (p := ⟨gb124, 0, none⟩) (Kd.R_types HO120.out BK124.out (by decide)) (fun _ hk => hk.2) (.int .i64 t115)) (fun _ hk => hk.2) (.string t116)) (fun _ hk => hk.2) (.string t117)) (fun _ hk => hk.2) (.slice Ao15 t118.length co15)) (fun _ hk => hk.2) (.slice Ao16 t121.length co16)) (fun _ h_ => h_.1))) hb); have n2_ := Aside0.mk (Kd.V_below (by (with_reducible repeat (first | apply Kd.V_alloc | apply Kd.V_drewN | apply Kd.V_drew)); exact (Kd.V_mono (Kd.V_far (p := ⟨gb124, 4, none⟩) (Kd.V_far (p := ⟨gb124, 3, none⟩) (Kd.V_far (p := ⟨gb124, 2, none⟩) (Kd.V_far (p := ⟨gb124, 1, none⟩) (Kd.V_far (p := ⟨gb124, 0, none⟩) (Kd.V_mono HO123.out (fun k_ hk => (⟨hk, hk.2⟩ : _ ∧ k_ ≠ gb124))) (fun _ hk => hk.2) (.int .i64 t115)) (fun _ hk => hk.2) (.string t116)) (fun _ hk => hk.2) (.string t117)) (fun _ hk => hk.2) (.slice Ao15 t118.length co15)) (fun _ hk => hk.2) (.slice Ao16 t121.length co16)) (fun _ h_ => h_.1))) hb); have n3_ := Aside0.mk (blk_below (g := gb124) (o := .cells #[.int .i64 t115, .string t116, .string t117, .slice Ao15 t118.length co15, .slice Ao16 t121.length co16] 25 (0, 0)) (by (with_reducible repeat (first | refine blk_drewN ?_ _ | refine blk_drew ?_ | refine blk_alloc ?_ _)); refine blk_put (cs := #[.int .i64 t115, .string t116, .string t117, .slice Ao15 t118.length co15, .slice none 0 0]) ?_ 4 _ rfl; (with_reducible repeat (first | refine blk_drewN ?_ _ | refine blk_drew ?_ | refine blk_alloc ?_ _)); refine blk_put (cs := #[.int .i64 t115, .string t116, .string t117, .slice none 0 0, .slice none 0 0]) ?_ 3 _ rfl; (with_reducible repeat (first | refine blk_drewN ?_ _ | refine blk_drew ?_ | refine blk_alloc ?_ _)); refine blk_put (cs := #[.int .i64 t115, .string t116, .string (⟨#[]⟩ : ByteArray), .slice none 0 0, .slice none 0 0]) ?_ 2 _ rfl; (with_reducible repeat (first | refine blk_drewN ?_ _ | refine blk_drew ?_ | refine blk_alloc ?_ _)); refine blk_put (cs := #[.int .i64 t115, .string (⟨#[]⟩ : ByteArray), .string (⟨#[]⟩ : ByteArray), .slice none 0 0, .slice none 0 0]) ?_ 1 _ rfl; (with_reducible repeat (first | refine blk_drewN ?_ _ | refine blk_drew ?_ | refine blk_alloc ?_ _)); refine blk_put (cs := #[.int .i64 0, .string (⟨#[]⟩ : ByteArray), .string (⟨#[]⟩ : ByteArray), .slice none 0 0, .slice none 0 0]) ?_ 0 _ rfl; (with_reducible repeat (first | refine blk_drewN ?_ _ | refine blk_drew ?_ | refine blk_alloc ?_ _)); exact BK124.out) hb); have n4_ := Aside0.mk (below_step (by repeat (first | (with_reducible first | exact HB.out | apply below_alloc | apply pw_below_drewN | apply below_drew1 | refine below_set ?_ GE124.out) | exact HB.out)) hb); clear HO114; clear HO120; clear HO123; clear BK124; clear HB; have HO114 := n0_; have HO120 := n1_; have HO123 := n2_; have BK124 := n3_; have HB := n4_; clear n0_ n1_ n2_ n3_ n4_; (try clear hb); (try clear hb2); (try clear hk); (try clear hi); have hcz18_0 : w17.cell? ⟨gb124, 0, none⟩ = some (.int .i64 t115) := (blk_cell BK124.out 0).trans rfl; have hcz18_1 : w17.cell? ⟨gb124, 1, none⟩ = some (.string t116) := (blk_cell BK124.out 1).trans rfl; have hcz18_2 : w17.cell? ⟨gb124, 2, none⟩ = some (.string t117) := (blk_cell BK124.out 2).trans rfl; have hcz18_3 : w17.cell? ⟨gb124, 3, none⟩ = some (.slice Ao15 t118.length co15) := (blk_cell BK124.out 3).trans rfl; have hcz18_4 : w17.cell? ⟨gb124, 4, none⟩ = some (.slice Ao16 t121.length co16) := (blk_cell BK124.out 4).trans rfl; have hfz18_0 := blk_frozen BK124.out 0; have hfz18_1 := blk_frozen BK124.out 1; have hfz18_2 := blk_frozen BK124.out 2; have hfz18_3 := blk_frozen BK124.out 3; have hfz18_4 := blk_frozen BK124.out 4) | (go_at_call 13; (with_reducible refine (impl_AllNodes.calls k t115 t116 t117 _ _ t118 _ _ t121 t126 _ ?side1 ?side2 ?side3 ?side4 A5.out).mono ?_); (case side1 => repeat (first | exact (Kd.R_reads' HO120.out).2.2 | (with_reducible refine Kd.C_alloc ?_ _) | (with_reducible refine Kd.C_drewN ?_ _) | (with_reducible refine Kd.C_drew ?_))); (case side2 => exact (Kd.R_reads' HO120.out).2.1); (case side3 => repeat (first | exact (Kd.V_reads' HO123.out).2.2 | (with_reducible refine Kd.C_alloc ?_ _) | (with_reducible refine Kd.C_drewN ?_ _) | (with_reducible refine Kd.C_drew ?_))); (case side4 => exact (Kd.V_reads' HO123.out).2.1); rintro e w19 ⟨v127, rfl, ho0, hb⟩; have n0_ := Aside0.mk (Kd.N_elder' (by (with_reducible repeat (first | apply Kd.N_alloc | apply Kd.N_drewN | apply Kd.N_drew)); exact HO114.out) (Kd.N_base ho0) hb); have n1_ := Aside0.mk (Kd.R_below (by (with_reducible repeat (first | apply Kd.R_alloc | apply Kd.R_drewN | apply Kd.R_drew)); exact HO120.out) hb); have n2_ := Aside0.mk (Kd.V_elder' (by (with_reducible repeat (first | apply Kd.V_alloc | apply Kd.V_drewN | apply Kd.V_drew)); exact HO123.out) (Kd.N_base ho0) hb); have n3_ := Aside0.mk (Kd.N_lower (Kd.N_mono (ok' := fun k_ => some k_ ≠ (.slice Ao11 y112.length co11 : Value).ownBlock ∧ some k_ ≠ (.slice Ao15 t118.length co15 : Value).ownBlock ∧ k_ ≠ gb124) ho0 (fun k_ hk_ => ⟨(Kd.fresh' (Kd.N_lt (by (with_reducible repeat (first | apply Kd.N_alloc | apply Kd.N_drewN | apply Kd.N_drew)); exact HO114.out)) k_ hk_), (Kd.fresh' (Kd.R_lt (by (with_reducible repeat (first | apply Kd.R_alloc | apply Kd.R_drewN | apply Kd.R_drew)); exact HO120.out)) k_ hk_), (Kd.freshB (g := gb124) (o := .cells #[.int .i64 t115, .string t116, .string t117, .slice Ao15 t118.length co15, .slice Ao16 t121.length co16] 25 (0, 0)) (by (with_reducible repeat (first | refine blk_drewN ?_ _ | refine blk_drew ?_ | refine blk_alloc ?_ _)); exact BK124.out) k_ hk_)⟩)) (below_size (by repeat (first | (with_reducible first | exact HB.out | apply below_alloc | apply pw_below_drewN | apply below_drew1 | refine below_set ?_ GE124.out) | exact HB.out)))); have n4_ := Aside0.mk (blk_below (g := gb124) (o := .cells #[.int .i64 t115, .string t116, .string t117, .slice Ao15 t118.length co15, .slice Ao16 t121.length co16] 25 (0, 0)) (by (with_reducible repeat (first | refine blk_drewN ?_ _ | refine blk_drew ?_ | refine blk_alloc ?_ _)); exact BK124.out) hb); have n5_ := Aside0.mk (below_step (by repeat (first | (with_reducible first | exact HB.out | apply below_alloc | apply pw_below_drewN | apply below_drew1 | refine below_set ?_ GE124.out) | exact HB.out)) hb); clear HO114; clear HO120; clear HO123; clear BK124; clear HB; have HO114 := n0_; have HO120 := n1_; have HO123 := n2_; have HO128 := n3_; have BK124 := n4_; have HB := n5_; clear n0_ n1_ n2_ n3_ n4_ n5_; (try clear hb); (try clear hb2); (try clear hk); (try clear hi); (try clear ho0); obtain ⟨Ao20, co20, eo20⟩ := Kd.N_slice HO128.out; subst eo20))
    go_ret
    exact ⟨by first | rfl | (simp [errW_none, errW_some] <;> rfl) | (simp [*, errW_none, errW_some] <;> rfl), by repeat (first | (with_reducible first | exact HB.out | apply below_alloc | apply pw_below_drewN | apply below_drew1 | refine below_set ?_ GE124.out) | exact HB.out)⟩
  · rw [if_neg c4] at H
    have c4b0 : (t125.toList == ([112] : List UInt8)) = false := beq_eq_false_iff_ne.mpr c4
    have c4b1 : (t125.toList != ([112] : List UInt8)) = true := bne_iff_ne.mpr c4
    obtain rfl := Option.some.inj H
    go_enter Try.func23, Try.ntmps23
    go_wp2_with (first | ((with_reducible refine gate_callee (f := 47) rfl ?_); refine goesL_ (some 2) rfl rfl Try.func47 (by kernel_rfl) rfl #[.string (⟨#[97]⟩ : ByteArray)] rfl (by (try simp only [List.map_toArray, List.map_cons, List.map_nil]); first | done | rfl | (simp only [List.length_drop, List.length_take]; rfl)) ?_; (with_reducible refine (laws_text29.calls (⟨#[97]⟩ : ByteArray) t103 t104 t105 t106 t109 _ A1.out).mono ?_); rintro e w21 ⟨v107, v110, rfl, ho0, ho1, hb⟩; refine ⟨_, rfl, ?_⟩; have n0_ := Aside0.mk (Kd.R_lower ho0 (below_size (by repeat (first | (with_reducible first | exact HB.out | apply below_alloc | apply pw_below_drewN | apply below_drew1) | exact HB.out)))); have n1_ := Aside0.mk (Kd.N_lower (Kd.N_mono (ok' := fun k_ => some k_ ≠ (v107 : Value).ownBlock) (Kd.R_N (Kd.R_bound ho1)) (fun k_ hk_ => hk_.1)) (below_size (by repeat (first | (with_reducible first | exact HB.out | apply below_alloc | apply pw_below_drewN | apply below_drew1) | exact HB.out)))); have n2_ := Aside0.mk (below_step (by repeat (first | (with_reducible first | exact HB.out | apply below_alloc | apply pw_below_drewN | apply below_drew1) | exact HB.out)) hb); clear HB; have HO108 := n0_; have HO111 := n1_; have HB := n2_; clear n0_ n1_ n2_; (try clear hb); (try clear hb2); (try clear hk); (try clear hi); (try clear ho0); (try clear ho1); obtain ⟨Ao22, co22, eo22⟩ := Kd.R_slice HO108.out; subst eo22; obtain ⟨Ao23, co23, eo23⟩ := Kd.N_slice HO111.out; subst eo23) | ((with_reducible refine gate_dst (N := 3) rfl ?_); (try (refine gate_guard (by rfl) ?_; dsimp only)); refine Kd.N_lit k25 _ 25 ?hg (N' := 3) ?hd (xs := ([(⟨t103, t104, t105, t106, t109⟩ : S25)] : List (S25))) (inner := [.int .i64 t103, .string t104, .string t105, .slice Ao22 t106.length co22, .slice Ao23 t109.length co23]) (ok := (fun _ => True)) (okp := (fun _ => True)) ?hr ?hp (fun _ hk => hk) ((show ∀ k_, w21.heap.size ≤ k_ → (fun _ => True) k_ from fun k_ hk => trivial) _ (Nat.le_refl _)) (Below.refl _ _) (Nat.le_refl _) (by simp) ?_; (case hd => rfl); (case hg => rfl); (case hr => first | (go_simp; done) | (go_simp; rfl)); (case hp => exact (Reps.c5 (show Kd.FK k25 _ _ (⟨t103, t104, t105, t106, t109⟩ : S25) [.int .i64 t103, .string t104, .string t105, .slice Ao22 t106.length co22, .slice Ao23 t109.length co23] from (k25_mkF _ _ (⟨t103, t104, t105, t106, t109⟩ : S25) (Kd.R_reads' (Kd.R_mono (ok' := (fun _ => True)) (HO108.out) (fun k_ hk => trivial))).2.1 (Kd.R_F (Kd.R_mono (ok' := (fun _ => True)) (HO108.out) (fun k_ hk => trivial))) (Kd.N_reads' (Kd.N_mono (ok' := (fun _ => True)) (HO111.out) (fun k_ hk => trivial))).2.1 (Kd.N_F (Kd.N_mono (ok' := (fun _ => True)) (HO111.out) (fun k_ hk => trivial))))) (Reps.none _ _))); intro v113 w24 ho25 hb hg_ hnew_; clear hg_ hnew_; (first | rw [← Ny112.out] at ho25 | (simp only [Int.reduceToNat] at ho25; rw [← Ny112.out] at ho25)); have n0_ := Aside0.mk (Kd.N_lower ho25 (below_size (by repeat (first | (with_reducible first | exact HB.out | apply below_alloc | apply pw_below_drewN | apply below_drew1) | exact HB.out)))); have n1_ := Aside0.mk (below_step (by repeat (first | (with_reducible first | exact HB.out | apply below_alloc | apply pw_below_drewN | apply below_drew1) | exact HB.out)) hb); clear HB; clear HO108; clear HO111; have HO114 := n0_; have HB := n1_; clear n0_ n1_; clear hb ho25; obtain ⟨Ao26, co26, eo26⟩ := Kd.N_slice HO114.out; subst eo26) | ((with_reducible refine gate_callee (f := 46) rfl ?_); refine goesL_ (some 4) rfl rfl Try.func46 (by kernel_rfl) rfl #[.string (⟨#[112]⟩ : ByteArray), .slice Ao26 y112.length co26] rfl (by (try simp only [List.map_toArray, List.map_cons, List.map_nil]); first | done | rfl | (simp only [List.length_drop, List.length_take]; rfl)) ?_; (with_reducible refine (laws_tag29.calls (⟨#[112]⟩ : ByteArray) (fun k_ => True) _ _ y112 t115 t116 t117 t118 t121 _ ?side1 A2.out).mono ?_); (case side1 => exact Kd.N_V (HO114.out)); rintro e w27 ⟨v119, v122, rfl, ho0, ho1, hb⟩; refine ⟨_, rfl, ?_⟩; have n0_ := Aside0.mk (Kd.N_elder' (by (with_reducible repeat (first | apply Kd.N_alloc | apply Kd.N_drewN | apply Kd.N_drew)); exact HO114.out) (Kd.R_base ho0) hb); have n1_ := Aside0.mk (Kd.R_lower (Kd.R_mono (ok' := fun k_ => True) ho0 (fun _ hk_ => trivial)) (below_size (by repeat (first | (with_reducible first | exact HB.out | apply below_alloc | apply pw_below_drewN | apply below_drew1) | exact HB.out)))); have n2_ := Aside0.mk (Kd.V_lower (Kd.V_mono (ok' := fun k_ => some k_ ≠ (v119 : Value).ownBlock) ho1 (fun k_ hk_ => hk_.2)) (below_size (by repeat (first | (with_reducible first | exact HB.out | apply below_alloc | apply pw_below_drewN | apply below_drew1) | exact HB.out)))); have n3_ := Aside0.mk (below_step (by repeat (first | (with_reducible first | exact HB.out | apply below_alloc | apply pw_below_drewN | apply below_drew1) | exact HB.out)) hb); clear HO114; clear HB; have HO114 := n0_; have HO120 := n1_; have HO123 := n2_; have HB := n3_; clear n0_ n1_ n2_ n3_; (try clear hb); (try clear hb2); (try clear hk); (try clear hi); (try clear ho0); (try clear ho1)) | ((with_reducible refine gate_dst (N := 1) rfl ?_); (try (refine gate_guard (by rfl) ?_; dsimp only)); refine box_event ?hg (N := 1) ?hd (cs := #[.int .i64 0, .string (⟨#[]⟩ : ByteArray), .string (⟨#[]⟩ : ByteArray), .slice none 0 0, .slice none 0 0]) (t := 25) ?hr ?_; (case hd => rfl); (case hg => rfl); (case hr => first | (go_simp; done) | (go_simp; rfl)); intro gb124 hg w28 hbox hb; have n0_ := Aside0.mk (Kd.N_below (Kd.N_elderB (by (with_reducible repeat (first | apply Kd.N_alloc | apply Kd.N_drewN | apply Kd.N_drew)); exact HO114.out) gb124 (Nat.le_of_eq hg.symm)) hb); have n1_ := Aside0.mk (Kd.R_below (by (with_reducible repeat (first | apply Kd.R_alloc | apply Kd.R_drewN | apply Kd.R_drew)); exact HO120.out) hb); have n2_ := Aside0.mk (Kd.V_below (Kd.V_elderB (by (with_reducible repeat (first | apply Kd.V_alloc | apply Kd.V_drewN | apply Kd.V_drew)); exact HO123.out) gb124 (Nat.le_of_eq hg.symm)) hb); have n3_ := Aside0.mk (below_step (by repeat (first | (with_reducible first | exact HB.out | apply below_alloc | apply pw_below_drewN | apply below_drew1) | exact HB.out)) hb); have n4_ := Aside0.mk (hbox); have n5_ := Aside0.mk ((by rw [hg]; exact (below_size (by repeat (first | (with_reducible first | exact HB.out | apply below_alloc | apply pw_below_drewN | apply below_drew1) | exact HB.out))) : w.heap.size ≤ gb124)); have n6_ := Aside0.mk ((by rw [hg]; exact (below_size (by repeat (first | (with_reducible first | exact HB.out | apply below_alloc | apply pw_below_drewN | apply below_drew1) | exact HB.out))) : w.heap.size ≤ gb124)); clear HO114; clear HO120; clear HO123; clear HB; have HO114 := n0_; have HO120 := n1_; have HO123 := n2_; have HB := n3_; have BK124 := n4_; have GW124 := n5_; have GE124 := n6_; clear n0_ n1_ n2_ n3_ n4_ n5_ n6_; clear hb hbox hg; have hcz29_0 : w28.cell? ⟨gb124, 0, none⟩ = some (.int .i64 0) := (blk_cell BK124.out 0).trans rfl; have hcz29_1 : w28.cell? ⟨gb124, 1, none⟩ = some (.string (⟨#[]⟩ : ByteArray)) := (blk_cell BK124.out 1).trans rfl; have hcz29_2 : w28.cell? ⟨gb124, 2, none⟩ = some (.string (⟨#[]⟩ : ByteArray)) := (blk_cell BK124.out 2).trans rfl; have hcz29_3 : w28.cell? ⟨gb124, 3, none⟩ = some (.slice none 0 0) := (blk_cell BK124.out 3).trans rfl; have hcz29_4 : w28.cell? ⟨gb124, 4, none⟩ = some (.slice none 0 0) := (blk_cell BK124.out 4).trans rfl; have hfz29_0 := blk_frozen BK124.out 0; have hfz29_1 := blk_frozen BK124.out 1; have hfz29_2 := blk_frozen BK124.out 2; have hfz29_3 := blk_frozen BK124.out 3; have hfz29_4 := blk_frozen BK124.out 4; obtain ⟨Ao30, co30, eo30⟩ := Kd.R_slice HO120.out; subst eo30; obtain ⟨Ao31, co31, eo31⟩ := Kd.V_slice HO123.out; subst eo31) | ((with_reducible refine gate_callee (f := 11) rfl ?_); refine goesL_ (some 6) rfl rfl Try.func11 (by kernel_rfl) rfl #[.agg #[.int .i64 t115, .string t116, .string t117, .slice Ao30 t118.length co30, .slice Ao31 t121.length co31]] rfl (by (try simp only [List.map_toArray, List.map_cons, List.map_nil]); first | done | rfl | (simp only [List.length_drop, List.length_take]; rfl)) ?_; (with_reducible refine (impl_NameOf.calls k t115 t116 t117 _ _ t118 _ _ t121 t125 _ ?side1 ?side2 ?side3 ?side4 A3.out).mono ?_); (case side1 => refine (Kd.R_reads' (e := 78) (base := w.heap.size) (ok := fun k_ => True) (n := t118.length) (c := co30) ?_).2.2; exact (by (with_reducible repeat (first | apply Kd.R_alloc | apply Kd.R_drewN | apply Kd.R_drew)); exact (Kd.R_mono (Kd.R_far (p := ⟨gb124, 4, none⟩) (Kd.R_far (p := ⟨gb124, 3, none⟩) (Kd.R_far (p := ⟨gb124, 2, none⟩) (Kd.R_far (p := ⟨gb124, 1, none⟩) (Kd.R_far (p := ⟨gb124, 0, none⟩) (Kd.R_types HO120.out BK124.out (by decide)) (fun _ hk => hk.2) (.int .i64 t115)) (fun _ hk => hk.2) (.string t116)) (fun _ hk => hk.2) (.string t117)) (fun _ hk => hk.2) (.slice Ao30 t118.length co30)) (fun _ hk => hk.2) (.slice Ao31 t121.length co31)) (fun _ h_ => h_.1)))); (case side2 => exact (Kd.R_reads' HO120.out).2.1); (case side3 => refine (Kd.V_reads' (e := 25) (base := w.heap.size) (ok := fun k_ => (some k_ ≠ (.slice Ao30 t118.length co30 : Value).ownBlock ∧ k_ ≠ gb124)) (n := t121.length) (c := co31) ?_).2.2; exact (by (with_reducible repeat (first | apply Kd.V_alloc | apply Kd.V_drewN | apply Kd.V_drew)); exact (Kd.V_mono (Kd.V_far (p := ⟨gb124, 4, none⟩) (Kd.V_far (p := ⟨gb124, 3, none⟩) (Kd.V_far (p := ⟨gb124, 2, none⟩) (Kd.V_far (p := ⟨gb124, 1, none⟩) (Kd.V_far (p := ⟨gb124, 0, none⟩) (Kd.V_mono HO123.out (fun k_ hk => (⟨hk, hk.2⟩ : _ ∧ k_ ≠ gb124))) (fun _ hk => hk.2) (.int .i64 t115)) (fun _ hk => hk.2) (.string t116)) (fun _ hk => hk.2) (.string t117)) (fun _ hk => hk.2) (.slice Ao30 t118.length co30)) (fun _ hk => hk.2) (.slice Ao31 t121.length co31)) (fun _ h_ => h_.1)))); (case side4 => exact (Kd.V_reads' HO123.out).2.1); rintro e w32 ⟨rfl, hb⟩; refine ⟨_, rfl, ?_⟩; have n0_ := Aside0.mk (Kd.N_below (by (with_reducible repeat (first | apply Kd.N_alloc | apply Kd.N_drewN | apply Kd.N_drew)); exact (Kd.N_mono (Kd.N_far (p := ⟨gb124, 4, none⟩) (Kd.N_far (p := ⟨gb124, 3, none⟩) (Kd.N_far (p := ⟨gb124, 2, none⟩) (Kd.N_far (p := ⟨gb124, 1, none⟩) (Kd.N_far (p := ⟨gb124, 0, none⟩) (Kd.N_mono HO114.out (fun k_ hk => (⟨hk, hk.2⟩ : _ ∧ k_ ≠ gb124))) (fun _ hk => hk.2) (.int .i64 t115)) (fun _ hk => hk.2) (.string t116)) (fun _ hk => hk.2) (.string t117)) (fun _ hk => hk.2) (.slice Ao30 t118.length co30)) (fun _ hk => hk.2) (.slice Ao31 t121.length co31)) (fun _ h_ => h_.1))) hb); have n1_ := Aside0.mk (Kd.R_below (by (with_reducible repeat (first | apply Kd.R_alloc | apply Kd.R_drewN | apply Kd.R_drew)); exact (Kd.R_mono (Kd.R_far (p := ⟨gb124, 4, none⟩) (Kd.R_far (p := ⟨gb124, 3, none⟩) (Kd.R_far (p := ⟨gb124, 2, none⟩) (Kd.R_far (p := ⟨gb124, 1, none⟩) (Kd.R_far (p := ⟨gb124, 0, none⟩) (Kd.R_types HO120.out BK124.out (by decide)) (fun _ hk => hk.2) (.int .i64 t115)) (fun _ hk => hk.2) (.string t116)) (fun _ hk => hk.2) (.string t117)) (fun _ hk => hk.2) (.slice Ao30 t118.length co30)) (fun _ hk => hk.2) (.slice Ao31 t121.length co31)) (fun _ h_ => h_.1))) hb); have n2_ := Aside0.mk (Kd.V_below (by (with_reducible repeat (first | apply Kd.V_alloc | apply Kd.V_drewN | apply Kd.V_drew)); exact (Kd.V_mono (Kd.V_far (p := ⟨gb124, 4, none⟩) (Kd.V_far (p := ⟨gb124, 3, none⟩) (Kd.V_far (p := ⟨gb124, 2, none⟩) (Kd.V_far (p := ⟨gb124, 1, none⟩) (Kd.V_far (p := ⟨gb124, 0, none⟩) (Kd.V_mono HO123.out (fun k_ hk => (⟨hk, hk.2⟩ : _ ∧ k_ ≠ gb124))) (fun _ hk => hk.2) (.int .i64 t115)) (fun _ hk => hk.2) (.string t116)) (fun _ hk => hk.2) (.string t117)) (fun _ hk => hk.2) (.slice Ao30 t118.length co30)) (fun _ hk => hk.2) (.slice Ao31 t121.length co31)) (fun _ h_ => h_.1))) hb); have n3_ := Aside0.mk (blk_below (g := gb124) (o := .cells #[.int .i64 t115, .string t116, .string t117, .slice Ao30 t118.length co30, .slice Ao31 t121.length co31] 25 (0, 0)) (by (with_reducible repeat (first | refine blk_drewN ?_ _ | refine blk_drew ?_ | refine blk_alloc ?_ _)); refine blk_put (cs := #[.int .i64 t115, .string t116, .string t117, .slice Ao30 t118.length co30, .slice none 0 0]) ?_ 4 _ rfl; (with_reducible repeat (first | refine blk_drewN ?_ _ | refine blk_drew ?_ | refine blk_alloc ?_ _)); refine blk_put (cs := #[.int .i64 t115, .string t116, .string t117, .slice none 0 0, .slice none 0 0]) ?_ 3 _ rfl; (with_reducible repeat (first | refine blk_drewN ?_ _ | refine blk_drew ?_ | refine blk_alloc ?_ _)); refine blk_put (cs := #[.int .i64 t115, .string t116, .string (⟨#[]⟩ : ByteArray), .slice none 0 0, .slice none 0 0]) ?_ 2 _ rfl; (with_reducible repeat (first | refine blk_drewN ?_ _ | refine blk_drew ?_ | refine blk_alloc ?_ _)); refine blk_put (cs := #[.int .i64 t115, .string (⟨#[]⟩ : ByteArray), .string (⟨#[]⟩ : ByteArray), .slice none 0 0, .slice none 0 0]) ?_ 1 _ rfl; (with_reducible repeat (first | refine blk_drewN ?_ _ | refine blk_drew ?_ | refine blk_alloc ?_ _)); refine blk_put (cs := #[.int .i64 0, .string (⟨#[]⟩ : ByteArray), .string (⟨#[]⟩ : ByteArray), .slice none 0 0, .slice none 0 0]) ?_ 0 _ rfl; (with_reducible repeat (first | refine blk_drewN ?_ _ | refine blk_drew ?_ | refine blk_alloc ?_ _)); exact BK124.out) hb); have n4_ := Aside0.mk (below_step (by repeat (first | (with_reducible first | exact HB.out | apply below_alloc | apply pw_below_drewN | apply below_drew1 | refine below_set ?_ GE124.out) | exact HB.out)) hb); clear HO114; clear HO120; clear HO123; clear BK124; clear HB; have HO114 := n0_; have HO120 := n1_; have HO123 := n2_; have BK124 := n3_; have HB := n4_; clear n0_ n1_ n2_ n3_ n4_; (try clear hb); (try clear hb2); (try clear hk); (try clear hi)))
    go_ret
    exact ⟨by first | rfl | (simp [errW_none, errW_some] <;> rfl) | (simp [*, errW_none, errW_some] <;> rfl), by repeat (first | (with_reducible first | exact HB.out | apply below_alloc | apply pw_below_drewN | apply below_drew1 | refine below_set ?_ GE124.out) | exact HB.out)⟩

/-- THE ONE PURE STATEMENT of laws_living29: yours. -/
def laws_living29.Pure : Prop := ∃ k, laws_living29.f k  = some true
theorem laws_living29.walk (P : laws_living29.Pure)  (w : World)  :
    Calls Try.prog 23 #[] w fun e w' => e = .returned (.bool true) ∧ Below w.heap.size w w' := by
  obtain ⟨k, h⟩ := P  
  refine (laws_living29.calls k  true w h).mono ?_
  rintro e w' ⟨rfl, hd⟩
  exact ⟨rfl, hd⟩

end Go.Proofs.Ytibfoaahdbdogaa.PDom

/- What the reference tells of places: At29, First29, Beside29; that living29 is true. Plain facts. -/
namespace Go.Proofs.Ytibfoaahdbdogaa.PDom
open Go.RowKit Go.Proofs.YtibfoaahdbdogaaW.PrintWords Go.Proofs.YtibfoaahdbdogaaW.PrintLast Go.Proofs.YtibfoaahdbdogaaW.PrintMore Go.Proofs.Ytibfoaahdbdogaa.Dom
set_option linter.unusedVariables false
set_option linter.unusedSimpArgs false

theorem fit_kid {t y : T} (h : Fit t) (hy : y ∈ t.f4) : Fit y := by
  obtain ⟨_, _, _, hk⟩ := h
  exact hk y hy
theorem fit_len {t : T} (h : Fit t) : t.f4.length ≤ 4398046510976 := by
  obtain ⟨_, _, hk, _⟩ := h
  exact hk
theorem fit_at (l : List Int) : ∀ (t u : T), Fit t → atT t l = some u → Fit u := by
  induction l with
  | nil =>
    intro t u h e
    obtain rfl := Option.some.inj e
    exact h
  | cons k l ih =>
    intro t u h e
    simp only [atT] at e
    split at e
    · obtain ⟨z, hz, e2⟩ := Option.bind_eq_some_iff.1 e
      exact ih z u (fit_kid h (List.mem_of_getElem? hz)) e2
    · cases e
def atR (o : Option T) : Int × ByteArray × ByteArray × List S78 × List S25 × Bool := match o with
  | some u => (u.f0, u.f1, u.f2, u.f3, u.f4, true)
  | none => (0, ⟨#[]⟩, ⟨#[]⟩, [], [], false)
theorem at29_ev (path : List Int) (hl : path.length ≤ 4611686018427387904) (t : T) (ht : Fit t) : Ev (fun k => spec_At29.f k t.f0 t.f1 t.f2 t.f3 t.f4 path) (atR (atT t path)) := by
  have key : ∀ (n j : Nat), path.length = j + n → ∀ (t : T), Fit t → Ev (fun k => spec_At29.l0 k path (path.length : Int) (j : Int) t.f0 t.f1 t.f2 t.f3 t.f4) (atR (atT t (path.drop j))) := by
    intro n
    induction n with
    | zero =>
      intro j hj t ht
      rw [List.drop_eq_nil_of_le (by omega)]
      refine Ev.step (f := fun _ => some (atR (atT t []))) (fun k => ?_) (Ev.now _)
      simp only [spec_At29.l0]
      rw [if_neg (by omega)]
      rfl
    | succ n ih =>
      intro j hj t ht
      have hlt : j < path.length := by omega
      have hrd : rd path (j : Int) = path[j] := by simp [rd, List.getD_eq_getElem?_getD, List.getElem?_eq_getElem hlt]
      have hd : path.drop j = path[j] :: path.drop (j + 1) := List.drop_eq_getElem_cons hlt
      have hlen := fit_len ht
      rw [hd]
      by_cases h0 : path[j] < 0
      · refine Ev.step (f := fun _ => some (atR none)) (fun k => ?_) ?_
        · simp only [spec_At29.l0]
          rw [if_pos (by omega), if_pos (by omega), if_pos (by omega), hrd, if_pos h0]
          rfl
        · have e : atT t (path[j] :: path.drop (j + 1)) = none := by simp only [atT]; rw [if_neg (by omega)]
          rw [e]
          exact Ev.now _
      · by_cases h1 : path[j] ≥ (t.f4.length : Int)
        · refine Ev.step (f := fun _ => some (atR none)) (fun k => ?_) ?_
          · simp only [spec_At29.l0]
            rw [if_pos (by omega), if_pos (by omega), if_pos (by omega), hrd, if_neg h0, if_pos h1]
            rfl
          · have e : atT t (path[j] :: path.drop (j + 1)) = none := by
              simp only [atT]
              rw [if_pos (by omega), List.getElem?_eq_none (by omega)]
              rfl
            rw [e]
            exact Ev.now _
        · have hi : path[j].toNat < t.f4.length := by omega
          have hrt : rd_T25 t.f4 path[j] = t.f4[path[j].toNat] := by
            have := rd_at t.f4 hi
            rw [Int.toNat_of_nonneg (by omega)] at this
            exact this
          have e : atT t (path[j] :: path.drop (j + 1)) = atT t.f4[path[j].toNat] (path.drop (j + 1)) := by
            simp only [atT]
            rw [if_pos (by omega), List.getElem?_eq_getElem hi]
            rfl
          rw [e]
          refine Ev.step (f := fun k => spec_At29.l0 k path (path.length : Int) ((j + 1 : Nat) : Int) t.f4[path[j].toNat].f0 t.f4[path[j].toNat].f1 t.f4[path[j].toNat].f2 t.f4[path[j].toNat].f3 t.f4[path[j].toNat].f4) (fun k => ?_) (ih (j + 1) (by omega) _ (fit_kid ht (List.getElem_mem hi)))
          simp only [spec_At29.l0]
          rw [if_pos (by omega), if_pos (by omega), if_pos (by omega), hrd, if_neg h0, if_neg h1, if_pos (by omega), if_pos (by omega), succ_wrap j (by omega), hrt]
  have := key path.length 0 (by omega) t ht
  exact this
/-- A row and whether there is one. -/
def resR (o : Option (List Int)) : List Int × Bool := (o.getD [], o.isSome)
theorem among_eq (y : T) (el : Bool) : spec_among29.f y.f0 y.f1 y.f2 y.f3 y.f4 el = some (elP el y) := by
  unfold spec_among29.f elP
  cases el with
  | true => rw [if_pos rfl]; simp
  | false => rw [if_neg (by simp)]; simp
theorem first_loop (path : List Int) (hp : path.length < 1000) (el : Bool) (l : List T) (hl : l.length ≤ 4398046510976) : ∀ (n j : Nat), l.length = j + n →
    Ev (fun k => spec_First29.l0 k path el l (l.length : Int) (j : Int)) (resR (((l.drop j).findIdx? (elP el)).map fun (i : Nat) => path ++ [(j : Int) + (i : Int)])) := by
  intro n
  induction n with
  | zero =>
    intro j hj
    rw [List.drop_eq_nil_of_le (by omega)]
    refine Ev.step (f := fun _ => some (resR none)) (fun k => ?_) (Ev.now _)
    simp only [spec_First29.l0]
    rw [if_neg (by omega)]
    rfl
  | succ n ih =>
    intro j hj
    have hlt : j < l.length := by omega
    have hd : l.drop j = l[j] :: l.drop (j + 1) := List.drop_eq_getElem_cons hlt
    rw [hd, List.findIdx?_cons]
    by_cases hE : elP el l[j] = true
    · rw [if_pos hE]
      refine Ev.step (f := fun _ => some (path ++ [(j : Int)], true)) (fun k => ?_) ?_
      · simp only [spec_First29.l0]
        rw [if_pos (by omega), if_pos (by omega), if_pos (by omega), rd_at l hlt, among_eq, Option.bind_some, if_pos hE, under_eq _ _ (by omega), Option.bind_some]
      · have e : resR ((some 0).map fun (i : Nat) => path ++ [(j : Int) + (i : Int)]) = (path ++ [(j : Int)], true) := by simp [resR]
        rw [e]
        exact Ev.now _
    · rw [if_neg hE]
      have e : (((l.drop (j + 1)).findIdx? (elP el)).map (fun i => i + 1)).map (fun (i : Nat) => path ++ [(j : Int) + (i : Int)]) = ((l.drop (j + 1)).findIdx? (elP el)).map fun (i : Nat) => path ++ [((j + 1 : Nat) : Int) + (i : Int)] := by
        cases (l.drop (j + 1)).findIdx? (elP el) with
        | none => rfl
        | some m => simp; omega
      rw [e]
      refine Ev.step (f := fun k => spec_First29.l0 k path el l (l.length : Int) ((j + 1 : Nat) : Int)) (fun k => ?_) (ih (j + 1) (by omega))
      simp only [spec_First29.l0]
      rw [if_pos (by omega), if_pos (by omega), if_pos (by omega), rd_at l hlt, among_eq, Option.bind_some, if_neg hE, succ_wrap j (by omega)]
theorem first29_ev (path : List Int) (hp : path.length < 1000) (el : Bool) (t u : T) (ht : Fit t) (hu : atT t path = some u) :
    Ev (fun k => spec_First29.f k t.f0 t.f1 t.f2 t.f3 t.f4 path el) (resR ((u.f4.findIdx? (elP el)).map fun (i : Nat) => path ++ [(i : Int)])) := by
  have h1 := at29_ev path (by omega) t ht
  rw [hu] at h1
  refine Ev.congr (f := fun k => (spec_At29.f k t.f0 t.f1 t.f2 t.f3 t.f4 path).bind fun bt => spec_First29.l0 k path el bt.2.2.2.2.1 (bt.2.2.2.2.1.length : Int) 0) (fun k => rfl) ?_
  refine Ev.bind h1 ?_
  have := first_loop path hp el u.f4 (fit_len (fit_at path t u ht hu)) u.f4.length 0 (by omega)
  have e : (fun (i : Nat) => path ++ [((0 : Nat) : Int) + (i : Int)]) = fun (i : Nat) => path ++ [(i : Int)] := by funext i; simp
  rw [List.drop_zero, e] at this
  exact this
theorem up_loop (path : List Int) (hp : path.length < 1000) (x10 : Int) (h10 : 0 ≤ x10 ∧ x10 ≤ path.length) (el : Bool) (t : T) (hl : t.f4.length ≤ 4398046510976) : ∀ (n j : Nat), t.f4.length ≤ j + n →
    Ev (fun k => spec_Beside29.l0 k path 1 el x10 (j : Int) t.f0 t.f1 t.f2 t.f3 t.f4) (resR (((t.f4.drop j).findIdx? (elP el)).map fun (i : Nat) => path.take x10.toNat ++ [(j : Int) + (i : Int)])) := by
  intro n
  induction n with
  | zero =>
    intro j hj
    rw [List.drop_eq_nil_of_le (by omega)]
    refine Ev.step (f := fun k => spec_Beside29.j1 k path 1 el x10 (j : Int) false t.f0 t.f1 t.f2 t.f3 t.f4) (fun k => ?_) (Ev.step (f := fun _ => some (resR none)) (fun k => ?_) (Ev.now _))
    · simp only [spec_Beside29.l0]
      rw [if_pos (by omega), decide_eq_false (by omega)]
    · simp only [spec_Beside29.j1]
      rw [if_neg (by simp)]
      rfl
  | succ n ih =>
    intro j hj
    by_cases hlt : j < t.f4.length
    · have hd : t.f4.drop j = t.f4[j] :: t.f4.drop (j + 1) := List.drop_eq_getElem_cons hlt
      rw [hd, List.findIdx?_cons]
      refine Ev.step (f := fun k => spec_Beside29.j1 k path 1 el x10 (j : Int) true t.f0 t.f1 t.f2 t.f3 t.f4) (fun k => ?_) ?_
      · simp only [spec_Beside29.l0]
        rw [if_pos (by omega), decide_eq_true (by omega)]
      by_cases hE : elP el t.f4[j] = true
      · rw [if_pos hE]
        refine Ev.step (f := fun _ => some (path.take x10.toNat ++ [(j : Int)], true)) (fun k => ?_) ?_
        · simp only [spec_Beside29.j1]
          rw [if_pos trivial, if_pos (by omega), if_pos (by omega), rd_at t.f4 hlt, among_eq, Option.bind_some, if_pos hE, if_pos (by omega), if_pos (by omega), under_eq _ _ (by rw [List.length_take]; omega), Option.bind_some]
        · have e : resR ((some 0).map fun (i : Nat) => path.take x10.toNat ++ [(j : Int) + (i : Int)]) = (path.take x10.toNat ++ [(j : Int)], true) := by simp [resR]
          rw [e]
          exact Ev.now _
      · rw [if_neg hE]
        have e : (((t.f4.drop (j + 1)).findIdx? (elP el)).map (fun i => i + 1)).map (fun (i : Nat) => path.take x10.toNat ++ [(j : Int) + (i : Int)]) = ((t.f4.drop (j + 1)).findIdx? (elP el)).map fun (i : Nat) => path.take x10.toNat ++ [((j + 1 : Nat) : Int) + (i : Int)] := by
          cases (t.f4.drop (j + 1)).findIdx? (elP el) with
          | none => rfl
          | some m => simp; omega
        rw [e]
        refine Ev.step (f := fun k => spec_Beside29.l0 k path 1 el x10 ((j + 1 : Nat) : Int) t.f0 t.f1 t.f2 t.f3 t.f4) (fun k => ?_) (ih (j + 1) (by omega))
        simp only [spec_Beside29.j1]
        rw [if_pos trivial, if_pos (by omega), if_pos (by omega), rd_at t.f4 hlt, among_eq, Option.bind_some, if_neg hE, succ_wrap j (by omega)]
    · rw [List.drop_eq_nil_of_le (by omega)]
      refine Ev.step (f := fun k => spec_Beside29.j1 k path 1 el x10 (j : Int) false t.f0 t.f1 t.f2 t.f3 t.f4) (fun k => ?_) (Ev.step (f := fun _ => some (resR none)) (fun k => ?_) (Ev.now _))
      · simp only [spec_Beside29.l0]
        rw [if_pos (by omega), decide_eq_false (by omega)]
      · simp only [spec_Beside29.j1]
        rw [if_neg (by simp)]
        rfl
theorem down_loop (path : List Int) (hp : path.length < 1000) (x10 : Int) (h10 : 0 ≤ x10 ∧ x10 ≤ path.length) (el : Bool) (t : T) (hl : t.f4.length ≤ 4398046510976) : ∀ (m : Nat), m ≤ t.f4.length →
    Ev (fun k => spec_Beside29.l0 k path (-1) el x10 ((m : Int) - 1) t.f0 t.f1 t.f2 t.f3 t.f4) (resR (((t.f4.take m).reverse.findIdx? (elP el)).map fun (i : Nat) => path.take x10.toNat ++ [(m : Int) - 1 - (i : Int)])) := by
  intro m
  induction m with
  | zero =>
    intro _
    refine Ev.step (f := fun k => spec_Beside29.j1 k path (-1) el x10 (((0 : Nat) : Int) - 1) false t.f0 t.f1 t.f2 t.f3 t.f4) (fun k => ?_) (Ev.step (f := fun _ => some (resR none)) (fun k => ?_) (Ev.now _))
    · simp only [spec_Beside29.l0]
      rw [if_neg (by omega)]
    · simp only [spec_Beside29.j1]
      rw [if_neg (by simp)]
      rfl
  | succ m ih =>
    intro hm
    have hlt : m < t.f4.length := by omega
    have hd : (t.f4.take (m + 1)).reverse = t.f4[m] :: (t.f4.take m).reverse := by rw [List.take_succ_eq_append_getElem hlt, List.reverse_append]; rfl
    have hm1 : ((m + 1 : Nat) : Int) - 1 = (m : Int) := by omega
    rw [hd, List.findIdx?_cons, hm1]
    refine Ev.step (f := fun k => spec_Beside29.j1 k path (-1) el x10 (m : Int) true t.f0 t.f1 t.f2 t.f3 t.f4) (fun k => ?_) ?_
    · simp only [spec_Beside29.l0]
      rw [if_pos (by omega), decide_eq_true (by omega)]
    by_cases hE : elP el t.f4[m] = true
    · rw [if_pos hE]
      refine Ev.step (f := fun _ => some (path.take x10.toNat ++ [(m : Int)], true)) (fun k => ?_) ?_
      · simp only [spec_Beside29.j1]
        rw [if_pos trivial, if_pos (by omega), if_pos (by omega), rd_at t.f4 hlt, among_eq, Option.bind_some, if_pos hE, if_pos (by omega), if_pos (by omega), under_eq _ _ (by rw [List.length_take]; omega), Option.bind_some]
      · have e : resR ((some 0).map fun (i : Nat) => path.take x10.toNat ++ [(m : Int) - (i : Int)]) = (path.take x10.toNat ++ [(m : Int)], true) := by simp [resR]
        rw [e]
        exact Ev.now _
    · rw [if_neg hE]
      have e : ((((t.f4.take m).reverse).findIdx? (elP el)).map (fun i => i + 1)).map (fun (i : Nat) => path.take x10.toNat ++ [(m : Int) - (i : Int)]) = ((t.f4.take m).reverse.findIdx? (elP el)).map fun (i : Nat) => path.take x10.toNat ++ [(m : Int) - 1 - (i : Int)] := by
        cases (t.f4.take m).reverse.findIdx? (elP el) with
        | none => rfl
        | some i => simp; omega
      rw [e]
      refine Ev.step (f := fun k => spec_Beside29.l0 k path (-1) el x10 ((m : Int) - 1) t.f0 t.f1 t.f2 t.f3 t.f4) (fun k => ?_) (ih (by omega))
      simp only [spec_Beside29.j1]
      rw [if_pos trivial, if_pos (by omega), if_pos (by omega), rd_at t.f4 hlt, among_eq, Option.bind_some, if_neg hE, wrap_same (by omega) (by omega)]
      rfl
theorem take_last_eq (path : List Int) : path.take (path.length - 1) = path.dropLast := (List.dropLast_eq_take).symm
theorem beside29_none (path : List Int) (hp : path = []) (t : T) (by_ : Int) (el : Bool) : Ev (fun k => spec_Beside29.f k t.f0 t.f1 t.f2 t.f3 t.f4 path by_ el) (resR none) := by
  subst hp
  refine Ev.congr (f := fun _ => some (resR none)) (fun k => ?_) (Ev.now _)
  unfold spec_Beside29.f
  rw [if_pos (by simp)]
  rfl
theorem beside29_ev (path : List Int) (hp : path.length < 1000) (j : Int) (hj : path.getLast? = some j) (hj0 : 0 ≤ j ∧ j ≤ 4398046510976) (t up : T) (ht : Fit t) (hu : atT t path.dropLast = some up) (hjl : j.toNat < up.f4.length) (el : Bool) (dir : Bool) :
    Ev (fun k => spec_Beside29.f k t.f0 t.f1 t.f2 t.f3 t.f4 path (if dir then 1 else -1) el) (resR (if dir then ((up.f4.drop (j.toNat + 1)).findIdx? (elP el)).map fun (i : Nat) => path.dropLast ++ [j + 1 + (i : Int)] else ((up.f4.take j.toNat).reverse.findIdx? (elP el)).map fun (i : Nat) => path.dropLast ++ [j - 1 - (i : Int)])) := by
  have hlen : 0 < path.length := by
    cases path with
    | nil => cases hj
    | cons a l => simp
  have hw : wrap64 ((path.length : Int) - 1) = ((path.length - 1 : Nat) : Int) := by rw [wrap_same (by omega) (by omega)]; omega
  have h1 := at29_ev path.dropLast (by rw [List.length_dropLast]; omega) t ht
  rw [hu] at h1
  have hlt : path.length - 1 < path.length := by omega
  have hrd : rd path ((path.length - 1 : Nat) : Int) = j := by
    have e : path[path.length - 1] = j := by
      rw [List.getLast?_eq_getElem?, List.getElem?_eq_getElem hlt] at hj
      exact Option.some.inj hj
    simp [rd, List.getD_eq_getElem?_getD, List.getElem?_eq_getElem hlt, e]
  have hfu := fit_len (fit_at _ t up ht hu)
  refine Ev.congr (f := fun k => (spec_At29.f k t.f0 t.f1 t.f2 t.f3 t.f4 path.dropLast).bind fun bt => spec_Beside29.l0 k path (if dir then 1 else -1) el ((path.length - 1 : Nat) : Int) (wrap64 (j + (if dir then 1 else -1))) bt.1 bt.2.1 bt.2.2.1 bt.2.2.2.1 bt.2.2.2.2.1) (fun k => ?_) ?_
  · unfold spec_Beside29.f
    rw [if_neg (by omega), hw, if_pos (by omega), if_pos (by omega), hrd, Int.toNat_natCast, take_last_eq]
    congr 1
    funext bt
    rw [if_pos (by omega)]
  · refine Ev.bind h1 ?_
    cases dir with
    | true =>
      have := up_loop path hp ((path.length - 1 : Nat) : Int) (by omega) el up hfu up.f4.length (j.toNat + 1) (by omega)
      rw [Int.toNat_natCast, take_last_eq] at this
      have e1 : ((j.toNat + 1 : Nat) : Int) = j + 1 := by omega
      rw [e1] at this
      have e2 : wrap64 (j + 1) = j + 1 := wrap_same (by omega) (by omega)
      simp only [if_true]
      rw [e2]
      exact this
    | false =>
      have := down_loop path hp ((path.length - 1 : Nat) : Int) (by omega) el up hfu j.toNat (by omega)
      rw [Int.toNat_natCast, take_last_eq, Int.toNat_of_nonneg hj0.1] at this
      have e2 : wrap64 (j + -1) = j - 1 := wrap_same (by omega) (by omega)
      simp only [Bool.false_eq_true, if_false]
      rw [e2]
      exact this
end Go.Proofs.Ytibfoaahdbdogaa.PDom

/- living29 is true. Plain facts. -/
namespace Go.Proofs.Ytibfoaahdbdogaa.PDom
open Go.RowKit Go.Proofs.YtibfoaahdbdogaaW.PrintWords Go.Proofs.YtibfoaahdbdogaaW.PrintLast Go.Proofs.YtibfoaahdbdogaaW.PrintMore Go.Proofs.Ytibfoaahdbdogaa.Dom
set_option linter.unusedVariables false
set_option linter.unusedSimpArgs false

theorem name_ev {t : T} (ht : Fit t) {K : Nat} (h : laws_tree29.f K t.f0 t.f1 t.f2 t.f3 t.f4 = some true) : Ev (fun k => impl_NameOf.f k t.f0 t.f1 t.f2 t.f3 t.f4) (if t.f0 = 3 then docName else t.f1) := by
  obtain ⟨K3, e3⟩ := fitB_ev t ht
  have e2 := Ev.of (fun k => laws_tree29.mono t.f0 t.f1 t.f2 t.f3 t.f4 k) h
  obtain ⟨K2, h2⟩ := e2
  refine ⟨K2 + K3, fun k hk => ?_⟩
  have h4 : laws_tree29.f k t.f0 t.f1 t.f2 t.f3 t.f4 = some true := h2 k (by omega)
  show impl_NameOf.f k _ _ _ _ _ = _
  unfold impl_NameOf.f
  rw [h4, Option.bind_some, if_pos rfl, if_pos (e3 k (by omega))]
theorem all_ev {t : T} (ht : Fit t) {K : Nat} (h : laws_tree29.f K t.f0 t.f1 t.f2 t.f3 t.f4 = some true) : Ev (fun k => impl_AllNodes.f k t.f0 t.f1 t.f2 t.f3 t.f4) (pathsT [] t) := by
  obtain ⟨K3, e3⟩ := fitB_ev t ht
  have e2 := Ev.of (fun k => laws_tree29.mono t.f0 t.f1 t.f2 t.f3 t.f4 k) h
  obtain ⟨K2, h2⟩ := e2
  refine ⟨K2 + K3, fun k hk => ?_⟩
  have h4 : laws_tree29.f k t.f0 t.f1 t.f2 t.f3 t.f4 = some true := h2 k (by omega)
  show impl_AllNodes.f k _ _ _ _ _ = _
  unfold impl_AllNodes.f
  rw [h4, Option.bind_some, if_pos rfl, if_pos (e3 k (by omega))]
  cases t
  rfl
def liveT : T := ⟨0, ⟨#[112]⟩, ⟨#[]⟩, [], [⟨1, ⟨#[]⟩, ⟨#[97]⟩, [], []⟩]⟩
theorem live_fit : Fit liveT := Fit.mk _ (by decide) (by decide) (fun y hy => by
  have : y = ⟨1, ⟨#[]⟩, ⟨#[97]⟩, [], []⟩ := by simpa [liveT] using hy
  subst this
  exact Fit.mk _ (by decide) (by decide) (fun y hy => by cases hy))
theorem live_tree : laws_tree29.f 40 liveT.f0 liveT.f1 liveT.f2 liveT.f3 liveT.f4 = some true := by decide +kernel
theorem living_ev : Ev (fun k => laws_living29.f k) true := by
  have e1 := name_ev live_fit live_tree
  have e2 := all_ev live_fit live_tree
  refine Ev.congr (f := fun k => (impl_NameOf.f k liveT.f0 liveT.f1 liveT.f2 liveT.f3 liveT.f4).bind fun t159 => (if t159.toList = ([112] : List UInt8) then ((impl_AllNodes.f k liveT.f0 liveT.f1 liveT.f2 liveT.f3 liveT.f4).bind fun t160 => (some ((t160.length : Int) == 2))) else (some false))) (fun k => ?_) ?_
  · rw [laws_living29.f]
    rfl
  · refine Ev.bind e1 ?_
    have h1 : ((if liveT.f0 = 3 then docName else liveT.f1).toList = ([112] : List UInt8)) := by decide +kernel
    simp only [if_pos h1]
    refine Ev.bind e2 ?_
    have h2 : ((pathsT [] liveT).length : Int) == 2 := by rw [pathsT_len]; decide +kernel
    rw [h2]
    exact Ev.now _
end Go.Proofs.Ytibfoaahdbdogaa.PDom

/- impl.neighbor at the kinds of first children and siblings. Printed in part by the program gen_sibm.py of this session. -/
namespace Go.Proofs.Ytibfoaahdbdogaa.PDom
open Go.RowKit Go.Proofs.YtibfoaahdbdogaaW.PrintWords Go.Proofs.YtibfoaahdbdogaaW.PrintLast Go.Proofs.YtibfoaahdbdogaaW.PrintMore Go.Proofs.Ytibfoaahdbdogaa.Dom
set_option linter.unusedVariables false
set_option linter.unusedSimpArgs false

theorem pass8 (w : World) (x : Nat) (y : Option Nat) (h : Calls Try.prog 61 #[ptr (some x)] w fun e w' => e = .returned (ptr y) ∧ w' = w) :
    Calls Try.prog 49 #[ptr (some x), .int .i64 8] w fun e w' => e = .returned (ptr y) ∧ w' = w := by
  have H := Aside0.mk h
  clear h
  simp only [ptr_some] at H ⊢
  go_enter Try.func49, Try.ntmps49
  go_wp2_with (go_at_call 61; go_must (refine H.out.mono ?_; rintro e w' ⟨rfl, rfl⟩))
  go_ret
  exact ⟨rfl, rfl⟩

theorem pass9 (w : World) (x : Nat) (y : Option Nat) (h : Calls Try.prog 74 #[ptr (some x)] w fun e w' => e = .returned (ptr y) ∧ w' = w) :
    Calls Try.prog 49 #[ptr (some x), .int .i64 9] w fun e w' => e = .returned (ptr y) ∧ w' = w := by
  have H := Aside0.mk h
  clear h
  simp only [ptr_some] at H ⊢
  go_enter Try.func49, Try.ntmps49
  go_wp2_with (go_at_call 74; go_must (refine H.out.mono ?_; rintro e w' ⟨rfl, rfl⟩))
  go_ret
  exact ⟨rfl, rfl⟩

theorem pass10 (w : World) (x : Nat) (y : Option Nat) (h : Calls Try.prog 75 #[ptr (some x)] w fun e w' => e = .returned (ptr y) ∧ w' = w) :
    Calls Try.prog 49 #[ptr (some x), .int .i64 10] w fun e w' => e = .returned (ptr y) ∧ w' = w := by
  have H := Aside0.mk h
  clear h
  simp only [ptr_some] at H ⊢
  go_enter Try.func49, Try.ntmps49
  go_wp2_with (go_at_call 75; go_must (refine H.out.mono ?_; rintro e w' ⟨rfl, rfl⟩))
  go_ret
  exact ⟨rfl, rfl⟩

theorem pass11 (w : World) (x : Nat) (y : Option Nat) (h : Calls Try.prog 76 #[ptr (some x)] w fun e w' => e = .returned (ptr y) ∧ w' = w) :
    Calls Try.prog 49 #[ptr (some x), .int .i64 11] w fun e w' => e = .returned (ptr y) ∧ w' = w := by
  have H := Aside0.mk h
  clear h
  simp only [ptr_some] at H ⊢
  go_enter Try.func49, Try.ntmps49
  go_wp2_with (go_at_call 76; go_must (refine H.out.mono ?_; rintro e w' ⟨rfl, rfl⟩))
  go_ret
  exact ⟨rfl, rfl⟩

theorem pass12 (w : World) (x : Nat) (y : Option Nat) (h : Calls Try.prog 62 #[ptr (some x)] w fun e w' => e = .returned (ptr y) ∧ w' = w) :
    Calls Try.prog 49 #[ptr (some x), .int .i64 12] w fun e w' => e = .returned (ptr y) ∧ w' = w := by
  have H := Aside0.mk h
  clear h
  simp only [ptr_some] at H ⊢
  go_enter Try.func49, Try.ntmps49
  go_wp2_with (go_at_call 62; go_must (refine H.out.mono ?_; rintro e w' ⟨rfl, rfl⟩))
  go_ret
  exact ⟨rfl, rfl⟩

theorem pass13 (w : World) (x : Nat) (y : Option Nat) (h : Calls Try.prog 77 #[ptr (some x)] w fun e w' => e = .returned (ptr y) ∧ w' = w) :
    Calls Try.prog 49 #[ptr (some x), .int .i64 13] w fun e w' => e = .returned (ptr y) ∧ w' = w := by
  have H := Aside0.mk h
  clear h
  simp only [ptr_some] at H ⊢
  go_enter Try.func49, Try.ntmps49
  go_wp2_with (go_at_call 77; go_must (refine H.out.mono ?_; rintro e w' ⟨rfl, rfl⟩))
  go_ret
  exact ⟨rfl, rfl⟩

/-- What neighbor finds: a node at the place that nbrT tells. -/
def Finds (r : RT) (y : Option Nat) : Option (List Int) → Prop
  | none => y = none
  | some q => ∃ z, y = some z.id ∧ r.at_ q = some z
theorem find_true (l : List Nat) : l.find? (fun c => !false || isE (fun _ => none) c) = l.head? := by cases l <;> rfl
theorem findIdx_lt {α : Type} {P : α → Bool} {l : List α} {i : Nat} (h : l.findIdx? P = some i) : i < l.length := by
  rw [List.findIdx?_eq_some_iff_findIdx_eq] at h
  exact h.1
theorem first_finds {D : Tab} {r x : RT} {u : T} {path : List Int} (hr : Is D none r) (hx : r.at_ path = some x) (ht : TellsT u x) {root' : Bool} (hn : Norm root' u) (el : Bool) :
    Finds r ((x.kids.map RT.id).find? (fun c => !el || isE D c)) ((u.f4.findIdx? (elP el)).map fun (i : Nat) => path ++ [(i : Int)]) := by
  cases x with
  | node i ty a d at_ ks =>
    obtain ⟨hl, hk⟩ := told_open ht hn
    obtain ⟨q, hxi⟩ := at_is path r _ none hr hx
    have hfind := find_ids D el u.f4 ks hl (fun i h1 h2 => ⟨hk i h1 h2, ⟨_, hxi.kid (List.getElem_mem h2)⟩, hn.kid (List.getElem_mem h1)⟩)
    show Finds r ((ks.map RT.id).find? _) _
    rw [hfind]
    cases hfi : u.f4.findIdx? (elP el) with
    | none => rfl
    | some m =>
      have hm : m < ks.length := by have := findIdx_lt hfi; omega
      refine ⟨ks[m], by simp [List.getElem?_eq_getElem hm], ?_⟩
      rw [at_append, hx]
      simp only [Option.bind_some, RT.at_, RT.kids]
      rw [if_pos (by omega), Int.toNat_natCast, List.getElem?_eq_getElem hm]
      rfl
theorem last_split (path : List Int) (j : Int) (h : path.getLast? = some j) : path = path.dropLast ++ [j] := by
  obtain ⟨l, rfl⟩ := List.getLast?_eq_some_iff.1 h
  simp
/-- The node at a place that isn't the root: its parent, and its number among the children. -/
theorem at_last {r x : RT} {path : List Int} {j : Int} (hx : r.at_ path = some x) (hj : path.getLast? = some j) : ∃ up, r.at_ path.dropLast = some up ∧ 0 ≤ j ∧ ∃ h : j.toNat < up.kids.length, up.kids[j.toNat] = x := by
  have e := last_split path j hj
  rw [e, at_append] at hx
  obtain ⟨up, h1, h2⟩ := Option.bind_eq_some_iff.1 hx
  refine ⟨up, h1, ?_⟩
  simp only [RT.at_] at h2
  by_cases h0 : 0 ≤ j
  · rw [if_pos h0] at h2
    obtain ⟨y, h3, h4⟩ := Option.bind_eq_some_iff.1 h2
    obtain rfl := Option.some.inj h4
    obtain ⟨h5, h6⟩ := List.getElem?_eq_some_iff.1 h3
    exact ⟨h0, h5, h6⟩
  · rw [if_neg h0] at h2
    cases h2
theorem kid_path {D : Tab} {r up : RT} {init : List Int} (hr : Is D none r) (hu : r.at_ init = some up) (m : Nat) (hm : m < up.kids.length) : r.at_ (init ++ [(m : Int)]) = some up.kids[m] := by
  rw [at_append, hu]
  simp only [Option.bind_some, RT.at_]
  rw [if_pos (by omega), Int.toNat_natCast, List.getElem?_eq_getElem hm]
  rfl
theorem next_finds {D : Tab} {r up : RT} {u : T} {init : List Int} {j : Int} (h0 : 0 ≤ j) (hr : Is D none r) (hu : r.at_ init = some up) (ht : TellsT u up) {root' : Bool} (hn : Norm root' u) (hj : j.toNat < up.kids.length) (el : Bool) :
    Finds r (((up.kids.map RT.id).drop (j.toNat + 1)).find? (fun c => !el || isE D c)) (((u.f4.drop (j.toNat + 1)).findIdx? (elP el)).map fun (i : Nat) => init ++ [j + 1 + (i : Int)]) := by
  obtain ⟨q, hxi⟩ := at_is init r _ none hr hu
  have hkp := fun m hm => kid_path hr hu m hm
  cases up with
  | node i ty a d at_ ks =>
    obtain ⟨hl, hk⟩ := told_open ht hn
    have hfind := find_ids D el (u.f4.drop (j.toNat + 1)) (ks.drop (j.toNat + 1)) (by simp only [List.length_drop]; omega) (fun i h1 h2 => by
      simp only [List.getElem_drop]
      exact ⟨hk _ _ _, ⟨_, hxi.kid (List.getElem_mem _)⟩, hn.kid (List.getElem_mem _)⟩)
    show Finds r (((ks.map RT.id).drop (j.toNat + 1)).find? _) _
    rw [← List.map_drop, hfind]
    cases hfi : (u.f4.drop (j.toNat + 1)).findIdx? (elP el) with
    | none => rfl
    | some m =>
      have hm := findIdx_lt hfi
      rw [List.length_drop] at hm
      have hm2 : j.toNat + 1 + m < ks.length := by omega
      refine ⟨ks[j.toNat + 1 + m], by simp [List.getElem?_drop, List.getElem?_eq_getElem hm2], ?_⟩
      have := hkp (j.toNat + 1 + m) hm2
      have e : (((j.toNat + 1 + m : Nat)) : Int) = j + 1 + (m : Int) := by omega
      rw [e] at this
      exact this
theorem prev_finds {D : Tab} {r up : RT} {u : T} {init : List Int} {j : Int} (h0 : 0 ≤ j) (hr : Is D none r) (hu : r.at_ init = some up) (ht : TellsT u up) {root' : Bool} (hn : Norm root' u) (hj : j.toNat < up.kids.length) (el : Bool) :
    Finds r (((up.kids.map RT.id).take j.toNat).reverse.find? (fun c => !el || isE D c)) (((u.f4.take j.toNat).reverse.findIdx? (elP el)).map fun (i : Nat) => init ++ [j - 1 - (i : Int)]) := by
  obtain ⟨q, hxi⟩ := at_is init r _ none hr hu
  have hkp := fun m hm => kid_path hr hu m hm
  cases up with
  | node i ty a d at_ ks =>
    obtain ⟨hl, hk⟩ := told_open ht hn
    have hj2 : j.toNat < ks.length := hj
    have hfind := find_ids D el (u.f4.take j.toNat).reverse (ks.take j.toNat).reverse (by simp only [List.length_reverse, List.length_take]; omega) (fun i h1 h2 => by
      simp only [List.getElem_reverse, List.getElem_take, List.length_take]
      have e : min j.toNat u.f4.length - 1 - i = min j.toNat ks.length - 1 - i := by omega
      simp only [e]
      exact ⟨hk _ _ _, ⟨_, hxi.kid (List.getElem_mem _)⟩, hn.kid (List.getElem_mem _)⟩)
    show Finds r (((ks.map RT.id).take j.toNat).reverse.find? _) _
    rw [← List.map_take, ← List.map_reverse, hfind]
    cases hfi : (u.f4.take j.toNat).reverse.findIdx? (elP el) with
    | none => rfl
    | some m =>
      have hm := findIdx_lt hfi
      rw [List.length_reverse, List.length_take] at hm
      have hm2 : j.toNat - 1 - m < ks.length := by omega
      refine ⟨ks[j.toNat - 1 - m], ?_, ?_⟩
      · rw [Option.bind_some, List.getElem?_reverse (by rw [List.length_take]; omega), List.length_take]
        rw [List.getElem?_take_of_lt (by omega)]
        have e : min j.toNat ks.length - 1 - m = j.toNat - 1 - m := by omega
        rw [e, List.getElem?_eq_getElem hm2]
        rfl
      · have := hkp (j.toNat - 1 - m) hm2
        have e : (((j.toNat - 1 - m : Nat)) : Int) = j - 1 - (m : Int) := by omega
        rw [e] at this
        exact this
end Go.Proofs.Ytibfoaahdbdogaa.PDom

/- impl.Neighbor at the kinds of first children and siblings: its contract. -/
namespace Go.Proofs.Ytibfoaahdbdogaa.PDom
open Go.RowKit Go.Proofs.YtibfoaahdbdogaaW.PrintWords Go.Proofs.YtibfoaahdbdogaaW.PrintLast Go.Proofs.YtibfoaahdbdogaaW.PrintMore Go.Proofs.Ytibfoaahdbdogaa.Dom
set_option linter.unusedVariables false
set_option linter.unusedSimpArgs false

theorem info_kids (p : Option Nat) (r : RT) : (r.info p).kids = r.kids.map RT.id := by cases r; rfl
theorem root_cells {w : World} {D : Tab} (h : Dom w D) {r : RT} (hr : Is D none r) : w.cell? ⟨r.id, 3, none⟩ = some (ptr none) ∧ w.cell? ⟨r.id, 4, none⟩ = some (ptr none) := by
  obtain ⟨v, hv, _⟩ := h.has hr.root
  have hs : sibs D (r.info none) = [] := sibs_none (by cases r; rfl)
  refine ⟨?_, ?_⟩
  · rw [hv.cells10.2.2.2.1]
    show some (ptr (prevIn (sibs D (r.info none)) r.id)) = _
    rw [hs]; rfl
  · rw [hv.cells10.2.2.2.2.1]
    show some (ptr (nextIn (sibs D (r.info none)) r.id)) = _
    rw [hs]; rfl
theorem last_rev (l : List Nat) : l.getLast? = l.reverse[0]? := by rw [← List.head?_reverse]; cases l.reverse <;> rfl
theorem find_all (l : List Nat) (D : Tab) : l.find? (fun c => !false || isE D c) = l[0]? := by cases l <;> rfl
theorem nbr_calls (w : World) (D : Tab) (hdom : Dom w D) (r x : RT) (hr : Is D none r) (t : T) (ht : TellsT t r) (hn : Norm true t) (path : List Int) (hx : r.at_ path = some x) (kind : Int) (hk : 8 ≤ kind ∧ kind ≤ 13) :
    ∃ yo, (Calls Try.prog 49 #[ptr (some x.id), .int .i64 kind] w fun e w' => e = .returned (ptr yo) ∧ w' = w) ∧ Finds r yo (nbrT t path kind) := by
  have hT : ∀ l, r.at_ l ≠ none → ∃ u y, atT t l = some u ∧ r.at_ l = some y ∧ TellsT u y ∧ ∃ root', Norm root' u := by
    intro l hl
    rcases at_told l t r true hn ht with ⟨_, h⟩ | h
    · exact absurd h hl
    · exact h
  obtain ⟨u, x', hu, hx', htx, root', hnx⟩ := hT path (by rw [hx]; simp)
  obtain rfl : x = x' := Option.some.inj (hx.symm.trans hx')
  obtain ⟨q, hxi⟩ := at_is path r x none hr hx
  have hfirst := hxi.first hdom
  have hch : Chain w D 4 (x.kids.map RT.id) := by
    have := chain_next hdom hxi.root 0
    rw [List.drop_zero, info_kids] at this
    exact this
  have h0 : (x.kids[0]?.map RT.id) = (x.kids.map RT.id)[0]? := by rw [List.getElem?_map]
  have nb : ∀ kd, nbrT t path kd = if kd = 8 ∨ kd = 9 then (u.f4.findIdx? (elP (kd == 9))).map fun (i : Nat) => path ++ [(i : Int)]
      else match path.getLast? with
        | none => none
        | some j => (atT t path.dropLast).bind fun up =>
          if kd = 10 ∨ kd = 11 then ((up.f4.take j.toNat).reverse.findIdx? (elP (kd == 11))).map fun (i : Nat) => path.dropLast ++ [j - 1 - (i : Int)]
          else ((up.f4.drop (j.toNat + 1)).findIdx? (elP (kd == 13))).map fun (i : Nat) => path.dropLast ++ [j + 1 + (i : Int)] := by
    intro kd
    unfold nbrT
    rw [hu]
    rfl
  have hcase : kind = 8 ∨ kind = 9 ∨ kind = 10 ∨ kind = 11 ∨ kind = 12 ∨ kind = 13 := by omega
  rcases hcase with rfl | rfl | hcase
  · refine ⟨_, pass8 w x.id ((x.kids.map RT.id).find? (fun c => !false || isE D c)) ?_, ?_⟩
    · rw [find_all, ← h0]
      exact firstN_calls w x.id _ hfirst ⟨_, rfl⟩
    · rw [nb 8, if_pos (by decide)]
      exact first_finds hr hx htx hnx false
  · refine ⟨_, pass9 w x.id ((x.kids.map RT.id).find? (fun c => !true || isE D c)) ?_, ?_⟩
    · exact firstE_calls w D x.id (x.kids.map RT.id) (by rw [← h0]; exact hfirst) hch
    · rw [nb 9, if_pos (by decide)]
      exact first_finds hr hx htx hnx true
  · cases hlast : path.getLast? with
    | none =>
      have hp : path = [] := List.getLast?_eq_none_iff.1 hlast
      subst hp
      obtain rfl : r = x := Option.some.inj hx
      obtain ⟨c3, c4⟩ := root_cells hdom hr
      rcases hcase with rfl | rfl | rfl | rfl
      · exact ⟨none, pass10 w r.id none (prevN_calls w r.id _ c3 ⟨_, rfl⟩), by rw [nb 10]; rfl⟩
      · exact ⟨none, pass11 w r.id none (prevE_calls w D r.id [] c3 (chain_nil w D 3)), by rw [nb 11]; rfl⟩
      · exact ⟨none, pass12 w r.id none (nextN_calls w r.id _ c4 ⟨_, rfl⟩), by rw [nb 12]; rfl⟩
      · exact ⟨none, pass13 w r.id none (nextE_calls w D r.id [] c4 (chain_nil w D 4)), by rw [nb 13]; rfl⟩
    | some j =>
      obtain ⟨up, hup, hj0, hjl, hxe⟩ := at_last hx hlast
      obtain ⟨uu, up', huu, hup', htu, root2, hnu⟩ := hT path.dropLast (by rw [hup]; simp)
      obtain rfl : up = up' := Option.some.inj (hup.symm.trans hup')
      obtain ⟨q2, hupi⟩ := at_is _ r up none hr hup
      have hlen : j.toNat < (up.info q2).kids.length := by rw [info_kids, List.length_map]; exact hjl
      obtain ⟨_, k3, k4⟩ := kid_cells hdom hupi.root hlen
      have hid : (up.info q2).kids[j.toNat] = x.id := by simp only [info_kids, List.getElem_map, hxe]
      rw [hid] at k3 k4
      have hcn := chain_next hdom hupi.root (j.toNat + 1)
      have hcp := chain_prev hdom hupi.root j.toNat (by omega)
      rw [info_kids] at k3 k4 hcn hcp
      have e4 : (up.kids.map RT.id)[j.toNat + 1]? = ((up.kids.map RT.id).drop (j.toNat + 1))[0]? := by rw [List.getElem?_drop]
      have e3 : ((up.kids.map RT.id).take j.toNat).getLast? = ((up.kids.map RT.id).take j.toNat).reverse[0]? := last_rev _
      rw [e4] at k4
      rw [e3] at k3
      rcases hcase with rfl | rfl | rfl | rfl
      · refine ⟨_, pass10 w x.id (((up.kids.map RT.id).take j.toNat).reverse.find? (fun c => !false || isE D c)) ?_, ?_⟩
        · rw [find_all]
          exact prevN_calls w x.id _ k3 ⟨_, rfl⟩
        · rw [nb 10, if_neg (by decide), hlast, huu]
          exact prev_finds hj0 hr hup htu hnu hjl false
      · refine ⟨_, pass11 w x.id (((up.kids.map RT.id).take j.toNat).reverse.find? (fun c => !true || isE D c)) ?_, ?_⟩
        · exact prevE_calls w D x.id _ k3 hcp
        · rw [nb 11, if_neg (by decide), hlast, huu]
          exact prev_finds hj0 hr hup htu hnu hjl true
      · refine ⟨_, pass12 w x.id (((up.kids.map RT.id).drop (j.toNat + 1)).find? (fun c => !false || isE D c)) ?_, ?_⟩
        · rw [find_all]
          exact nextN_calls w x.id _ k4 ⟨_, rfl⟩
        · rw [nb 12, if_neg (by decide), hlast, huu]
          exact next_finds hj0 hr hup htu hnu hjl false
      · refine ⟨_, pass13 w x.id (((up.kids.map RT.id).drop (j.toNat + 1)).find? (fun c => !true || isE D c)) ?_, ?_⟩
        · exact nextE_calls w D x.id _ k4 hcn
        · rw [nb 13, if_neg (by decide), hlast, huu]
          exact next_finds hj0 hr hup htu hnu hjl true

def nbrR (t : T) (path : List Int) (kind : Int) : Option (List Int) := (atT t path).bind fun _ => nbrT t path kind
set_option maxHeartbeats 400000 in
set_option maxRecDepth 100000 in
theorem neighbor_walk (t : T) (hn : Norm true t) (hc : countT t ≤ 300) (ht : Fit t) (path : List Int) (kind : Int) (hk : 8 ≤ kind ∧ kind ≤ 13) (w : World) (A3 : Option Addr) (c3 : Nat) (A4 : Option Addr) (c4 : Nat) (A1 : Option Addr) (c1 : Nat) (h3 : Kd.C k78 w A3 t.f3.length t.f3) (l3 : t.f3.length ≤ c3) (h4 : Kd.C k25 w A4 t.f4.length t.f4) (l4 : t.f4.length ≤ c4) (h1 : (Kd.int .i64).C w A1 path.length path) (hp : path.length ≤ 4398046510976) :
    Calls Try.prog 26 #[.agg #[.int .i64 t.f0, .string t.f1, .string t.f2, .slice A3 t.f3.length c3, .slice A4 t.f4.length c4], .slice A1 path.length c1, .int .i64 kind] w fun e w' => ∃ v : Value, e = .returned (.tuple #[v, .bool (nbrR t path kind).isSome]) ∧ (Kd.int .i64).R 3 w' w.heap.size (fun _ => True) v ((nbrR t path kind).getD []) ∧ Below w.heap.size w w' := by
  have HB0 := Aside0.mk (below_alloc (Below.refl w.heap.size w) (Obj.cells #[Value.int IntKind.i64 t.f0, Value.string t.f1, Value.string t.f2, Value.slice A3 t.f3.length c3, Value.slice A4 t.f4.length c4] 25))
  have HM := Aside0.mk (made_calls _ t (Nat.le_refl _) ht _ A3 c3 A4 c4 (Kd.C_below h3 HB0.out) l3 (Kd.C_below h4 HB0.out) l4)
  clear h3 l3 h4 l4
  have HN := Aside0.mk hn
  have HC := Aside0.mk hc
  have HP := Aside0.mk h1
  have HK := Aside0.mk hk
  have HPL := Aside0.mk hp
  clear hn hc ht h1 hk hp
  go_enter Try.func26, Try.ntmps26
  go_wp2_with fail
  refine HM.out.mono ?_
  rintro e w1 ⟨b, D, rfl, hm⟩
  have hb1 := below_step HB0.out hm.below
  obtain ⟨i0, hi0⟩ : ∃ i, D b = some i := by
    obtain ⟨_, _, i, h, _⟩ := hm.tree
    exact ⟨i, h⟩
  obtain ⟨r, rfl, hr, hto⟩ := hm.tree.rt hm.dom.wf i0 hi0
  have hroot := hm.root i0 hi0
  rw [hroot] at hr
  obtain ⟨_, hpl⟩ := told_paths r t true HN.out hto
  have hsz : r.pre.length ≤ 4398046510976 := by have := HC.out; omega
  have HA := Aside0.mk (at_calls w1 D hm.dom none r hr A1 c1 path (Kd.C_below HP.out hb1) HPL.out hsz)
  have HD := Aside0.mk hm.dom
  have HR := Aside0.mk hr
  have HT := Aside0.mk hto
  have HB1 := Aside0.mk hb1
  have HSZ := Aside0.mk (show r.pre.length ≤ 300 by have := HC.out; omega)
  clear hsz hpl hroot hto hr hi0 hm hb1 HM
  have hcs := at_told path t r true HN.out HT.out
  have HRI := Aside0.mk (fun (y : RT) (q : List Int) (h : r.at_ q = some y) => at_path q r y none [] HR.out (PathTo.root _ HR.out.root (by cases r; rfl)) h)
  rcases hcs with ⟨hc1, hc2⟩ | ⟨u, x, hu, hx, htx, root', hnx⟩
  · have HE := Aside0.mk (show nbrR t path kind = none by unfold nbrR; rw [hc1]; rfl)
    rw [hc2] at HA
    clear hc1 hc2 HRI
    generalize r.id = ri at *
    simp only [Option.map_none, ptr_some, ptr_none] at HA ⊢
    go_wp2_with (go_at_call 41; go_must (refine HA.out.mono ?_; rintro e w2 ⟨rfl, rfl⟩))
    go_ret2
    exact ⟨_, by rw [HE.out]; rfl, by rw [HE.out]; exact Kd.R_nil _ _ _ _ _, HB1.out⟩
  · have HE := Aside0.mk (show nbrR t path kind = nbrT t path kind by unfold nbrR; rw [hu]; rfl)
    obtain ⟨yo, hcall, hfin⟩ := nbr_calls w1 D HD.out r x HR.out t HT.out HN.out path hx kind HK.out
    have HCALL := Aside0.mk hcall
    rw [hx, Option.map_some] at HA
    clear hcall hu hx htx hnx
    generalize hnb : nbrT t path kind = nb at *
    have HNB := Aside0.mk hnb
    clear hnb
    cases nb with
    | none =>
      obtain rfl : yo = none := hfin
      clear HRI
      generalize r.id = ri at *
      generalize x.id = xi at *
      simp only [Option.map_some, ptr_some, ptr_none] at HA HCALL ⊢
      go_wp2_with (first | (go_at_call 41; go_must (refine HA.out.mono ?_; rintro e w2 ⟨rfl, rfl⟩)) | (go_at_call 49; go_must (refine HCALL.out.mono ?_; rintro e w2 ⟨rfl, rfl⟩)))
      go_ret2
      exact ⟨_, by rw [HE.out]; rfl, by rw [HE.out]; exact Kd.R_nil _ _ _ _ _, HB1.out⟩
    | some q =>
      obtain ⟨z, rfl, hz⟩ := hfin
      obtain ⟨_, hz2, hz3⟩ := at_small q r z hz
      have hsz3 := HSZ.out
      have HPC := Aside0.mk (path_calls w1 D r.id z.id q HD.out (HRI.out z q hz) (by omega) (fun y hy => by have := hz3 y hy; omega))
      clear hz hz2 hz3 HRI hsz3
      generalize r.id = ri at *
      generalize x.id = xi at *
      generalize z.id = zi at *
      simp only [Option.map_some, ptr_some, ptr_none] at HA HCALL HPC ⊢
      go_wp2_with (first | (go_at_call 41; go_must (refine HA.out.mono ?_; rintro e w2 ⟨rfl, rfl⟩)) | (go_at_call 49; go_must (refine HCALL.out.mono ?_; rintro e w2 ⟨rfl, rfl⟩)))
      refine HPC.out.mono ?_
      rintro e w3 ⟨v, rfl, hR, hB⟩
      have HR3 := Aside0.mk hR
      have HB3 := Aside0.mk hB
      clear hR hB
      go_wp2
      go_ret2
      exact ⟨_, by rw [HE.out]; rfl, by rw [HE.out]; exact Kd.R_lower HR3.out HB1.out.size, below_step HB1.out HB3.out⟩

def impl_Neighbor.f (k : Nat) (a0_0 : Int) (a0_1 : ByteArray) (a0_2 : ByteArray) (l0_3 : List (S78)) (l0_4 : List (S25)) (l1 : List Int) (a2 : Int) : Option (List Int × Bool) :=
  (laws_tree29.f k a0_0 a0_1 a0_2 l0_3 l0_4).bind fun b => if b = true ∧ fitB k ⟨a0_0, a0_1, a0_2, l0_3, l0_4⟩ = true ∧ l1.length ≤ 4398046510976 ∧ 8 ≤ a2 ∧ a2 ≤ 13 then some ((nbrR ⟨a0_0, a0_1, a0_2, l0_3, l0_4⟩ l1 a2).getD [], (nbrR ⟨a0_0, a0_1, a0_2, l0_3, l0_4⟩ l1 a2).isSome) else none
theorem impl_Neighbor.mono : ∀ a0 a1 a2 a3 a4 a5 a6 k, LeO (impl_Neighbor.f k a0 a1 a2 a3 a4 a5 a6) (impl_Neighbor.f (k + 1) a0 a1 a2 a3 a4 a5 a6) := by
  intro a0 a1 a2 a3 a4 a5 a6 k
  unfold impl_Neighbor.f
  refine LeO.bind (laws_tree29.mono _ _ _ _ _ _) (fun b => ?_)
  by_cases hb : b = true ∧ fitB k ⟨a0, a1, a2, a3, a4⟩ = true ∧ a5.length ≤ 4398046510976 ∧ 8 ≤ a6 ∧ a6 ≤ 13
  · rw [if_pos hb, if_pos ⟨hb.1, fitB_mono _ _ hb.2.1, hb.2.2⟩]
    exact LeO.refl _
  · rw [if_neg hb]
    exact LeO.none _
theorem impl_Neighbor.calls (k : Nat) (a0_0 : Int) (a0_1 : ByteArray) (a0_2 : ByteArray) (A0_3 : Option Addr) (c0_3 : Nat) (l0_3 : List (S78)) (A0_4 : Option Addr) (c0_4 : Nat) (l0_4 : List (S25)) (A1 : Option Addr) (c1 : Nat) (l1 : List Int) (a2 : Int) (r1 : List Int) (r2 : Bool) (w : World) (hr0_3 : Kd.C k78 w A0_3 l0_3.length l0_3) (hc0_3 : l0_3.length ≤ c0_3) (hr0_4 : Kd.C k25 w A0_4 l0_4.length l0_4) (hc0_4 : l0_4.length ≤ c0_4) (hr1 : Kd.C (Kd.int .i64) w A1 l1.length l1) (hc1 : l1.length ≤ c1) (h : impl_Neighbor.f k a0_0 a0_1 a0_2 l0_3 l0_4 l1 a2 = some (r1, r2)) :
    Calls Try.prog 26 #[.agg #[.int .i64 a0_0, .string a0_1, .string a0_2, .slice A0_3 l0_3.length c0_3, .slice A0_4 l0_4.length c0_4], .slice A1 l1.length c1, .int .i64 a2] w fun e w' => ∃ v0_ : Value, e = .returned (.tuple #[v0_, .bool r2]) ∧ Kd.R (Kd.int .i64) 3 w' w.heap.size (fun _ => True) v0_ r1 ∧ Below w.heap.size w w' := by
  obtain ⟨hb, hfit, hl, hk, hr⟩ : laws_tree29.f k a0_0 a0_1 a0_2 l0_3 l0_4 = some true ∧ fitB k ⟨a0_0, a0_1, a0_2, l0_3, l0_4⟩ = true ∧ l1.length ≤ 4398046510976 ∧ (8 ≤ a2 ∧ a2 ≤ 13) ∧ ((nbrR ⟨a0_0, a0_1, a0_2, l0_3, l0_4⟩ l1 a2).getD [], (nbrR ⟨a0_0, a0_1, a0_2, l0_3, l0_4⟩ l1 a2).isSome) = (r1, r2) := by
    unfold impl_Neighbor.f at h
    obtain ⟨b, hb, h2⟩ := Option.bind_eq_some_iff.1 h
    split at h2
    case isFalse => cases h2
    rename_i hbt
    obtain ⟨rfl, h3, h4, h5⟩ := hbt
    exact ⟨hb, h3, h4, h5, Option.some.inj h2⟩
  have ht := fitB_fit _ _ hfit
  obtain ⟨hn, hc, _⟩ := tree_norm (t := ⟨a0_0, a0_1, a0_2, l0_3, l0_4⟩) ht hb
  have hw := neighbor_walk ⟨a0_0, a0_1, a0_2, l0_3, l0_4⟩ hn hc ht l1 a2 hk w A0_3 c0_3 A0_4 c0_4 A1 c1 hr0_3 hc0_3 hr0_4 hc0_4 hr1 hl
  injection hr with h1 h2
  rw [h1, h2] at hw
  exact hw
end Go.Proofs.Ytibfoaahdbdogaa.PDom
