/- A part of the proof of FnRedundant: FRed, one behind the other. -/
import Derived.Test.YtmfjbljdbkmkgaaMFnRedundant2
import Derived.Test.YtmfjbljdbkmkgaaMFnRedundant4
import Derived.Test.YtmfjbljdbkmkgaaMFnRedundant5
/- Printed by the program extprint.py of this session, out of the kit's print and contracts of this session's own; Lean checks it. -/
namespace Go.Proofs.Ytmfjbljdbkmkgaa.PDom
open Go.RowKit Go.Proofs.YtmfjbljdbkmkgaaW.PrintWords Go.Proofs.YtmfjbljdbkmkgaaW.PrintLast Go.Proofs.YtmfjbljdbkmkgaaW.PrintMore
attribute [local go_sem] max2_int min2_int max_two min_two max_three min_three max_four min_four   -- for this text's walks alone
set_option linter.unusedVariables false
set_option linter.unusedSimpArgs false


/-! ### laws_FnRedundant: function 3 -/
def laws_FnRedundant.f (k : Nat) (a0_0 : Int) (a0_1 : ByteArray) (a0_2 : ByteArray) (l0_3 : List (S53)) (l0_4 : List (S25)) : Option (Bool) := (laws_zzFits2.f k a0_0 a0_1 a0_2 l0_3 l0_4).bind fun t194 => (if t194 = true then ((laws_inlineCutTree.f k a0_0 a0_1 a0_2 l0_3 l0_4).bind fun bt195 => ((some (([(⟨#[98]⟩ : ByteArray), (⟨#[115, 116, 114, 111, 110, 103]⟩ : ByteArray)] : List ByteArray) : List ByteArray)).bind fun y204 => ((impl_Redundant.f k bt195.1 bt195.2.1 bt195.2.2.1 bt195.2.2.2.1 bt195.2.2.2.2 y204).bind fun bt207 => ((laws_inlineWithin.f k bt207.1 bt207.2.1 bt207.2.2.1 bt207.2.2.2.1 bt207.2.2.2.2 y204 false).bind fun t217 => (if t217 = true then (some false) else ((spec_TextOf.f k bt207.1 bt207.2.1 bt207.2.2.1 bt207.2.2.2.1 bt207.2.2.2.2).bind fun t218 => ((spec_TextOf.f k bt195.1 bt195.2.1 bt195.2.2.1 bt195.2.2.2.1 bt195.2.2.2.2).bind fun t219 => (if t218.toList = t219.toList then ((impl_Redundant.f k bt207.1 bt207.2.1 bt207.2.2.1 bt207.2.2.2.1 bt207.2.2.2.2 y204).bind fun bt220 => ((spec_SameTree.f k bt220.1 bt220.2.1 bt220.2.2.1 bt220.2.2.2.1 bt220.2.2.2.2 bt207.1 bt207.2.1 bt207.2.2.1 bt207.2.2.2.1 bt207.2.2.2.2).bind fun t229 => (if t229 = true then ((laws_inlineLives.f k).bind fun t230 => (some t230)) else (some false)))) else (some false))))))))) else (some true))
theorem laws_FnRedundant.mono : ∀ a0 a1 a2 a3 a4 k, LeO (laws_FnRedundant.f k a0 a1 a2 a3 a4) (laws_FnRedundant.f (k + 1) a0 a1 a2 a3 a4) := by
  intro a0 a1 a2 a3 a4 k
  unfold laws_FnRedundant.f
  repeat' first
      | (with_reducible exact impl_Redundant.mono _ _ _ _ _ _ _)
      | (with_reducible exact laws_inlineCutTree.mono _ _ _ _ _ _)
      | (with_reducible exact laws_inlineLives.mono _)
      | (with_reducible exact laws_inlineWithin.mono _ _ _ _ _ _ _ _)
      | (with_reducible exact laws_zzFits2.mono _ _ _ _ _ _)
      | (with_reducible exact spec_SameTree.mono _ _ _ _ _ _ _ _ _ _ _)
      | (with_reducible exact spec_TextOf.mono _ _ _ _ _ _)
      | (with_reducible exact LeO.refl _)
      | (with_reducible exact LeO.none _)
      | (with_reducible refine LeO.ite ?_ ?_)
      | (with_reducible refine LeO.bind ?_ (fun _ => ?_))
      | exact impl_Redundant.mono _ _ _ _ _ _ _
      | exact laws_inlineCutTree.mono _ _ _ _ _ _
      | exact laws_inlineLives.mono _
      | exact laws_inlineWithin.mono _ _ _ _ _ _ _ _
      | exact laws_zzFits2.mono _ _ _ _ _ _
      | exact spec_SameTree.mono _ _ _ _ _ _ _ _ _ _ _
      | exact spec_TextOf.mono _ _ _ _ _ _
      | exact LeO.none _
      | refine LeO.ite ?_ ?_
      | refine LeO.bind ?_ (fun _ => ?_)
def laws_FnRedundant.T6 : Bool × List (List Nat × List Nat) := (true, [([], []), ([], []), ([0, 1], [0, 1]), ([2], [2]), ([3, 2], [3]), ([4], [4]), ([5, 4, 4], [4, 5]), ([4], [4]), ([7, 6, 4], [4, 7]), ([6, 8, 4], [4, 6, 8]), ([4, 9], [4, 9]), ([10, 8], [10]), ([11], [11]), ([11], [11]), ([12, 13, 11, 11], [11, 12, 13]), ([11], [11]), ([14, 15, 14, 11], [11, 14, 15]), ([11, 16], [11, 16]), ([17, 16], [17]), ([18, 18], [18]), ([18, 19], [18, 19]), ([20, 19, 0, 1, 2, 3, 4, 5, 6, 7, 8, 9, 10, 11, 12, 13, 14, 15, 16, 17, 18, 19, 20], [20])])
def laws_FnRedundant.B6 : List Nat := [0, 0, 3, 7, 15, 31, 63, 31, 255, 511, 1023, 2047, 4095, 4095, 16383, 4095, 65535, 131071, 262143, 524287, 1048575, 2097151]
theorem laws_FnRedundant.tab6 : rtab .any (opsOf Try.f3 6) = laws_FnRedundant.T6 := by kernel_rfl
theorem laws_FnRedundant.bits6 : waitsOk laws_FnRedundant.T6.2 laws_FnRedundant.B6 = true := by kernel_rfl
set_option maxHeartbeats 8000000 in
set_option maxRecDepth 100000 in
theorem laws_FnRedundant.calls (k : Nat) (a0_0 : Int) (a0_1 : ByteArray) (a0_2 : ByteArray) (A0_3 : Option Addr) (c0_3 : Nat) (l0_3 : List (S53)) (A0_4 : Option Addr) (c0_4 : Nat) (l0_4 : List (S25)) (r : Bool) (w : World) (hr0_3 : Kd.C k53 w A0_3 l0_3.length l0_3) (hc0_3 : l0_3.length ≤ c0_3) (hr0_4 : Kd.C k25 w A0_4 l0_4.length l0_4) (hc0_4 : l0_4.length ≤ c0_4) (h : laws_FnRedundant.f k a0_0 a0_1 a0_2 l0_3 l0_4 = some r) :
    Calls Try.prog 3 #[.agg #[.int .i64 a0_0, .string a0_1, .string a0_2, .slice A0_3 l0_3.length c0_3, .slice A0_4 l0_4.length c0_4]] w fun e w' => e = .returned (.bool r) ∧ Below w.heap.size w w' := by
  have hu25 := Try.underlying25
  have HR0_3 := Aside0.mk hr0_3
  have HC0_3 := Aside0.mk hc0_3
  clear hr0_3 hc0_3
  have HR0_4 := Aside0.mk hr0_4
  have HC0_4 := Aside0.mk hc0_4
  clear hr0_4 hc0_4
  have HB := Aside0.mk (Below.refl w.heap.size w)
  have H : ((laws_zzFits2.f k a0_0 a0_1 a0_2 l0_3 l0_4).bind fun t194 => (if t194 = true then ((laws_inlineCutTree.f k a0_0 a0_1 a0_2 l0_3 l0_4).bind fun bt195 => ((some (([(⟨#[98]⟩ : ByteArray), (⟨#[115, 116, 114, 111, 110, 103]⟩ : ByteArray)] : List ByteArray) : List ByteArray)).bind fun y204 => ((impl_Redundant.f k bt195.1 bt195.2.1 bt195.2.2.1 bt195.2.2.2.1 bt195.2.2.2.2 y204).bind fun bt207 => ((laws_inlineWithin.f k bt207.1 bt207.2.1 bt207.2.2.1 bt207.2.2.2.1 bt207.2.2.2.2 y204 false).bind fun t217 => (if t217 = true then (some false) else ((spec_TextOf.f k bt207.1 bt207.2.1 bt207.2.2.1 bt207.2.2.2.1 bt207.2.2.2.2).bind fun t218 => ((spec_TextOf.f k bt195.1 bt195.2.1 bt195.2.2.1 bt195.2.2.2.1 bt195.2.2.2.2).bind fun t219 => (if t218.toList = t219.toList then ((impl_Redundant.f k bt207.1 bt207.2.1 bt207.2.2.1 bt207.2.2.2.1 bt207.2.2.2.2 y204).bind fun bt220 => ((spec_SameTree.f k bt220.1 bt220.2.1 bt220.2.2.1 bt220.2.2.2.1 bt220.2.2.2.2 bt207.1 bt207.2.1 bt207.2.2.1 bt207.2.2.2.1 bt207.2.2.2.2).bind fun t229 => (if t229 = true then ((laws_inlineLives.f k).bind fun t230 => (some t230)) else (some false)))) else (some false))))))))) else (some true))) = some r := h
  clear h
  replace H := Option.bind_eq_some_iff.mp H
  obtain ⟨t194, A20, H⟩ := H
  replace H : (if t194 = true then ((laws_inlineCutTree.f k a0_0 a0_1 a0_2 l0_3 l0_4).bind fun bt195 => ((some (([(⟨#[98]⟩ : ByteArray), (⟨#[115, 116, 114, 111, 110, 103]⟩ : ByteArray)] : List ByteArray) : List ByteArray)).bind fun y204 => ((impl_Redundant.f k bt195.1 bt195.2.1 bt195.2.2.1 bt195.2.2.2.1 bt195.2.2.2.2 y204).bind fun bt207 => ((laws_inlineWithin.f k bt207.1 bt207.2.1 bt207.2.2.1 bt207.2.2.2.1 bt207.2.2.2.2 y204 false).bind fun t217 => (if t217 = true then (some false) else ((spec_TextOf.f k bt207.1 bt207.2.1 bt207.2.2.1 bt207.2.2.2.1 bt207.2.2.2.2).bind fun t218 => ((spec_TextOf.f k bt195.1 bt195.2.1 bt195.2.2.1 bt195.2.2.2.1 bt195.2.2.2.2).bind fun t219 => (if t218.toList = t219.toList then ((impl_Redundant.f k bt207.1 bt207.2.1 bt207.2.2.1 bt207.2.2.2.1 bt207.2.2.2.2 y204).bind fun bt220 => ((spec_SameTree.f k bt220.1 bt220.2.1 bt220.2.2.1 bt220.2.2.2.1 bt220.2.2.2.2 bt207.1 bt207.2.1 bt207.2.2.1 bt207.2.2.2.1 bt207.2.2.2.2).bind fun t229 => (if t229 = true then ((laws_inlineLives.f k).bind fun t230 => (some t230)) else (some false)))) else (some false))))))))) else (some true)) = some r := H
  have A2 := Aside0.mk A20
  clear A20
  by_cases c3 : t194 = true
  · subst c3
    have H1 : ((laws_inlineCutTree.f k a0_0 a0_1 a0_2 l0_3 l0_4).bind fun bt195 => ((some (([(⟨#[98]⟩ : ByteArray), (⟨#[115, 116, 114, 111, 110, 103]⟩ : ByteArray)] : List ByteArray) : List ByteArray)).bind fun y204 => ((impl_Redundant.f k bt195.1 bt195.2.1 bt195.2.2.1 bt195.2.2.2.1 bt195.2.2.2.2 y204).bind fun bt207 => ((laws_inlineWithin.f k bt207.1 bt207.2.1 bt207.2.2.1 bt207.2.2.2.1 bt207.2.2.2.2 y204 false).bind fun t217 => (if t217 = true then (some false) else ((spec_TextOf.f k bt207.1 bt207.2.1 bt207.2.2.1 bt207.2.2.2.1 bt207.2.2.2.2).bind fun t218 => ((spec_TextOf.f k bt195.1 bt195.2.1 bt195.2.2.1 bt195.2.2.2.1 bt195.2.2.2.2).bind fun t219 => (if t218.toList = t219.toList then ((impl_Redundant.f k bt207.1 bt207.2.1 bt207.2.2.1 bt207.2.2.2.1 bt207.2.2.2.2 y204).bind fun bt220 => ((spec_SameTree.f k bt220.1 bt220.2.1 bt220.2.2.1 bt220.2.2.2.1 bt220.2.2.2.2 bt207.1 bt207.2.1 bt207.2.2.1 bt207.2.2.2.1 bt207.2.2.2.2).bind fun t229 => (if t229 = true then ((laws_inlineLives.f k).bind fun t230 => (some t230)) else (some false)))) else (some false))))))))) = some r := by rw [if_pos rfl] at H; exact H
    clear H
    have H := H1
    clear H1
    replace H := Option.bind_eq_some_iff.mp H
    obtain ⟨⟨t195, t196, t197, t198, t201⟩, A40, H⟩ := H
    replace H : ((some (([(⟨#[98]⟩ : ByteArray), (⟨#[115, 116, 114, 111, 110, 103]⟩ : ByteArray)] : List ByteArray) : List ByteArray)).bind fun y204 => ((impl_Redundant.f k t195 t196 t197 t198 t201 y204).bind fun bt207 => ((laws_inlineWithin.f k bt207.1 bt207.2.1 bt207.2.2.1 bt207.2.2.2.1 bt207.2.2.2.2 y204 false).bind fun t217 => (if t217 = true then (some false) else ((spec_TextOf.f k bt207.1 bt207.2.1 bt207.2.2.1 bt207.2.2.2.1 bt207.2.2.2.2).bind fun t218 => ((spec_TextOf.f k t195 t196 t197 t198 t201).bind fun t219 => (if t218.toList = t219.toList then ((impl_Redundant.f k bt207.1 bt207.2.1 bt207.2.2.1 bt207.2.2.2.1 bt207.2.2.2.2 y204).bind fun bt220 => ((spec_SameTree.f k bt220.1 bt220.2.1 bt220.2.2.1 bt220.2.2.2.1 bt220.2.2.2.2 bt207.1 bt207.2.1 bt207.2.2.1 bt207.2.2.2.1 bt207.2.2.2.2).bind fun t229 => (if t229 = true then ((laws_inlineLives.f k).bind fun t230 => (some t230)) else (some false)))) else (some false)))))))) = some r := H
    have A4 := Aside0.mk A40
    clear A40
    obtain ⟨y204, hy204⟩ : ∃ y_ : List ByteArray, y_ = (([(⟨#[98]⟩ : ByteArray), (⟨#[115, 116, 114, 111, 110, 103]⟩ : ByteArray)] : List ByteArray)) := ⟨_, rfl⟩
    replace H : ((impl_Redundant.f k t195 t196 t197 t198 t201 y204).bind fun bt207 => ((laws_inlineWithin.f k bt207.1 bt207.2.1 bt207.2.2.1 bt207.2.2.2.1 bt207.2.2.2.2 y204 false).bind fun t217 => (if t217 = true then (some false) else ((spec_TextOf.f k bt207.1 bt207.2.1 bt207.2.2.1 bt207.2.2.2.1 bt207.2.2.2.2).bind fun t218 => ((spec_TextOf.f k t195 t196 t197 t198 t201).bind fun t219 => (if t218.toList = t219.toList then ((impl_Redundant.f k bt207.1 bt207.2.1 bt207.2.2.1 bt207.2.2.2.1 bt207.2.2.2.2 y204).bind fun bt220 => ((spec_SameTree.f k bt220.1 bt220.2.1 bt220.2.2.1 bt220.2.2.2.1 bt220.2.2.2.2 bt207.1 bt207.2.1 bt207.2.2.1 bt207.2.2.2.1 bt207.2.2.2.2).bind fun t229 => (if t229 = true then ((laws_inlineLives.f k).bind fun t230 => (some t230)) else (some false)))) else (some false))))))) = some r := by first | (rw [hy204]; with_reducible exact H) | (have H2_ := (Option.bind_some _ _).symm.trans H; rw [hy204]; with_reducible exact H2_) | (have H2_ := (Option.bind_some _ _).symm.trans H; with_reducible exact H2_) | with_reducible exact H | (rw [hy204]; exact H) | exact H
    have Ny204 := Aside0.mk hy204
    clear hy204
    replace H := Option.bind_eq_some_iff.mp H
    obtain ⟨⟨t207, t208, t209, t210, t213⟩, A50, H⟩ := H
    replace H : ((laws_inlineWithin.f k t207 t208 t209 t210 t213 y204 false).bind fun t217 => (if t217 = true then (some false) else ((spec_TextOf.f k t207 t208 t209 t210 t213).bind fun t218 => ((spec_TextOf.f k t195 t196 t197 t198 t201).bind fun t219 => (if t218.toList = t219.toList then ((impl_Redundant.f k t207 t208 t209 t210 t213 y204).bind fun bt220 => ((spec_SameTree.f k bt220.1 bt220.2.1 bt220.2.2.1 bt220.2.2.2.1 bt220.2.2.2.2 t207 t208 t209 t210 t213).bind fun t229 => (if t229 = true then ((laws_inlineLives.f k).bind fun t230 => (some t230)) else (some false)))) else (some false)))))) = some r := H
    have A5 := Aside0.mk A50
    clear A50
    replace H := Option.bind_eq_some_iff.mp H
    obtain ⟨t217, A60, H⟩ := H
    replace H : (if t217 = true then (some false) else ((spec_TextOf.f k t207 t208 t209 t210 t213).bind fun t218 => ((spec_TextOf.f k t195 t196 t197 t198 t201).bind fun t219 => (if t218.toList = t219.toList then ((impl_Redundant.f k t207 t208 t209 t210 t213 y204).bind fun bt220 => ((spec_SameTree.f k bt220.1 bt220.2.1 bt220.2.2.1 bt220.2.2.2.1 bt220.2.2.2.2 t207 t208 t209 t210 t213).bind fun t229 => (if t229 = true then ((laws_inlineLives.f k).bind fun t230 => (some t230)) else (some false)))) else (some false))))) = some r := H
    have A6 := Aside0.mk A60
    clear A60
    by_cases c7 : t217 = true
    · subst c7
      have H1 : (some false) = some r := by rw [if_pos rfl] at H; exact H
      clear H
      have H := H1
      clear H1
      obtain rfl := Option.some.inj H
      go_enter Try.func3, Try.ntmps3
      try go_wp2_with (first | ((with_reducible refine gate_dst (N := 1) rfl ?_); refine box_event ?hg (N := 1) ?hd (cs := #[.int .i64 a0_0, .string a0_1, .string a0_2, .slice A0_3 l0_3.length c0_3, .slice A0_4 l0_4.length c0_4]) (t := 25) ?hr ?_; (case hd => rfl); (case hg => rfl); (case hr => first | (go_simp; done) | (go_simp; rfl)); intro gb193 hg w8 hbox hb; have n0_ := Aside0.mk (below_step (by repeat (first | (with_reducible first | exact HB.out | apply below_alloc | apply pw_below_drewN | apply below_drew1) | exact HB.out)) hb); have n1_ := Aside0.mk (hbox); have n2_ := Aside0.mk ((by rw [hg]; exact (below_size (by repeat (first | (with_reducible first | exact HB.out | apply below_alloc | apply pw_below_drewN | apply below_drew1) | exact HB.out))) : w.heap.size ≤ gb193)); have n3_ := Aside0.mk ((by rw [hg]; exact (below_size (by repeat (first | (with_reducible first | exact HB.out | apply below_alloc | apply pw_below_drewN | apply below_drew1) | exact HB.out))) : w.heap.size ≤ gb193)); clear HB; have HB := n0_; have BK193 := n1_; have GW193 := n2_; have GE193 := n3_; clear n0_ n1_ n2_ n3_; clear hb hbox hg; have hcz9_0 : w8.cell? ⟨gb193, 0, none⟩ = some (.int .i64 a0_0) := (blk_cell BK193.out 0).trans rfl; have hcz9_1 : w8.cell? ⟨gb193, 1, none⟩ = some (.string a0_1) := (blk_cell BK193.out 1).trans rfl; have hcz9_2 : w8.cell? ⟨gb193, 2, none⟩ = some (.string a0_2) := (blk_cell BK193.out 2).trans rfl; have hcz9_3 : w8.cell? ⟨gb193, 3, none⟩ = some (.slice A0_3 l0_3.length c0_3) := (blk_cell BK193.out 3).trans rfl; have hcz9_4 : w8.cell? ⟨gb193, 4, none⟩ = some (.slice A0_4 l0_4.length c0_4) := (blk_cell BK193.out 4).trans rfl; have hfz9_0 := blk_frozen BK193.out 0; have hfz9_1 := blk_frozen BK193.out 1; have hfz9_2 := blk_frozen BK193.out 2; have hfz9_3 := blk_frozen BK193.out 3; have hfz9_4 := blk_frozen BK193.out 4) | ((with_reducible refine gate_callee (f := 9) rfl ?_); refine goesL_ (some 6) rfl rfl Try.func9 (by kernel_rfl) rfl #[.agg #[.int .i64 a0_0, .string a0_1, .string a0_2, .slice A0_3 l0_3.length c0_3, .slice A0_4 l0_4.length c0_4]] rfl (by (try simp only [List.map_toArray, List.map_cons, List.map_nil]); first | done | rfl | (simp only [List.length_drop, List.length_take]; rfl)) ?_; (with_reducible refine (laws_zzFits2.calls k a0_0 a0_1 a0_2 _ _ l0_3 _ _ l0_4 true _ ?side1 ?side2 ?side3 ?side4 A2.out).mono ?_); (case side1 => repeat (first | exact (Kd.C_below HR0_3.out HB.out) | (with_reducible refine Kd.C_alloc ?_ _) | (with_reducible refine Kd.C_drewN ?_ _) | (with_reducible refine Kd.C_drew ?_))); (case side2 => exact HC0_3.out); (case side3 => repeat (first | exact (Kd.C_below HR0_4.out HB.out) | (with_reducible refine Kd.C_alloc ?_ _) | (with_reducible refine Kd.C_drewN ?_ _) | (with_reducible refine Kd.C_drew ?_))); (case side4 => exact HC0_4.out); rintro e w10 ⟨rfl, hb⟩; refine ⟨_, rfl, ?_⟩; have n0_ := Aside0.mk (blk_below (g := gb193) (o := .cells #[.int .i64 a0_0, .string a0_1, .string a0_2, .slice A0_3 l0_3.length c0_3, .slice A0_4 l0_4.length c0_4] 25 (0, 0)) (by (with_reducible repeat (first | refine blk_drewN ?_ _ | refine blk_drew ?_ | refine blk_alloc ?_ _)); exact BK193.out) hb); have n1_ := Aside0.mk (below_step (by repeat (first | (with_reducible first | exact HB.out | apply below_alloc | apply pw_below_drewN | apply below_drew1 | refine below_set ?_ GE193.out) | exact HB.out)) hb); clear BK193; clear HB; have BK193 := n0_; have HB := n1_; clear n0_ n1_; (try clear hb); (try clear hb2); (try clear hk); (try clear hi); have hcz11_0 : w10.cell? ⟨gb193, 0, none⟩ = some (.int .i64 a0_0) := (blk_cell BK193.out 0).trans rfl; have hcz11_1 : w10.cell? ⟨gb193, 1, none⟩ = some (.string a0_1) := (blk_cell BK193.out 1).trans rfl; have hcz11_2 : w10.cell? ⟨gb193, 2, none⟩ = some (.string a0_2) := (blk_cell BK193.out 2).trans rfl; have hcz11_3 : w10.cell? ⟨gb193, 3, none⟩ = some (.slice A0_3 l0_3.length c0_3) := (blk_cell BK193.out 3).trans rfl; have hcz11_4 : w10.cell? ⟨gb193, 4, none⟩ = some (.slice A0_4 l0_4.length c0_4) := (blk_cell BK193.out 4).trans rfl; have hfz11_0 := blk_frozen BK193.out 0; have hfz11_1 := blk_frozen BK193.out 1; have hfz11_2 := blk_frozen BK193.out 2; have hfz11_3 := blk_frozen BK193.out 3; have hfz11_4 := blk_frozen BK193.out 4) | ((with_reducible refine gate_callee (f := 10) rfl ?_); refine goesL_ (some 9) rfl rfl Try.func10 (by kernel_rfl) rfl #[.agg #[.int .i64 a0_0, .string a0_1, .string a0_2, .slice A0_3 l0_3.length c0_3, .slice A0_4 l0_4.length c0_4]] rfl (by (try simp only [List.map_toArray, List.map_cons, List.map_nil]); first | done | rfl | (simp only [List.length_drop, List.length_take]; rfl)) ?_; (with_reducible refine (laws_inlineCutTree.calls k a0_0 a0_1 a0_2 _ _ l0_3 _ _ l0_4 t195 t196 t197 t198 t201 _ ?side1 ?side2 ?side3 ?side4 A4.out).mono ?_); (case side1 => repeat (first | exact (Kd.C_below HR0_3.out HB.out) | (with_reducible refine Kd.C_alloc ?_ _) | (with_reducible refine Kd.C_drewN ?_ _) | (with_reducible refine Kd.C_drew ?_))); (case side2 => exact HC0_3.out); (case side3 => repeat (first | exact (Kd.C_below HR0_4.out HB.out) | (with_reducible refine Kd.C_alloc ?_ _) | (with_reducible refine Kd.C_drewN ?_ _) | (with_reducible refine Kd.C_drew ?_))); (case side4 => exact HC0_4.out); rintro e w12 ⟨v199, v202, rfl, ho0, ho1, hb⟩; refine ⟨_, rfl, ?_⟩; have n0_ := Aside0.mk (Kd.R_lower (Kd.R_mono (ok' := fun k_ => True) ho0 (fun _ hk_ => trivial)) (below_size (by repeat (first | (with_reducible first | exact HB.out | apply below_alloc | apply pw_below_drewN | apply below_drew1 | refine below_set ?_ GE193.out) | exact HB.out)))); have n1_ := Aside0.mk (Kd.N_lower (Kd.N_mono (ok' := fun k_ => some k_ ≠ (v199 : Value).ownBlock ∧ k_ ≠ gb193) ho1 (fun k_ hk_ => ⟨hk_.2, (Kd.freshB (g := gb193) (o := .cells #[.int .i64 a0_0, .string a0_1, .string a0_2, .slice A0_3 l0_3.length c0_3, .slice A0_4 l0_4.length c0_4] 25 (0, 0)) (by (with_reducible repeat (first | refine blk_drewN ?_ _ | refine blk_drew ?_ | refine blk_alloc ?_ _)); exact BK193.out) k_ hk_.1)⟩)) (below_size (by repeat (first | (with_reducible first | exact HB.out | apply below_alloc | apply pw_below_drewN | apply below_drew1 | refine below_set ?_ GE193.out) | exact HB.out)))); have n2_ := Aside0.mk (blk_below (g := gb193) (o := .cells #[.int .i64 a0_0, .string a0_1, .string a0_2, .slice A0_3 l0_3.length c0_3, .slice A0_4 l0_4.length c0_4] 25 (0, 0)) (by (with_reducible repeat (first | refine blk_drewN ?_ _ | refine blk_drew ?_ | refine blk_alloc ?_ _)); exact BK193.out) hb); have n3_ := Aside0.mk (below_step (by repeat (first | (with_reducible first | exact HB.out | apply below_alloc | apply pw_below_drewN | apply below_drew1 | refine below_set ?_ GE193.out) | exact HB.out)) hb); clear BK193; clear HB; have HO200 := n0_; have HO203 := n1_; have BK193 := n2_; have HB := n3_; clear n0_ n1_ n2_ n3_; (try clear hb); (try clear hb2); (try clear hk); (try clear hi); (try clear ho0); (try clear ho1); have hcz13_0 : w12.cell? ⟨gb193, 0, none⟩ = some (.int .i64 a0_0) := (blk_cell BK193.out 0).trans rfl; have hcz13_1 : w12.cell? ⟨gb193, 1, none⟩ = some (.string a0_1) := (blk_cell BK193.out 1).trans rfl; have hcz13_2 : w12.cell? ⟨gb193, 2, none⟩ = some (.string a0_2) := (blk_cell BK193.out 2).trans rfl; have hcz13_3 : w12.cell? ⟨gb193, 3, none⟩ = some (.slice A0_3 l0_3.length c0_3) := (blk_cell BK193.out 3).trans rfl; have hcz13_4 : w12.cell? ⟨gb193, 4, none⟩ = some (.slice A0_4 l0_4.length c0_4) := (blk_cell BK193.out 4).trans rfl; have hfz13_0 := blk_frozen BK193.out 0; have hfz13_1 := blk_frozen BK193.out 1; have hfz13_2 := blk_frozen BK193.out 2; have hfz13_3 := blk_frozen BK193.out 3; have hfz13_4 := blk_frozen BK193.out 4; obtain ⟨Ao14, co14, eo14⟩ := Kd.R_slice HO200.out; subst eo14; obtain ⟨Ao15, co15, eo15⟩ := Kd.N_slice HO203.out; subst eo15) | ((with_reducible refine gate_dst (N := 10) rfl ?_); refine Kd.R_lit Kd.string _ 9 ?hg (N := 10) ?hd (xs := ([(⟨#[98]⟩ : ByteArray), (⟨#[115, 116, 114, 111, 110, 103]⟩ : ByteArray)] : List ByteArray)) (inner := [.string (⟨#[98]⟩ : ByteArray), .string (⟨#[115, 116, 114, 111, 110, 103]⟩ : ByteArray)]) (ok := fun _ => True) (okp := fun _ => True) ?hr ?hp (fun _ hk => hk) trivial (Below.refl _ _) (Nat.le_refl _) (by simp) ?_; (case hd => rfl); (case hg => rfl); (case hr => first | (go_simp; done) | (go_simp; rfl)); (case hp => exact (Reps.one (show Kd.M Kd.string _ _ _ (⟨#[98]⟩ : ByteArray) [.string (⟨#[98]⟩ : ByteArray)] from rfl) (Reps.one (show Kd.M Kd.string _ _ _ (⟨#[115, 116, 114, 111, 110, 103]⟩ : ByteArray) [.string (⟨#[115, 116, 114, 111, 110, 103]⟩ : ByteArray)] from rfl) (Reps.none _ _)))); intro v205 w16 ho17 hb hg_ hnew_; clear hg_ hnew_; (first | rw [← Ny204.out] at ho17 | (simp only [Int.reduceToNat] at ho17; rw [← Ny204.out] at ho17)); have n0_ := Aside0.mk (Kd.R_below (by (with_reducible repeat (first | apply Kd.R_alloc | apply Kd.R_drewN | apply Kd.R_drew)); exact (Kd.R_mono (Kd.R_far (p := ⟨gb193, 4, none⟩) (Kd.R_far (p := ⟨gb193, 3, none⟩) (Kd.R_far (p := ⟨gb193, 2, none⟩) (Kd.R_far (p := ⟨gb193, 1, none⟩) (Kd.R_far (p := ⟨gb193, 0, none⟩) (Kd.R_types HO200.out BK193.out (by decide)) (fun _ hk => hk.2) (.int .i64 t195)) (fun _ hk => hk.2) (.string t196)) (fun _ hk => hk.2) (.string t197)) (fun _ hk => hk.2) (.slice Ao14 t198.length co14)) (fun _ hk => hk.2) (.slice Ao15 t201.length co15)) (fun _ h_ => h_.1))) hb); have n1_ := Aside0.mk (Kd.N_elder' (by (with_reducible repeat (first | apply Kd.N_alloc | apply Kd.N_drewN | apply Kd.N_drew)); exact (Kd.N_mono (Kd.N_far (p := ⟨gb193, 4, none⟩) (Kd.N_far (p := ⟨gb193, 3, none⟩) (Kd.N_far (p := ⟨gb193, 2, none⟩) (Kd.N_far (p := ⟨gb193, 1, none⟩) (Kd.N_far (p := ⟨gb193, 0, none⟩) (Kd.N_mono HO203.out (fun k_ hk => (⟨hk, hk.2⟩ : _ ∧ k_ ≠ gb193))) (fun _ hk => hk.2) (.int .i64 t195)) (fun _ hk => hk.2) (.string t196)) (fun _ hk => hk.2) (.string t197)) (fun _ hk => hk.2) (.slice Ao14 t198.length co14)) (fun _ hk => hk.2) (.slice Ao15 t201.length co15)) (fun _ h_ => h_.1))) (Kd.R_base ho17) hb); have n2_ := Aside0.mk (Kd.R_lower ho17 (below_size (by repeat (first | (with_reducible first | exact HB.out | apply below_alloc | apply pw_below_drewN | apply below_drew1 | refine below_set ?_ GE193.out) | exact HB.out)))); have n3_ := Aside0.mk (blk_below (g := gb193) (o := .cells #[.int .i64 t195, .string t196, .string t197, .slice Ao14 t198.length co14, .slice Ao15 t201.length co15] 25 (0, 0)) (by (with_reducible repeat (first | refine blk_drewN ?_ _ | refine blk_drew ?_ | refine blk_alloc ?_ _)); refine blk_put (cs := #[.int .i64 t195, .string t196, .string t197, .slice Ao14 t198.length co14, .slice A0_4 l0_4.length c0_4]) ?_ 4 _ rfl; (with_reducible repeat (first | refine blk_drewN ?_ _ | refine blk_drew ?_ | refine blk_alloc ?_ _)); refine blk_put (cs := #[.int .i64 t195, .string t196, .string t197, .slice A0_3 l0_3.length c0_3, .slice A0_4 l0_4.length c0_4]) ?_ 3 _ rfl; (with_reducible repeat (first | refine blk_drewN ?_ _ | refine blk_drew ?_ | refine blk_alloc ?_ _)); refine blk_put (cs := #[.int .i64 t195, .string t196, .string a0_2, .slice A0_3 l0_3.length c0_3, .slice A0_4 l0_4.length c0_4]) ?_ 2 _ rfl; (with_reducible repeat (first | refine blk_drewN ?_ _ | refine blk_drew ?_ | refine blk_alloc ?_ _)); refine blk_put (cs := #[.int .i64 t195, .string a0_1, .string a0_2, .slice A0_3 l0_3.length c0_3, .slice A0_4 l0_4.length c0_4]) ?_ 1 _ rfl; (with_reducible repeat (first | refine blk_drewN ?_ _ | refine blk_drew ?_ | refine blk_alloc ?_ _)); refine blk_put (cs := #[.int .i64 a0_0, .string a0_1, .string a0_2, .slice A0_3 l0_3.length c0_3, .slice A0_4 l0_4.length c0_4]) ?_ 0 _ rfl; (with_reducible repeat (first | refine blk_drewN ?_ _ | refine blk_drew ?_ | refine blk_alloc ?_ _)); exact BK193.out) hb); have n4_ := Aside0.mk (below_step (by repeat (first | (with_reducible first | exact HB.out | apply below_alloc | apply pw_below_drewN | apply below_drew1 | refine below_set ?_ GE193.out) | exact HB.out)) hb); clear HO200; clear HO203; clear BK193; clear HB; have HO200 := n0_; have HO203 := n1_; have HO206 := n2_; have BK193 := n3_; have HB := n4_; clear n0_ n1_ n2_ n3_ n4_; clear hb ho17; have hcz18_0 : w16.cell? ⟨gb193, 0, none⟩ = some (.int .i64 t195) := (blk_cell BK193.out 0).trans rfl; have hcz18_1 : w16.cell? ⟨gb193, 1, none⟩ = some (.string t196) := (blk_cell BK193.out 1).trans rfl; have hcz18_2 : w16.cell? ⟨gb193, 2, none⟩ = some (.string t197) := (blk_cell BK193.out 2).trans rfl; have hcz18_3 : w16.cell? ⟨gb193, 3, none⟩ = some (.slice Ao14 t198.length co14) := (blk_cell BK193.out 3).trans rfl; have hcz18_4 : w16.cell? ⟨gb193, 4, none⟩ = some (.slice Ao15 t201.length co15) := (blk_cell BK193.out 4).trans rfl; have hfz18_0 := blk_frozen BK193.out 0; have hfz18_1 := blk_frozen BK193.out 1; have hfz18_2 := blk_frozen BK193.out 2; have hfz18_3 := blk_frozen BK193.out 3; have hfz18_4 := blk_frozen BK193.out 4; obtain ⟨Ao19, co19, eo19⟩ := Kd.R_slice HO206.out; subst eo19) | ((with_reducible refine gate_callee (f := 11) rfl ?_); refine goesL_ (some 13) rfl rfl Try.func11 (by kernel_rfl) rfl #[.agg #[.int .i64 t195, .string t196, .string t197, .slice Ao14 t198.length co14, .slice Ao15 t201.length co15], .slice Ao19 y204.length co19] rfl (by (try simp only [List.map_toArray, List.map_cons, List.map_nil]); first | done | rfl | (simp only [List.length_drop, List.length_take]; rfl)) ?_; (with_reducible refine (impl_Redundant.calls k t195 t196 t197 _ _ t198 _ _ t201 _ _ y204 t207 t208 t209 t210 t213 _ ?side1 ?side2 ?side3 ?side4 ?side5 ?side6 A5.out).mono ?_); (case side1 => repeat (first | exact (Kd.R_reads' HO200.out).2.2 | (with_reducible refine Kd.C_alloc ?_ _) | (with_reducible refine Kd.C_drewN ?_ _) | (with_reducible refine Kd.C_drew ?_))); (case side2 => exact (Kd.R_reads' HO200.out).2.1); (case side3 => repeat (first | exact (Kd.N_reads' HO203.out).2.2 | (with_reducible refine Kd.C_alloc ?_ _) | (with_reducible refine Kd.C_drewN ?_ _) | (with_reducible refine Kd.C_drew ?_))); (case side4 => exact (Kd.N_reads' HO203.out).2.1); (case side5 => repeat (first | exact (Kd.R_reads' HO206.out).2.2 | (with_reducible refine Kd.C_alloc ?_ _) | (with_reducible refine Kd.C_drewN ?_ _) | (with_reducible refine Kd.C_drew ?_))); (case side6 => exact (Kd.R_reads' HO206.out).2.1); rintro e w20 ⟨v211, v214, rfl, ho0, ho1, hb⟩; refine ⟨_, rfl, ?_⟩; have n0_ := Aside0.mk (Kd.R_elder' (by (with_reducible repeat (first | apply Kd.R_alloc | apply Kd.R_drewN | apply Kd.R_drew)); exact HO200.out) (Kd.R_base ho0) hb); have n1_ := Aside0.mk (Kd.N_mono (Kd.N_told (Kd.N_told (Kd.N_old (by (with_reducible repeat (first | apply Kd.N_alloc | apply Kd.N_drewN | apply Kd.N_drew)); exact HO203.out) hb) (Kd.R_base ho0)) (Kd.N_base ho1)) (fun _ h_ => h_.1)); have n2_ := Aside0.mk (Kd.R_below (by (with_reducible repeat (first | apply Kd.R_alloc | apply Kd.R_drewN | apply Kd.R_drew)); exact HO206.out) hb); have n3_ := Aside0.mk (Kd.R_lower (Kd.R_new' (Kd.R_mono (ok' := fun k_ => True) ho0 (fun _ hk_ => trivial)) (Kd.R_lt (by (with_reducible repeat (first | apply Kd.R_alloc | apply Kd.R_drewN | apply Kd.R_drew)); exact HO200.out))) (below_size (by repeat (first | (with_reducible first | exact HB.out | apply below_alloc | apply pw_below_drewN | apply below_drew1 | refine below_set ?_ GE193.out) | exact HB.out)))); have n4_ := Aside0.mk (Kd.N_lower (Kd.N_mono (ok' := fun k_ => some k_ ≠ (v211 : Value).ownBlock ∧ some k_ ≠ (.slice Ao14 t198.length co14 : Value).ownBlock ∧ some k_ ≠ (.slice Ao15 t201.length co15 : Value).ownBlock ∧ some k_ ≠ (.slice Ao19 y204.length co19 : Value).ownBlock ∧ k_ ≠ gb193) ho1 (fun k_ hk_ => ⟨hk_.2, (Kd.fresh' (Kd.R_lt (by (with_reducible repeat (first | apply Kd.R_alloc | apply Kd.R_drewN | apply Kd.R_drew)); exact HO200.out)) k_ hk_.1), (Kd.fresh' (Kd.N_lt (by (with_reducible repeat (first | apply Kd.N_alloc | apply Kd.N_drewN | apply Kd.N_drew)); exact HO203.out)) k_ hk_.1), (Kd.fresh' (Kd.R_lt (by (with_reducible repeat (first | apply Kd.R_alloc | apply Kd.R_drewN | apply Kd.R_drew)); exact HO206.out)) k_ hk_.1), (Kd.freshB (g := gb193) (o := .cells #[.int .i64 t195, .string t196, .string t197, .slice Ao14 t198.length co14, .slice Ao15 t201.length co15] 25 (0, 0)) (by (with_reducible repeat (first | refine blk_drewN ?_ _ | refine blk_drew ?_ | refine blk_alloc ?_ _)); exact BK193.out) k_ hk_.1)⟩)) (below_size (by repeat (first | (with_reducible first | exact HB.out | apply below_alloc | apply pw_below_drewN | apply below_drew1 | refine below_set ?_ GE193.out) | exact HB.out)))); have n5_ := Aside0.mk (blk_below (g := gb193) (o := .cells #[.int .i64 t195, .string t196, .string t197, .slice Ao14 t198.length co14, .slice Ao15 t201.length co15] 25 (0, 0)) (by (with_reducible repeat (first | refine blk_drewN ?_ _ | refine blk_drew ?_ | refine blk_alloc ?_ _)); exact BK193.out) hb); have n6_ := Aside0.mk (below_step (by repeat (first | (with_reducible first | exact HB.out | apply below_alloc | apply pw_below_drewN | apply below_drew1 | refine below_set ?_ GE193.out) | exact HB.out)) hb); clear HO200; clear HO203; clear HO206; clear BK193; clear HB; have HO200 := n0_; have HO203 := n1_; have HO206 := n2_; have HO212 := n3_; have HO215 := n4_; have BK193 := n5_; have HB := n6_; clear n0_ n1_ n2_ n3_ n4_ n5_ n6_; (try clear hb); (try clear hb2); (try clear hk); (try clear hi); (try clear ho0); (try clear ho1)) | ((with_reducible refine gate_dst (N := 4) rfl ?_); refine box_event ?hg (N := 4) ?hd (cs := #[.int .i64 0, .string (⟨#[]⟩ : ByteArray), .string (⟨#[]⟩ : ByteArray), .slice none 0 0, .slice none 0 0]) (t := 25) ?hr ?_; (case hd => rfl); (case hg => rfl); (case hr => first | (go_simp; done) | (go_simp; rfl)); intro gb216 hg w21 hbox hb; have n0_ := Aside0.mk (Kd.R_below (by (with_reducible repeat (first | apply Kd.R_alloc | apply Kd.R_drewN | apply Kd.R_drew)); exact HO200.out) hb); have n1_ := Aside0.mk (Kd.N_below (Kd.N_elderB (by (with_reducible repeat (first | apply Kd.N_alloc | apply Kd.N_drewN | apply Kd.N_drew)); exact HO203.out) gb216 (Nat.le_of_eq hg.symm)) hb); have n2_ := Aside0.mk (Kd.R_below (by (with_reducible repeat (first | apply Kd.R_alloc | apply Kd.R_drewN | apply Kd.R_drew)); exact HO206.out) hb); have n3_ := Aside0.mk (Kd.R_below (by (with_reducible repeat (first | apply Kd.R_alloc | apply Kd.R_drewN | apply Kd.R_drew)); exact HO212.out) hb); have n4_ := Aside0.mk (Kd.N_below (Kd.N_elderB (by (with_reducible repeat (first | apply Kd.N_alloc | apply Kd.N_drewN | apply Kd.N_drew)); exact HO215.out) gb216 (Nat.le_of_eq hg.symm)) hb); have n5_ := Aside0.mk (blk_below (g := gb193) (o := .cells #[.int .i64 t195, .string t196, .string t197, .slice Ao14 t198.length co14, .slice Ao15 t201.length co15] 25 (0, 0)) (by (with_reducible repeat (first | refine blk_drewN ?_ _ | refine blk_drew ?_ | refine blk_alloc ?_ _)); exact BK193.out) hb); have n6_ := Aside0.mk (below_step (by repeat (first | (with_reducible first | exact HB.out | apply below_alloc | apply pw_below_drewN | apply below_drew1 | refine below_set ?_ GE193.out) | exact HB.out)) hb); have n7_ := Aside0.mk (hbox); have n8_ := Aside0.mk ((by rw [hg]; exact (below_size (by repeat (first | (with_reducible first | exact HB.out | apply below_alloc | apply pw_below_drewN | apply below_drew1 | refine below_set ?_ GE193.out) | exact HB.out))) : w.heap.size ≤ gb216)); have n9_ := Aside0.mk ((by rw [hg]; exact (below_size (by repeat (first | (with_reducible first | exact HB.out | apply below_alloc | apply pw_below_drewN | apply below_drew1 | refine below_set ?_ GE193.out) | exact HB.out))) : w.heap.size ≤ gb216)); have n10_ := Aside0.mk ((by rw [hg]; exact Nat.ne_of_lt (blk_lt (g := gb193) (o := .cells #[.int .i64 t195, .string t196, .string t197, .slice Ao14 t198.length co14, .slice Ao15 t201.length co15] 25 (0, 0)) (by (with_reducible repeat (first | refine blk_drewN ?_ _ | refine blk_drew ?_ | refine blk_alloc ?_ _)); exact BK193.out)) : gb193 ≠ gb216)); have n11_ := Aside0.mk ((by rw [hg]; exact Nat.ne_of_gt (blk_lt (g := gb193) (o := .cells #[.int .i64 t195, .string t196, .string t197, .slice Ao14 t198.length co14, .slice Ao15 t201.length co15] 25 (0, 0)) (by (with_reducible repeat (first | refine blk_drewN ?_ _ | refine blk_drew ?_ | refine blk_alloc ?_ _)); exact BK193.out)) : gb216 ≠ gb193)); clear HO200; clear HO203; clear HO206; clear HO212; clear HO215; clear BK193; clear HB; have HO200 := n0_; have HO203 := n1_; have HO206 := n2_; have HO212 := n3_; have HO215 := n4_; have BK193 := n5_; have HB := n6_; have BK216 := n7_; have GW216 := n8_; have GE216 := n9_; have NB193_216 := n10_; have NB216_193 := n11_; clear n0_ n1_ n2_ n3_ n4_ n5_ n6_ n7_ n8_ n9_ n10_ n11_; clear hb hbox hg; have hnb22 := NB216_193.out; have hnc22 := NB193_216.out; have hcz23_0 : w21.cell? ⟨gb216, 0, none⟩ = some (.int .i64 0) := (blk_cell BK216.out 0).trans rfl; have hcz23_1 : w21.cell? ⟨gb216, 1, none⟩ = some (.string (⟨#[]⟩ : ByteArray)) := (blk_cell BK216.out 1).trans rfl; have hcz23_2 : w21.cell? ⟨gb216, 2, none⟩ = some (.string (⟨#[]⟩ : ByteArray)) := (blk_cell BK216.out 2).trans rfl; have hcz23_3 : w21.cell? ⟨gb216, 3, none⟩ = some (.slice none 0 0) := (blk_cell BK216.out 3).trans rfl; have hcz23_4 : w21.cell? ⟨gb216, 4, none⟩ = some (.slice none 0 0) := (blk_cell BK216.out 4).trans rfl; have hfz23_0 := blk_frozen BK216.out 0; have hfz23_1 := blk_frozen BK216.out 1; have hfz23_2 := blk_frozen BK216.out 2; have hfz23_3 := blk_frozen BK216.out 3; have hfz23_4 := blk_frozen BK216.out 4; obtain ⟨Ao24, co24, eo24⟩ := Kd.R_slice HO212.out; subst eo24; obtain ⟨Ao25, co25, eo25⟩ := Kd.N_slice HO215.out; subst eo25))
      have n0_ : Aside0 (Kd.R k53 53 (((((w21.setCell ⟨gb216, 0, none⟩ (.int .i64 t207)).setCell ⟨gb216, 1, none⟩ (.string t208)).setCell ⟨gb216, 2, none⟩ (.string t209)).setCell ⟨gb216, 3, none⟩ (.slice Ao24 t210.length co24)).setCell ⟨gb216, 4, none⟩ (.slice Ao25 t213.length co25)) w.heap.size (fun k_ => some k_ ≠ (.slice Ao24 t210.length co24 : Value).ownBlock) (.slice Ao14 t198.length co14) t198) := ⟨by (with_reducible repeat (first | apply Kd.R_alloc | apply Kd.R_drewN | apply Kd.R_drew)); exact Kd.R_mono (Kd.R_far (p := ⟨gb216, 4, none⟩) (Kd.R_far (p := ⟨gb216, 3, none⟩) (Kd.R_far (p := ⟨gb216, 2, none⟩) (Kd.R_far (p := ⟨gb216, 1, none⟩) (Kd.R_far (p := ⟨gb216, 0, none⟩) (Kd.R_types HO200.out BK216.out (by decide)) (fun _ hk => hk.2) (.int .i64 t207)) (fun _ hk => hk.2) (.string t208)) (fun _ hk => hk.2) (.string t209)) (fun _ hk => hk.2) (.slice Ao24 t210.length co24)) (fun _ hk => hk.2) (.slice Ao25 t213.length co25)) (fun _ hk => hk.1.2)⟩
      have n1_ : Aside0 (Kd.N k25 25 (((((w21.setCell ⟨gb216, 0, none⟩ (.int .i64 t207)).setCell ⟨gb216, 1, none⟩ (.string t208)).setCell ⟨gb216, 2, none⟩ (.string t209)).setCell ⟨gb216, 3, none⟩ (.slice Ao24 t210.length co24)).setCell ⟨gb216, 4, none⟩ (.slice Ao25 t213.length co25)) w.heap.size (fun k_ => some k_ ≠ (.slice Ao14 t198.length co14 : Value).ownBlock ∧ some k_ ≠ (.slice Ao19 y204.length co19 : Value).ownBlock ∧ some k_ ≠ (.slice Ao24 t210.length co24 : Value).ownBlock ∧ some k_ ≠ (.slice Ao25 t213.length co25 : Value).ownBlock ∧ k_ ≠ gb193 ∧ k_ ≠ gb216) (.slice Ao15 t201.length co15) t201) := ⟨by (with_reducible repeat (first | apply Kd.N_alloc | apply Kd.N_drewN | apply Kd.N_drew)); exact Kd.N_mono (Kd.N_far (p := ⟨gb216, 4, none⟩) (Kd.N_far (p := ⟨gb216, 3, none⟩) (Kd.N_far (p := ⟨gb216, 2, none⟩) (Kd.N_far (p := ⟨gb216, 1, none⟩) (Kd.N_far (p := ⟨gb216, 0, none⟩) (Kd.N_mono HO203.out (fun k_ hk => (⟨hk, hk.2⟩ : _ ∧ k_ ≠ gb216))) (fun _ hk => hk.2) (.int .i64 t207)) (fun _ hk => hk.2) (.string t208)) (fun _ hk => hk.2) (.string t209)) (fun _ hk => hk.2) (.slice Ao24 t210.length co24)) (fun _ hk => hk.2) (.slice Ao25 t213.length co25)) (fun _ hk => ⟨hk.1.1.1.1.1.1, ⟨hk.1.1.1.1.2, ⟨hk.1.1.1.2, ⟨hk.1.1.2, ⟨hk.1.1.1.1.1.2, hk.1.2⟩⟩⟩⟩⟩)⟩
      have n2_ : Aside0 (Kd.R Kd.string 9 (((((w21.setCell ⟨gb216, 0, none⟩ (.int .i64 t207)).setCell ⟨gb216, 1, none⟩ (.string t208)).setCell ⟨gb216, 2, none⟩ (.string t209)).setCell ⟨gb216, 3, none⟩ (.slice Ao24 t210.length co24)).setCell ⟨gb216, 4, none⟩ (.slice Ao25 t213.length co25)) w.heap.size (fun _ => True) (.slice Ao19 y204.length co19) y204) := ⟨by (with_reducible repeat (first | apply Kd.R_alloc | apply Kd.R_drewN | apply Kd.R_drew)); exact Kd.R_mono (Kd.R_far (p := ⟨gb216, 4, none⟩) (Kd.R_far (p := ⟨gb216, 3, none⟩) (Kd.R_far (p := ⟨gb216, 2, none⟩) (Kd.R_far (p := ⟨gb216, 1, none⟩) (Kd.R_far (p := ⟨gb216, 0, none⟩) (Kd.R_types HO206.out BK216.out (by decide)) (fun _ hk => hk.2) (.int .i64 t207)) (fun _ hk => hk.2) (.string t208)) (fun _ hk => hk.2) (.string t209)) (fun _ hk => hk.2) (.slice Ao24 t210.length co24)) (fun _ hk => hk.2) (.slice Ao25 t213.length co25)) (fun _ hk => trivial)⟩
      have n3_ : Aside0 (Kd.R k53 53 (((((w21.setCell ⟨gb216, 0, none⟩ (.int .i64 t207)).setCell ⟨gb216, 1, none⟩ (.string t208)).setCell ⟨gb216, 2, none⟩ (.string t209)).setCell ⟨gb216, 3, none⟩ (.slice Ao24 t210.length co24)).setCell ⟨gb216, 4, none⟩ (.slice Ao25 t213.length co25)) w.heap.size (fun k_ => some k_ ≠ (.slice Ao14 t198.length co14 : Value).ownBlock) (.slice Ao24 t210.length co24) t210) := ⟨by (with_reducible repeat (first | apply Kd.R_alloc | apply Kd.R_drewN | apply Kd.R_drew)); exact Kd.R_mono (Kd.R_far (p := ⟨gb216, 4, none⟩) (Kd.R_far (p := ⟨gb216, 3, none⟩) (Kd.R_far (p := ⟨gb216, 2, none⟩) (Kd.R_far (p := ⟨gb216, 1, none⟩) (Kd.R_far (p := ⟨gb216, 0, none⟩) (Kd.R_types HO212.out BK216.out (by decide)) (fun _ hk => hk.2) (.int .i64 t207)) (fun _ hk => hk.2) (.string t208)) (fun _ hk => hk.2) (.string t209)) (fun _ hk => hk.2) (.slice Ao24 t210.length co24)) (fun _ hk => hk.2) (.slice Ao25 t213.length co25)) (fun _ hk => hk.1.2)⟩
      have n4_ : Aside0 (Kd.N k25 25 (((((w21.setCell ⟨gb216, 0, none⟩ (.int .i64 t207)).setCell ⟨gb216, 1, none⟩ (.string t208)).setCell ⟨gb216, 2, none⟩ (.string t209)).setCell ⟨gb216, 3, none⟩ (.slice Ao24 t210.length co24)).setCell ⟨gb216, 4, none⟩ (.slice Ao25 t213.length co25)) w.heap.size (fun k_ => some k_ ≠ (.slice Ao14 t198.length co14 : Value).ownBlock ∧ some k_ ≠ (.slice Ao15 t201.length co15 : Value).ownBlock ∧ some k_ ≠ (.slice Ao19 y204.length co19 : Value).ownBlock ∧ some k_ ≠ (.slice Ao24 t210.length co24 : Value).ownBlock ∧ k_ ≠ gb193 ∧ k_ ≠ gb216) (.slice Ao25 t213.length co25) t213) := ⟨by (with_reducible repeat (first | apply Kd.N_alloc | apply Kd.N_drewN | apply Kd.N_drew)); exact Kd.N_mono (Kd.N_far (p := ⟨gb216, 4, none⟩) (Kd.N_far (p := ⟨gb216, 3, none⟩) (Kd.N_far (p := ⟨gb216, 2, none⟩) (Kd.N_far (p := ⟨gb216, 1, none⟩) (Kd.N_far (p := ⟨gb216, 0, none⟩) (Kd.N_mono HO215.out (fun k_ hk => (⟨hk, hk.2⟩ : _ ∧ k_ ≠ gb216))) (fun _ hk => hk.2) (.int .i64 t207)) (fun _ hk => hk.2) (.string t208)) (fun _ hk => hk.2) (.string t209)) (fun _ hk => hk.2) (.slice Ao24 t210.length co24)) (fun _ hk => hk.2) (.slice Ao25 t213.length co25)) (fun _ hk => ⟨hk.1.1.2.1, ⟨hk.1.1.2.2.1, ⟨hk.1.1.2.2.2.1, ⟨hk.1.1.1, ⟨hk.1.1.2.2.2.2, hk.1.2⟩⟩⟩⟩⟩)⟩
      have n5_ : Aside0 ((((((w21.setCell ⟨gb216, 0, none⟩ (.int .i64 t207)).setCell ⟨gb216, 1, none⟩ (.string t208)).setCell ⟨gb216, 2, none⟩ (.string t209)).setCell ⟨gb216, 3, none⟩ (.slice Ao24 t210.length co24)).setCell ⟨gb216, 4, none⟩ (.slice Ao25 t213.length co25)).heap[gb193]? = some (.cells #[.int .i64 t195, .string t196, .string t197, .slice Ao14 t198.length co14, .slice Ao15 t201.length co15] 25 (0, 0))) := ⟨by (with_reducible repeat (first | refine blk_drewN ?_ _ | refine blk_drew ?_ | refine blk_alloc ?_ _)); refine blk_far ?_ NB193_216.out _; (with_reducible repeat (first | refine blk_drewN ?_ _ | refine blk_drew ?_ | refine blk_alloc ?_ _)); refine blk_far ?_ NB193_216.out _; (with_reducible repeat (first | refine blk_drewN ?_ _ | refine blk_drew ?_ | refine blk_alloc ?_ _)); refine blk_far ?_ NB193_216.out _; (with_reducible repeat (first | refine blk_drewN ?_ _ | refine blk_drew ?_ | refine blk_alloc ?_ _)); refine blk_far ?_ NB193_216.out _; (with_reducible repeat (first | refine blk_drewN ?_ _ | refine blk_drew ?_ | refine blk_alloc ?_ _)); refine blk_far ?_ NB193_216.out _; (with_reducible repeat (first | refine blk_drewN ?_ _ | refine blk_drew ?_ | refine blk_alloc ?_ _)); exact BK193.out⟩
      have n6_ : Aside0 ((((((w21.setCell ⟨gb216, 0, none⟩ (.int .i64 t207)).setCell ⟨gb216, 1, none⟩ (.string t208)).setCell ⟨gb216, 2, none⟩ (.string t209)).setCell ⟨gb216, 3, none⟩ (.slice Ao24 t210.length co24)).setCell ⟨gb216, 4, none⟩ (.slice Ao25 t213.length co25)).heap[gb216]? = some (.cells #[.int .i64 t207, .string t208, .string t209, .slice Ao24 t210.length co24, .slice Ao25 t213.length co25] 25 (0, 0))) := ⟨by (with_reducible repeat (first | refine blk_drewN ?_ _ | refine blk_drew ?_ | refine blk_alloc ?_ _)); refine blk_put (cs := #[.int .i64 t207, .string t208, .string t209, .slice Ao24 t210.length co24, .slice none 0 0]) ?_ 4 _ rfl; (with_reducible repeat (first | refine blk_drewN ?_ _ | refine blk_drew ?_ | refine blk_alloc ?_ _)); refine blk_put (cs := #[.int .i64 t207, .string t208, .string t209, .slice none 0 0, .slice none 0 0]) ?_ 3 _ rfl; (with_reducible repeat (first | refine blk_drewN ?_ _ | refine blk_drew ?_ | refine blk_alloc ?_ _)); refine blk_put (cs := #[.int .i64 t207, .string t208, .string (⟨#[]⟩ : ByteArray), .slice none 0 0, .slice none 0 0]) ?_ 2 _ rfl; (with_reducible repeat (first | refine blk_drewN ?_ _ | refine blk_drew ?_ | refine blk_alloc ?_ _)); refine blk_put (cs := #[.int .i64 t207, .string (⟨#[]⟩ : ByteArray), .string (⟨#[]⟩ : ByteArray), .slice none 0 0, .slice none 0 0]) ?_ 1 _ rfl; (with_reducible repeat (first | refine blk_drewN ?_ _ | refine blk_drew ?_ | refine blk_alloc ?_ _)); refine blk_put (cs := #[.int .i64 0, .string (⟨#[]⟩ : ByteArray), .string (⟨#[]⟩ : ByteArray), .slice none 0 0, .slice none 0 0]) ?_ 0 _ rfl; (with_reducible repeat (first | refine blk_drewN ?_ _ | refine blk_drew ?_ | refine blk_alloc ?_ _)); exact BK216.out⟩
      have n7_ : Aside0 (Below w.heap.size w (((((w21.setCell ⟨gb216, 0, none⟩ (.int .i64 t207)).setCell ⟨gb216, 1, none⟩ (.string t208)).setCell ⟨gb216, 2, none⟩ (.string t209)).setCell ⟨gb216, 3, none⟩ (.slice Ao24 t210.length co24)).setCell ⟨gb216, 4, none⟩ (.slice Ao25 t213.length co25))) := ⟨by repeat (first | (with_reducible first | exact HB.out | apply below_alloc | apply pw_below_drewN | apply below_drew1 | refine below_set ?_ GE193.out | refine below_set ?_ GE216.out) | exact HB.out)⟩
      (try clear HO200)
      (try clear HO203)
      (try clear HO206)
      (try clear HO212)
      (try clear HO215)
      (try clear BK193)
      (try clear BK216)
      (try clear HB)
      generalize (((((w21.setCell ⟨gb216, 0, none⟩ (.int .i64 t207)).setCell ⟨gb216, 1, none⟩ (.string t208)).setCell ⟨gb216, 2, none⟩ (.string t209)).setCell ⟨gb216, 3, none⟩ (.slice Ao24 t210.length co24)).setCell ⟨gb216, 4, none⟩ (.slice Ao25 t213.length co25)) = w26 at n0_ n1_ n2_ n3_ n4_ n5_ n6_ n7_ ⊢
      have HO200 := n0_
      have HO203 := n1_
      have HO206 := n2_
      have HO212 := n3_
      have HO215 := n4_
      have BK193 := n5_
      have BK216 := n6_
      have HB := n7_
      clear n0_ n1_ n2_ n3_ n4_ n5_ n6_ n7_
      have n0_ := Aside0.mk (Kd.R_drew HO200.out)
      have n1_ := Aside0.mk (Kd.N_drew HO203.out)
      have n2_ := Aside0.mk (Kd.R_drew HO206.out)
      have n3_ := Aside0.mk (Kd.R_drew HO212.out)
      have n4_ := Aside0.mk (Kd.N_drew HO215.out)
      have n5_ := Aside0.mk (blk_drew BK193.out)
      have n6_ := Aside0.mk (blk_drew BK216.out)
      have n7_ := Aside0.mk (below_drew1 HB.out)
      clear HO200
      clear HO203
      clear HO206
      clear HO212
      clear HO215
      clear BK193
      clear BK216
      clear HB
      have HO200 := n0_
      have HO203 := n1_
      have HO206 := n2_
      have HO212 := n3_
      have HO215 := n4_
      have BK193 := n5_
      have BK216 := n6_
      have HB := n7_
      clear n0_ n1_ n2_ n3_ n4_ n5_ n6_ n7_
      refine start_ (n := 22) (S := fun w' => w'.cell? ⟨gb216, 0, none⟩ = some (.int .i64 t207) ∧ w'.cell? ⟨gb216, 1, none⟩ = some (.string t208) ∧ w'.cell? ⟨gb216, 2, none⟩ = some (.string t209) ∧ w'.cell? ⟨gb216, 3, none⟩ = some (.slice Ao24 t210.length co24) ∧ w'.cell? ⟨gb216, 4, none⟩ = some (.slice Ao25 t213.length co25)) (ds := []) #[false, false, false, false, false, false, false, false, false, false, false, false, false, false, false, false, false, false, false, false, false, false] (by kernel_rfl) rfl rfl ⟨(blk_cell BK216.out 0).trans rfl, (blk_cell BK216.out 1).trans rfl, (blk_cell BK216.out 2).trans rfl, (blk_cell BK216.out 3).trans rfl, (blk_cell BK216.out 4).trans rfl⟩ (fun hHeld => ?_); refine with_tabW laws_FnRedundant.tab6 laws_FnRedundant.bits6 (fun HT_ HW_ => ?_)
      generalize w26.drew = w27 at HO200 HO203 HO206 HO212 HO215 BK193 BK216 HB hHeld ⊢
      refine pure_ (i := 1) (N := some 15) (v := ?_) (a' := ?_) #[false, true, false, false, false, false, false, false, false, false, false, false, false, false, false, false, false, false, false, false, false, false] rfl rfl (any_of HT_.out (by kernel_rfl)) (fun _ _ _ h => h) (Or.inl ⟨by rfl, ?_⟩) ?_ ?_
      rotate_left
      · intro w'
        go_simp
        with_reducible rfl
      rotate_left
      · simp only [Act.put, List.setIfInBounds_toArray, List.set_cons_zero, List.set_cons_succ, i64_w, i32_w]
        rfl
      refine take_ (i := 0) (N := some 14) (v := ?_) (a' := ?_) #[true, true, false, false, false, false, false, false, false, false, false, false, false, false, false, false, false, false, false, false, false, false] rfl rfl (take_ofW HT_.out HW_.out (by kernel_rfl)) (fun _ _ _ h => h) (Or.inl ⟨by rfl, ?_⟩) hHeld ?_ ?_
      rotate_left
      · rintro w' ⟨s0, s1, s2, s3, s4⟩
        go_simp
        with_reducible rfl
      rotate_left
      · simp only [Act.put, List.setIfInBounds_toArray, List.set_cons_zero, List.set_cons_succ, i64_w, i32_w]
        rfl
      refine one_ (i := 2) (N := some 16) #[true, true, true, false, false, false, false, false, false, false, false, false, false, false, false, false, false, false, false, false, false, false] rfl rfl (one_of HT_.out (by kernel_rfl)) (by decide) (fun K hK => ?_)
      refine goes_ Try.func12 (by kernel_rfl) rfl #[.agg #[.int .i64 t207, .string t208, .string t209, .slice Ao24 t210.length co24, .slice Ao25 t213.length co25], .slice Ao19 y204.length co19, .bool false] (by rfl) rfl rfl (by (try simp only [List.map_toArray, List.map_cons, List.map_nil]); first | done | rfl | (simp only [List.length_drop, List.length_take]; rfl)) ?_
      with_reducible refine (laws_inlineWithin.calls k t207 t208 t209 _ _ t210 _ _ t213 _ _ y204 false true _ ?side1 ?side2 ?side3 ?side4 ?side5 ?side6 A6.out).mono ?_
      (case side1 => repeat (first | exact (Kd.R_reads' HO212.out).2.2 | (with_reducible refine Kd.C_alloc ?_ _) | (with_reducible refine Kd.C_drewN ?_ _) | (with_reducible refine Kd.C_drew ?_)))
      (case side2 => exact (Kd.R_reads' HO212.out).2.1)
      (case side3 => repeat (first | exact (Kd.N_reads' HO215.out).2.2 | (with_reducible refine Kd.C_alloc ?_ _) | (with_reducible refine Kd.C_drewN ?_ _) | (with_reducible refine Kd.C_drew ?_)))
      (case side4 => exact (Kd.N_reads' HO215.out).2.1)
      (case side5 => repeat (first | exact (Kd.R_reads' HO206.out).2.2 | (with_reducible refine Kd.C_alloc ?_ _) | (with_reducible refine Kd.C_drewN ?_ _) | (with_reducible refine Kd.C_drew ?_)))
      (case side6 => exact (Kd.R_reads' HO206.out).2.1)
      rintro e w28 ⟨rfl, hb⟩
      refine ⟨_, rfl, ?_⟩
      have n0_ := Aside0.mk (Kd.R_below (by (with_reducible repeat (first | apply Kd.R_alloc | apply Kd.R_drewN | apply Kd.R_drew)); exact HO200.out) hb)
      have n1_ := Aside0.mk (Kd.N_below (by (with_reducible repeat (first | apply Kd.N_alloc | apply Kd.N_drewN | apply Kd.N_drew)); exact HO203.out) hb)
      have n2_ := Aside0.mk (Kd.R_below (by (with_reducible repeat (first | apply Kd.R_alloc | apply Kd.R_drewN | apply Kd.R_drew)); exact HO206.out) hb)
      have n3_ := Aside0.mk (Kd.R_below (by (with_reducible repeat (first | apply Kd.R_alloc | apply Kd.R_drewN | apply Kd.R_drew)); exact HO212.out) hb)
      have n4_ := Aside0.mk (Kd.N_below (by (with_reducible repeat (first | apply Kd.N_alloc | apply Kd.N_drewN | apply Kd.N_drew)); exact HO215.out) hb)
      have n5_ := Aside0.mk (blk_below (g := gb193) (o := .cells #[.int .i64 t195, .string t196, .string t197, .slice Ao14 t198.length co14, .slice Ao15 t201.length co15] 25 (0, 0)) (by (with_reducible repeat (first | refine blk_drewN ?_ _ | refine blk_drew ?_ | refine blk_alloc ?_ _)); exact BK193.out) hb)
      have n6_ := Aside0.mk (blk_below (g := gb216) (o := .cells #[.int .i64 t207, .string t208, .string t209, .slice Ao24 t210.length co24, .slice Ao25 t213.length co25] 25 (0, 0)) (by (with_reducible repeat (first | refine blk_drewN ?_ _ | refine blk_drew ?_ | refine blk_alloc ?_ _)); exact BK216.out) hb)
      have n7_ := Aside0.mk (below_step (by repeat (first | (with_reducible first | exact HB.out | apply below_alloc | apply pw_below_drewN | apply below_drew1 | refine below_set ?_ GE193.out | refine below_set ?_ GE216.out) | exact HB.out)) hb)
      clear HO200
      clear HO203
      clear HO206
      clear HO212
      clear HO215
      clear BK193
      clear BK216
      clear HB
      have HO200 := n0_
      have HO203 := n1_
      have HO206 := n2_
      have HO212 := n3_
      have HO215 := n4_
      have BK193 := n5_
      have BK216 := n6_
      have HB := n7_
      clear n0_ n1_ n2_ n3_ n4_ n5_ n6_ n7_
      (try clear hb)
      (try clear hb2)
      (try clear hk)
      (try clear hi)
      refine hK.out _ _ ⟨(blk_cell BK216.out 0).trans rfl, (blk_cell BK216.out 1).trans rfl, (blk_cell BK216.out 2).trans rfl, (blk_cell BK216.out 3).trans rfl, (blk_cell BK216.out 4).trans rfl⟩ (fun hHeld => ?_)
      clear hK K
      refine norm_ (a' := ?_) ?_ ?_
      rotate_left
      · show Act.put _ (some 16) _ = _
        simp only [Act.put, List.setIfInBounds_toArray, List.set_cons_zero, List.set_cons_succ, i64_w, i32_w]
        rfl
      refine pure_ (i := 3) (N := some 17) (v := ?_) (a' := ?_) #[true, true, true, true, false, false, false, false, false, false, false, false, false, false, false, false, false, false, false, false, false, false] rfl rfl (any_of HT_.out (by kernel_rfl)) (fun _ _ _ h => h) (Or.inl ⟨by rfl, ?_⟩) ?_ ?_
      rotate_left
      · intro w'
        go_simp
        with_reducible rfl
      rotate_left
      · simp only [Act.put, List.setIfInBounds_toArray, List.set_cons_zero, List.set_cons_succ, i64_w, i32_w]
        rfl
      refine pure_ (i := 4) (N := some 18) (v := ?_) (a' := ?_) #[true, true, true, true, true, false, false, false, false, false, false, false, false, false, false, false, false, false, false, false, false, false] rfl rfl (any_of HT_.out (by kernel_rfl)) (fun _ _ _ h => h) (Or.inl ⟨by rfl, ?_⟩) ?_ ?_
      rotate_left
      · intro w'
        go_simp
        with_reducible rfl
      rotate_left
      · simp only [Act.put, List.setIfInBounds_toArray, List.set_cons_zero, List.set_cons_succ, i64_w, i32_w]
        rfl
      refine pure_ (i := 5) (N := some 19) (v := undef) (a' := ?_) #[true, true, true, true, true, true, false, false, false, false, false, false, false, false, false, false, false, false, false, false, false, false] rfl rfl (any_of HT_.out (by kernel_rfl)) (fun _ _ _ h => h) (Or.inr ⟨by rfl, rfl⟩) ?_ ?_
      rotate_left
      · simp only [Act.put, List.setIfInBounds_toArray, List.set_cons_zero, List.set_cons_succ, i64_w, i32_w]
        rfl
      refine pure_ (i := 6) (N := some 20) (v := undef) (a' := ?_) #[true, true, true, true, true, true, true, false, false, false, false, false, false, false, false, false, false, false, false, false, false, false] rfl rfl (any_of HT_.out (by kernel_rfl)) (fun _ _ _ h => h) (Or.inr ⟨by rfl, rfl⟩) ?_ ?_
      rotate_left
      · simp only [Act.put, List.setIfInBounds_toArray, List.set_cons_zero, List.set_cons_succ, i64_w, i32_w]
        rfl
      refine pure_ (i := 7) (N := some 21) (v := undef) (a' := ?_) #[true, true, true, true, true, true, true, true, false, false, false, false, false, false, false, false, false, false, false, false, false, false] rfl rfl (any_of HT_.out (by kernel_rfl)) (fun _ _ _ h => h) (Or.inr ⟨by rfl, rfl⟩) ?_ ?_
      rotate_left
      · simp only [Act.put, List.setIfInBounds_toArray, List.set_cons_zero, List.set_cons_succ, i64_w, i32_w]
        rfl
      refine pure_ (i := 8) (N := some 22) (v := undef) (a' := ?_) #[true, true, true, true, true, true, true, true, true, false, false, false, false, false, false, false, false, false, false, false, false, false] rfl rfl (any_of HT_.out (by kernel_rfl)) (fun _ _ _ h => h) (Or.inr ⟨by rfl, rfl⟩) ?_ ?_
      rotate_left
      · simp only [Act.put, List.setIfInBounds_toArray, List.set_cons_zero, List.set_cons_succ, i64_w, i32_w]
        rfl
      refine pure_ (i := 9) (N := some 23) (v := undef) (a' := ?_) #[true, true, true, true, true, true, true, true, true, true, false, false, false, false, false, false, false, false, false, false, false, false] rfl rfl (any_of HT_.out (by kernel_rfl)) (fun _ _ _ h => h) (Or.inr ⟨by rfl, rfl⟩) ?_ ?_
      rotate_left
      · simp only [Act.put, List.setIfInBounds_toArray, List.set_cons_zero, List.set_cons_succ, i64_w, i32_w]
        rfl
      refine pure_ (i := 10) (N := some 24) (v := ?_) (a' := ?_) #[true, true, true, true, true, true, true, true, true, true, true, false, false, false, false, false, false, false, false, false, false, false] rfl rfl (any_of HT_.out (by kernel_rfl)) (fun _ _ _ h => h) (Or.inl ⟨by rfl, ?_⟩) ?_ ?_
      rotate_left
      · intro w'
        go_simp
        with_reducible rfl
      rotate_left
      · simp only [Act.put, List.setIfInBounds_toArray, List.set_cons_zero, List.set_cons_succ, i64_w, i32_w]
        rfl
      refine pure_ (i := 11) (N := some 25) (v := ?_) (a' := ?_) #[true, true, true, true, true, true, true, true, true, true, true, true, false, false, false, false, false, false, false, false, false, false] rfl rfl (any_of HT_.out (by kernel_rfl)) (fun _ _ _ h => h) (Or.inl ⟨by rfl, ?_⟩) ?_ ?_
      rotate_left
      · intro w'
        go_simp
        with_reducible rfl
      rotate_left
      · simp only [Act.put, List.setIfInBounds_toArray, List.set_cons_zero, List.set_cons_succ, i64_w, i32_w]
        rfl
      refine pure_ (i := 12) (N := some 26) (v := undef) (a' := ?_) #[true, true, true, true, true, true, true, true, true, true, true, true, true, false, false, false, false, false, false, false, false, false] rfl rfl (any_of HT_.out (by kernel_rfl)) (fun _ _ _ h => h) (Or.inr ⟨by rfl, rfl⟩) ?_ ?_
      rotate_left
      · simp only [Act.put, List.setIfInBounds_toArray, List.set_cons_zero, List.set_cons_succ, i64_w, i32_w]
        rfl
      refine pure_ (i := 13) (N := some 27) (v := undef) (a' := ?_) #[true, true, true, true, true, true, true, true, true, true, true, true, true, true, false, false, false, false, false, false, false, false] rfl rfl (any_of HT_.out (by kernel_rfl)) (fun _ _ _ h => h) (Or.inr ⟨by rfl, rfl⟩) ?_ ?_
      rotate_left
      · simp only [Act.put, List.setIfInBounds_toArray, List.set_cons_zero, List.set_cons_succ, i64_w, i32_w]
        rfl
      refine pure_ (i := 14) (N := some 28) (v := undef) (a' := ?_) #[true, true, true, true, true, true, true, true, true, true, true, true, true, true, true, false, false, false, false, false, false, false] rfl rfl (any_of HT_.out (by kernel_rfl)) (fun _ _ _ h => h) (Or.inr ⟨by rfl, rfl⟩) ?_ ?_
      rotate_left
      · simp only [Act.put, List.setIfInBounds_toArray, List.set_cons_zero, List.set_cons_succ, i64_w, i32_w]
        rfl
      refine pure_ (i := 15) (N := some 29) (v := undef) (a' := ?_) #[true, true, true, true, true, true, true, true, true, true, true, true, true, true, true, true, false, false, false, false, false, false] rfl rfl (any_of HT_.out (by kernel_rfl)) (fun _ _ _ h => h) (Or.inr ⟨by rfl, rfl⟩) ?_ ?_
      rotate_left
      · simp only [Act.put, List.setIfInBounds_toArray, List.set_cons_zero, List.set_cons_succ, i64_w, i32_w]
        rfl
      refine pure_ (i := 16) (N := some 30) (v := undef) (a' := ?_) #[true, true, true, true, true, true, true, true, true, true, true, true, true, true, true, true, true, false, false, false, false, false] rfl rfl (any_of HT_.out (by kernel_rfl)) (fun _ _ _ h => h) (Or.inr ⟨by rfl, rfl⟩) ?_ ?_
      rotate_left
      · simp only [Act.put, List.setIfInBounds_toArray, List.set_cons_zero, List.set_cons_succ, i64_w, i32_w]
        rfl
      refine pure_ (i := 17) (N := some 31) (v := ?_) (a' := ?_) #[true, true, true, true, true, true, true, true, true, true, true, true, true, true, true, true, true, true, false, false, false, false] rfl rfl (any_of HT_.out (by kernel_rfl)) (fun _ _ _ h => h) (Or.inl ⟨by rfl, ?_⟩) ?_ ?_
      rotate_left
      · intro w'
        go_simp
        with_reducible rfl
      rotate_left
      · simp only [Act.put, List.setIfInBounds_toArray, List.set_cons_zero, List.set_cons_succ, i64_w, i32_w]
        rfl
      refine pure_ (i := 18) (N := some 32) (v := ?_) (a' := ?_) #[true, true, true, true, true, true, true, true, true, true, true, true, true, true, true, true, true, true, true, false, false, false] rfl rfl (any_of HT_.out (by kernel_rfl)) (fun _ _ _ h => h) (Or.inl ⟨by rfl, ?_⟩) ?_ ?_
      rotate_left
      · intro w'
        go_simp
        with_reducible rfl
      rotate_left
      · simp only [Act.put, List.setIfInBounds_toArray, List.set_cons_zero, List.set_cons_succ, i64_w, i32_w]
        rfl
      refine pure_ (i := 19) (N := some 33) (v := undef) (a' := ?_) #[true, true, true, true, true, true, true, true, true, true, true, true, true, true, true, true, true, true, true, true, false, false] rfl rfl (any_of HT_.out (by kernel_rfl)) (fun _ _ _ h => h) (Or.inr ⟨by rfl, rfl⟩) ?_ ?_
      rotate_left
      · simp only [Act.put, List.setIfInBounds_toArray, List.set_cons_zero, List.set_cons_succ, i64_w, i32_w]
        rfl
      refine pure_ (i := 20) (N := some 34) (v := ?_) (a' := ?_) #[true, true, true, true, true, true, true, true, true, true, true, true, true, true, true, true, true, true, true, true, true, false] rfl rfl (any_of HT_.out (by kernel_rfl)) (fun _ _ _ h => h) (Or.inl ⟨by rfl, ?_⟩) ?_ ?_
      rotate_left
      · intro w'
        go_simp
        with_reducible rfl
      rotate_left
      · simp only [Act.put, List.setIfInBounds_toArray, List.set_cons_zero, List.set_cons_succ, i64_w, i32_w]
        rfl
      refine pure_ (i := 21) (N := some 2) (v := ?_) (a' := ?_) #[true, true, true, true, true, true, true, true, true, true, true, true, true, true, true, true, true, true, true, true, true, true] rfl rfl (any_of HT_.out (by kernel_rfl)) (fun _ _ _ h => h) (Or.inl ⟨by rfl, ?_⟩) ?_ ?_
      rotate_left
      · intro w'
        go_simp
        with_reducible rfl
      rotate_left
      · simp only [Act.put, List.setIfInBounds_toArray, List.set_cons_zero, List.set_cons_succ, i64_w, i32_w]
        rfl
      refine done_ (done_of HT_.out (by kernel_rfl)) ?_
      try go_wp2
      go_ret
      exact ⟨by first | rfl | (simp [errW_none, errW_some] <;> rfl) | (simp [*, errW_none, errW_some] <;> rfl), by repeat (first | (with_reducible first | exact HB.out | apply below_alloc | apply pw_below_drewN | apply below_drew1 | refine below_set ?_ GE193.out | refine below_set ?_ GE216.out) | exact HB.out)⟩
    · replace c7 := Bool.eq_false_iff.mpr c7
      subst c7
      have H1 : ((spec_TextOf.f k t207 t208 t209 t210 t213).bind fun t218 => ((spec_TextOf.f k t195 t196 t197 t198 t201).bind fun t219 => (if t218.toList = t219.toList then ((impl_Redundant.f k t207 t208 t209 t210 t213 y204).bind fun bt220 => ((spec_SameTree.f k bt220.1 bt220.2.1 bt220.2.2.1 bt220.2.2.2.1 bt220.2.2.2.2 t207 t208 t209 t210 t213).bind fun t229 => (if t229 = true then ((laws_inlineLives.f k).bind fun t230 => (some t230)) else (some false)))) else (some false)))) = some r := by rw [if_neg (show ¬ (false = true) by decide)] at H; exact H
      clear H
      have H := H1
      clear H1
      replace H := Option.bind_eq_some_iff.mp H
      obtain ⟨t218, A290, H⟩ := H
      replace H : ((spec_TextOf.f k t195 t196 t197 t198 t201).bind fun t219 => (if t218.toList = t219.toList then ((impl_Redundant.f k t207 t208 t209 t210 t213 y204).bind fun bt220 => ((spec_SameTree.f k bt220.1 bt220.2.1 bt220.2.2.1 bt220.2.2.2.1 bt220.2.2.2.2 t207 t208 t209 t210 t213).bind fun t229 => (if t229 = true then ((laws_inlineLives.f k).bind fun t230 => (some t230)) else (some false)))) else (some false))) = some r := H
      have A29 := Aside0.mk A290
      clear A290
      replace H := Option.bind_eq_some_iff.mp H
      obtain ⟨t219, A300, H⟩ := H
      replace H : (if t218.toList = t219.toList then ((impl_Redundant.f k t207 t208 t209 t210 t213 y204).bind fun bt220 => ((spec_SameTree.f k bt220.1 bt220.2.1 bt220.2.2.1 bt220.2.2.2.1 bt220.2.2.2.2 t207 t208 t209 t210 t213).bind fun t229 => (if t229 = true then ((laws_inlineLives.f k).bind fun t230 => (some t230)) else (some false)))) else (some false)) = some r := H
      have A30 := Aside0.mk A300
      clear A300
      by_cases c31 : t218.toList = t219.toList
      · rw [if_pos c31] at H
        have c31b0 : (t218.toList == t219.toList) = true := beq_iff_eq.mpr c31
        have c31b1 : (t218.toList != t219.toList) = false := bne_eq_false_iff_eq.mpr c31
        clear c31
        replace H := Option.bind_eq_some_iff.mp H
        obtain ⟨⟨t220, t221, t222, t223, t226⟩, A320, H⟩ := H
        replace H : ((spec_SameTree.f k t220 t221 t222 t223 t226 t207 t208 t209 t210 t213).bind fun t229 => (if t229 = true then ((laws_inlineLives.f k).bind fun t230 => (some t230)) else (some false))) = some r := H
        have A32 := Aside0.mk A320
        clear A320
        replace H := Option.bind_eq_some_iff.mp H
        obtain ⟨t229, A330, H⟩ := H
        replace H : (if t229 = true then ((laws_inlineLives.f k).bind fun t230 => (some t230)) else (some false)) = some r := H
        have A33 := Aside0.mk A330
        clear A330
        by_cases c34 : t229 = true
        · subst c34
          have H1 : ((laws_inlineLives.f k).bind fun t230 => (some t230)) = some r := by rw [if_pos rfl] at H; exact H
          clear H
          have H := H1
          clear H1
          replace H := Option.bind_eq_some_iff.mp H
          obtain ⟨t230, A350, H⟩ := H
          replace H : (some t230) = some r := H
          have A35 := Aside0.mk A350
          clear A350
          obtain rfl := Option.some.inj H
          go_enter Try.func3, Try.ntmps3
          try go_wp2_with (first | ((with_reducible refine gate_dst (N := 1) rfl ?_); refine box_event ?hg (N := 1) ?hd (cs := #[.int .i64 a0_0, .string a0_1, .string a0_2, .slice A0_3 l0_3.length c0_3, .slice A0_4 l0_4.length c0_4]) (t := 25) ?hr ?_; (case hd => rfl); (case hg => rfl); (case hr => first | (go_simp; done) | (go_simp; rfl)); intro gb193 hg w36 hbox hb; have n0_ := Aside0.mk (below_step (by repeat (first | (with_reducible first | exact HB.out | apply below_alloc | apply pw_below_drewN | apply below_drew1) | exact HB.out)) hb); have n1_ := Aside0.mk (hbox); have n2_ := Aside0.mk ((by rw [hg]; exact (below_size (by repeat (first | (with_reducible first | exact HB.out | apply below_alloc | apply pw_below_drewN | apply below_drew1) | exact HB.out))) : w.heap.size ≤ gb193)); have n3_ := Aside0.mk ((by rw [hg]; exact (below_size (by repeat (first | (with_reducible first | exact HB.out | apply below_alloc | apply pw_below_drewN | apply below_drew1) | exact HB.out))) : w.heap.size ≤ gb193)); clear HB; have HB := n0_; have BK193 := n1_; have GW193 := n2_; have GE193 := n3_; clear n0_ n1_ n2_ n3_; clear hb hbox hg; have hcz37_0 : w36.cell? ⟨gb193, 0, none⟩ = some (.int .i64 a0_0) := (blk_cell BK193.out 0).trans rfl; have hcz37_1 : w36.cell? ⟨gb193, 1, none⟩ = some (.string a0_1) := (blk_cell BK193.out 1).trans rfl; have hcz37_2 : w36.cell? ⟨gb193, 2, none⟩ = some (.string a0_2) := (blk_cell BK193.out 2).trans rfl; have hcz37_3 : w36.cell? ⟨gb193, 3, none⟩ = some (.slice A0_3 l0_3.length c0_3) := (blk_cell BK193.out 3).trans rfl; have hcz37_4 : w36.cell? ⟨gb193, 4, none⟩ = some (.slice A0_4 l0_4.length c0_4) := (blk_cell BK193.out 4).trans rfl; have hfz37_0 := blk_frozen BK193.out 0; have hfz37_1 := blk_frozen BK193.out 1; have hfz37_2 := blk_frozen BK193.out 2; have hfz37_3 := blk_frozen BK193.out 3; have hfz37_4 := blk_frozen BK193.out 4) | ((with_reducible refine gate_callee (f := 9) rfl ?_); refine goesL_ (some 6) rfl rfl Try.func9 (by kernel_rfl) rfl #[.agg #[.int .i64 a0_0, .string a0_1, .string a0_2, .slice A0_3 l0_3.length c0_3, .slice A0_4 l0_4.length c0_4]] rfl (by (try simp only [List.map_toArray, List.map_cons, List.map_nil]); first | done | rfl | (simp only [List.length_drop, List.length_take]; rfl)) ?_; (with_reducible refine (laws_zzFits2.calls k a0_0 a0_1 a0_2 _ _ l0_3 _ _ l0_4 true _ ?side1 ?side2 ?side3 ?side4 A2.out).mono ?_); (case side1 => repeat (first | exact (Kd.C_below HR0_3.out HB.out) | (with_reducible refine Kd.C_alloc ?_ _) | (with_reducible refine Kd.C_drewN ?_ _) | (with_reducible refine Kd.C_drew ?_))); (case side2 => exact HC0_3.out); (case side3 => repeat (first | exact (Kd.C_below HR0_4.out HB.out) | (with_reducible refine Kd.C_alloc ?_ _) | (with_reducible refine Kd.C_drewN ?_ _) | (with_reducible refine Kd.C_drew ?_))); (case side4 => exact HC0_4.out); rintro e w38 ⟨rfl, hb⟩; refine ⟨_, rfl, ?_⟩; have n0_ := Aside0.mk (blk_below (g := gb193) (o := .cells #[.int .i64 a0_0, .string a0_1, .string a0_2, .slice A0_3 l0_3.length c0_3, .slice A0_4 l0_4.length c0_4] 25 (0, 0)) (by (with_reducible repeat (first | refine blk_drewN ?_ _ | refine blk_drew ?_ | refine blk_alloc ?_ _)); exact BK193.out) hb); have n1_ := Aside0.mk (below_step (by repeat (first | (with_reducible first | exact HB.out | apply below_alloc | apply pw_below_drewN | apply below_drew1 | refine below_set ?_ GE193.out) | exact HB.out)) hb); clear BK193; clear HB; have BK193 := n0_; have HB := n1_; clear n0_ n1_; (try clear hb); (try clear hb2); (try clear hk); (try clear hi); have hcz39_0 : w38.cell? ⟨gb193, 0, none⟩ = some (.int .i64 a0_0) := (blk_cell BK193.out 0).trans rfl; have hcz39_1 : w38.cell? ⟨gb193, 1, none⟩ = some (.string a0_1) := (blk_cell BK193.out 1).trans rfl; have hcz39_2 : w38.cell? ⟨gb193, 2, none⟩ = some (.string a0_2) := (blk_cell BK193.out 2).trans rfl; have hcz39_3 : w38.cell? ⟨gb193, 3, none⟩ = some (.slice A0_3 l0_3.length c0_3) := (blk_cell BK193.out 3).trans rfl; have hcz39_4 : w38.cell? ⟨gb193, 4, none⟩ = some (.slice A0_4 l0_4.length c0_4) := (blk_cell BK193.out 4).trans rfl; have hfz39_0 := blk_frozen BK193.out 0; have hfz39_1 := blk_frozen BK193.out 1; have hfz39_2 := blk_frozen BK193.out 2; have hfz39_3 := blk_frozen BK193.out 3; have hfz39_4 := blk_frozen BK193.out 4) | ((with_reducible refine gate_callee (f := 10) rfl ?_); refine goesL_ (some 9) rfl rfl Try.func10 (by kernel_rfl) rfl #[.agg #[.int .i64 a0_0, .string a0_1, .string a0_2, .slice A0_3 l0_3.length c0_3, .slice A0_4 l0_4.length c0_4]] rfl (by (try simp only [List.map_toArray, List.map_cons, List.map_nil]); first | done | rfl | (simp only [List.length_drop, List.length_take]; rfl)) ?_; (with_reducible refine (laws_inlineCutTree.calls k a0_0 a0_1 a0_2 _ _ l0_3 _ _ l0_4 t195 t196 t197 t198 t201 _ ?side1 ?side2 ?side3 ?side4 A4.out).mono ?_); (case side1 => repeat (first | exact (Kd.C_below HR0_3.out HB.out) | (with_reducible refine Kd.C_alloc ?_ _) | (with_reducible refine Kd.C_drewN ?_ _) | (with_reducible refine Kd.C_drew ?_))); (case side2 => exact HC0_3.out); (case side3 => repeat (first | exact (Kd.C_below HR0_4.out HB.out) | (with_reducible refine Kd.C_alloc ?_ _) | (with_reducible refine Kd.C_drewN ?_ _) | (with_reducible refine Kd.C_drew ?_))); (case side4 => exact HC0_4.out); rintro e w40 ⟨v199, v202, rfl, ho0, ho1, hb⟩; refine ⟨_, rfl, ?_⟩; have n0_ := Aside0.mk (Kd.R_lower (Kd.R_mono (ok' := fun k_ => True) ho0 (fun _ hk_ => trivial)) (below_size (by repeat (first | (with_reducible first | exact HB.out | apply below_alloc | apply pw_below_drewN | apply below_drew1 | refine below_set ?_ GE193.out) | exact HB.out)))); have n1_ := Aside0.mk (Kd.N_lower (Kd.N_mono (ok' := fun k_ => some k_ ≠ (v199 : Value).ownBlock ∧ k_ ≠ gb193) ho1 (fun k_ hk_ => ⟨hk_.2, (Kd.freshB (g := gb193) (o := .cells #[.int .i64 a0_0, .string a0_1, .string a0_2, .slice A0_3 l0_3.length c0_3, .slice A0_4 l0_4.length c0_4] 25 (0, 0)) (by (with_reducible repeat (first | refine blk_drewN ?_ _ | refine blk_drew ?_ | refine blk_alloc ?_ _)); exact BK193.out) k_ hk_.1)⟩)) (below_size (by repeat (first | (with_reducible first | exact HB.out | apply below_alloc | apply pw_below_drewN | apply below_drew1 | refine below_set ?_ GE193.out) | exact HB.out)))); have n2_ := Aside0.mk (blk_below (g := gb193) (o := .cells #[.int .i64 a0_0, .string a0_1, .string a0_2, .slice A0_3 l0_3.length c0_3, .slice A0_4 l0_4.length c0_4] 25 (0, 0)) (by (with_reducible repeat (first | refine blk_drewN ?_ _ | refine blk_drew ?_ | refine blk_alloc ?_ _)); exact BK193.out) hb); have n3_ := Aside0.mk (below_step (by repeat (first | (with_reducible first | exact HB.out | apply below_alloc | apply pw_below_drewN | apply below_drew1 | refine below_set ?_ GE193.out) | exact HB.out)) hb); clear BK193; clear HB; have HO200 := n0_; have HO203 := n1_; have BK193 := n2_; have HB := n3_; clear n0_ n1_ n2_ n3_; (try clear hb); (try clear hb2); (try clear hk); (try clear hi); (try clear ho0); (try clear ho1); have hcz41_0 : w40.cell? ⟨gb193, 0, none⟩ = some (.int .i64 a0_0) := (blk_cell BK193.out 0).trans rfl; have hcz41_1 : w40.cell? ⟨gb193, 1, none⟩ = some (.string a0_1) := (blk_cell BK193.out 1).trans rfl; have hcz41_2 : w40.cell? ⟨gb193, 2, none⟩ = some (.string a0_2) := (blk_cell BK193.out 2).trans rfl; have hcz41_3 : w40.cell? ⟨gb193, 3, none⟩ = some (.slice A0_3 l0_3.length c0_3) := (blk_cell BK193.out 3).trans rfl; have hcz41_4 : w40.cell? ⟨gb193, 4, none⟩ = some (.slice A0_4 l0_4.length c0_4) := (blk_cell BK193.out 4).trans rfl; have hfz41_0 := blk_frozen BK193.out 0; have hfz41_1 := blk_frozen BK193.out 1; have hfz41_2 := blk_frozen BK193.out 2; have hfz41_3 := blk_frozen BK193.out 3; have hfz41_4 := blk_frozen BK193.out 4; obtain ⟨Ao42, co42, eo42⟩ := Kd.R_slice HO200.out; subst eo42; obtain ⟨Ao43, co43, eo43⟩ := Kd.N_slice HO203.out; subst eo43) | ((with_reducible refine gate_dst (N := 10) rfl ?_); refine Kd.R_lit Kd.string _ 9 ?hg (N := 10) ?hd (xs := ([(⟨#[98]⟩ : ByteArray), (⟨#[115, 116, 114, 111, 110, 103]⟩ : ByteArray)] : List ByteArray)) (inner := [.string (⟨#[98]⟩ : ByteArray), .string (⟨#[115, 116, 114, 111, 110, 103]⟩ : ByteArray)]) (ok := fun _ => True) (okp := fun _ => True) ?hr ?hp (fun _ hk => hk) trivial (Below.refl _ _) (Nat.le_refl _) (by simp) ?_; (case hd => rfl); (case hg => rfl); (case hr => first | (go_simp; done) | (go_simp; rfl)); (case hp => exact (Reps.one (show Kd.M Kd.string _ _ _ (⟨#[98]⟩ : ByteArray) [.string (⟨#[98]⟩ : ByteArray)] from rfl) (Reps.one (show Kd.M Kd.string _ _ _ (⟨#[115, 116, 114, 111, 110, 103]⟩ : ByteArray) [.string (⟨#[115, 116, 114, 111, 110, 103]⟩ : ByteArray)] from rfl) (Reps.none _ _)))); intro v205 w44 ho45 hb hg_ hnew_; clear hg_ hnew_; (first | rw [← Ny204.out] at ho45 | (simp only [Int.reduceToNat] at ho45; rw [← Ny204.out] at ho45)); have n0_ := Aside0.mk (Kd.R_below (by (with_reducible repeat (first | apply Kd.R_alloc | apply Kd.R_drewN | apply Kd.R_drew)); exact (Kd.R_mono (Kd.R_far (p := ⟨gb193, 4, none⟩) (Kd.R_far (p := ⟨gb193, 3, none⟩) (Kd.R_far (p := ⟨gb193, 2, none⟩) (Kd.R_far (p := ⟨gb193, 1, none⟩) (Kd.R_far (p := ⟨gb193, 0, none⟩) (Kd.R_types HO200.out BK193.out (by decide)) (fun _ hk => hk.2) (.int .i64 t195)) (fun _ hk => hk.2) (.string t196)) (fun _ hk => hk.2) (.string t197)) (fun _ hk => hk.2) (.slice Ao42 t198.length co42)) (fun _ hk => hk.2) (.slice Ao43 t201.length co43)) (fun _ h_ => h_.1))) hb); have n1_ := Aside0.mk (Kd.N_elder' (by (with_reducible repeat (first | apply Kd.N_alloc | apply Kd.N_drewN | apply Kd.N_drew)); exact (Kd.N_mono (Kd.N_far (p := ⟨gb193, 4, none⟩) (Kd.N_far (p := ⟨gb193, 3, none⟩) (Kd.N_far (p := ⟨gb193, 2, none⟩) (Kd.N_far (p := ⟨gb193, 1, none⟩) (Kd.N_far (p := ⟨gb193, 0, none⟩) (Kd.N_mono HO203.out (fun k_ hk => (⟨hk, hk.2⟩ : _ ∧ k_ ≠ gb193))) (fun _ hk => hk.2) (.int .i64 t195)) (fun _ hk => hk.2) (.string t196)) (fun _ hk => hk.2) (.string t197)) (fun _ hk => hk.2) (.slice Ao42 t198.length co42)) (fun _ hk => hk.2) (.slice Ao43 t201.length co43)) (fun _ h_ => h_.1))) (Kd.R_base ho45) hb); have n2_ := Aside0.mk (Kd.R_lower ho45 (below_size (by repeat (first | (with_reducible first | exact HB.out | apply below_alloc | apply pw_below_drewN | apply below_drew1 | refine below_set ?_ GE193.out) | exact HB.out)))); have n3_ := Aside0.mk (blk_below (g := gb193) (o := .cells #[.int .i64 t195, .string t196, .string t197, .slice Ao42 t198.length co42, .slice Ao43 t201.length co43] 25 (0, 0)) (by (with_reducible repeat (first | refine blk_drewN ?_ _ | refine blk_drew ?_ | refine blk_alloc ?_ _)); refine blk_put (cs := #[.int .i64 t195, .string t196, .string t197, .slice Ao42 t198.length co42, .slice A0_4 l0_4.length c0_4]) ?_ 4 _ rfl; (with_reducible repeat (first | refine blk_drewN ?_ _ | refine blk_drew ?_ | refine blk_alloc ?_ _)); refine blk_put (cs := #[.int .i64 t195, .string t196, .string t197, .slice A0_3 l0_3.length c0_3, .slice A0_4 l0_4.length c0_4]) ?_ 3 _ rfl; (with_reducible repeat (first | refine blk_drewN ?_ _ | refine blk_drew ?_ | refine blk_alloc ?_ _)); refine blk_put (cs := #[.int .i64 t195, .string t196, .string a0_2, .slice A0_3 l0_3.length c0_3, .slice A0_4 l0_4.length c0_4]) ?_ 2 _ rfl; (with_reducible repeat (first | refine blk_drewN ?_ _ | refine blk_drew ?_ | refine blk_alloc ?_ _)); refine blk_put (cs := #[.int .i64 t195, .string a0_1, .string a0_2, .slice A0_3 l0_3.length c0_3, .slice A0_4 l0_4.length c0_4]) ?_ 1 _ rfl; (with_reducible repeat (first | refine blk_drewN ?_ _ | refine blk_drew ?_ | refine blk_alloc ?_ _)); refine blk_put (cs := #[.int .i64 a0_0, .string a0_1, .string a0_2, .slice A0_3 l0_3.length c0_3, .slice A0_4 l0_4.length c0_4]) ?_ 0 _ rfl; (with_reducible repeat (first | refine blk_drewN ?_ _ | refine blk_drew ?_ | refine blk_alloc ?_ _)); exact BK193.out) hb); have n4_ := Aside0.mk (below_step (by repeat (first | (with_reducible first | exact HB.out | apply below_alloc | apply pw_below_drewN | apply below_drew1 | refine below_set ?_ GE193.out) | exact HB.out)) hb); clear HO200; clear HO203; clear BK193; clear HB; have HO200 := n0_; have HO203 := n1_; have HO206 := n2_; have BK193 := n3_; have HB := n4_; clear n0_ n1_ n2_ n3_ n4_; clear hb ho45; have hcz46_0 : w44.cell? ⟨gb193, 0, none⟩ = some (.int .i64 t195) := (blk_cell BK193.out 0).trans rfl; have hcz46_1 : w44.cell? ⟨gb193, 1, none⟩ = some (.string t196) := (blk_cell BK193.out 1).trans rfl; have hcz46_2 : w44.cell? ⟨gb193, 2, none⟩ = some (.string t197) := (blk_cell BK193.out 2).trans rfl; have hcz46_3 : w44.cell? ⟨gb193, 3, none⟩ = some (.slice Ao42 t198.length co42) := (blk_cell BK193.out 3).trans rfl; have hcz46_4 : w44.cell? ⟨gb193, 4, none⟩ = some (.slice Ao43 t201.length co43) := (blk_cell BK193.out 4).trans rfl; have hfz46_0 := blk_frozen BK193.out 0; have hfz46_1 := blk_frozen BK193.out 1; have hfz46_2 := blk_frozen BK193.out 2; have hfz46_3 := blk_frozen BK193.out 3; have hfz46_4 := blk_frozen BK193.out 4; obtain ⟨Ao47, co47, eo47⟩ := Kd.R_slice HO206.out; subst eo47) | ((with_reducible refine gate_callee (f := 11) rfl ?_); refine goesL_ (some 13) rfl rfl Try.func11 (by kernel_rfl) rfl #[.agg #[.int .i64 t195, .string t196, .string t197, .slice Ao42 t198.length co42, .slice Ao43 t201.length co43], .slice Ao47 y204.length co47] rfl (by (try simp only [List.map_toArray, List.map_cons, List.map_nil]); first | done | rfl | (simp only [List.length_drop, List.length_take]; rfl)) ?_; (with_reducible refine (impl_Redundant.calls k t195 t196 t197 _ _ t198 _ _ t201 _ _ y204 t207 t208 t209 t210 t213 _ ?side1 ?side2 ?side3 ?side4 ?side5 ?side6 A5.out).mono ?_); (case side1 => repeat (first | exact (Kd.R_reads' HO200.out).2.2 | (with_reducible refine Kd.C_alloc ?_ _) | (with_reducible refine Kd.C_drewN ?_ _) | (with_reducible refine Kd.C_drew ?_))); (case side2 => exact (Kd.R_reads' HO200.out).2.1); (case side3 => repeat (first | exact (Kd.N_reads' HO203.out).2.2 | (with_reducible refine Kd.C_alloc ?_ _) | (with_reducible refine Kd.C_drewN ?_ _) | (with_reducible refine Kd.C_drew ?_))); (case side4 => exact (Kd.N_reads' HO203.out).2.1); (case side5 => repeat (first | exact (Kd.R_reads' HO206.out).2.2 | (with_reducible refine Kd.C_alloc ?_ _) | (with_reducible refine Kd.C_drewN ?_ _) | (with_reducible refine Kd.C_drew ?_))); (case side6 => exact (Kd.R_reads' HO206.out).2.1); rintro e w48 ⟨v211, v214, rfl, ho0, ho1, hb⟩; refine ⟨_, rfl, ?_⟩; have n0_ := Aside0.mk (Kd.R_elder' (by (with_reducible repeat (first | apply Kd.R_alloc | apply Kd.R_drewN | apply Kd.R_drew)); exact HO200.out) (Kd.R_base ho0) hb); have n1_ := Aside0.mk (Kd.N_mono (Kd.N_told (Kd.N_told (Kd.N_old (by (with_reducible repeat (first | apply Kd.N_alloc | apply Kd.N_drewN | apply Kd.N_drew)); exact HO203.out) hb) (Kd.R_base ho0)) (Kd.N_base ho1)) (fun _ h_ => h_.1)); have n2_ := Aside0.mk (Kd.R_below (by (with_reducible repeat (first | apply Kd.R_alloc | apply Kd.R_drewN | apply Kd.R_drew)); exact HO206.out) hb); have n3_ := Aside0.mk (Kd.R_lower (Kd.R_new' (Kd.R_mono (ok' := fun k_ => True) ho0 (fun _ hk_ => trivial)) (Kd.R_lt (by (with_reducible repeat (first | apply Kd.R_alloc | apply Kd.R_drewN | apply Kd.R_drew)); exact HO200.out))) (below_size (by repeat (first | (with_reducible first | exact HB.out | apply below_alloc | apply pw_below_drewN | apply below_drew1 | refine below_set ?_ GE193.out) | exact HB.out)))); have n4_ := Aside0.mk (Kd.N_lower (Kd.N_mono (ok' := fun k_ => some k_ ≠ (v211 : Value).ownBlock ∧ some k_ ≠ (.slice Ao42 t198.length co42 : Value).ownBlock ∧ some k_ ≠ (.slice Ao43 t201.length co43 : Value).ownBlock ∧ some k_ ≠ (.slice Ao47 y204.length co47 : Value).ownBlock ∧ k_ ≠ gb193) ho1 (fun k_ hk_ => ⟨hk_.2, (Kd.fresh' (Kd.R_lt (by (with_reducible repeat (first | apply Kd.R_alloc | apply Kd.R_drewN | apply Kd.R_drew)); exact HO200.out)) k_ hk_.1), (Kd.fresh' (Kd.N_lt (by (with_reducible repeat (first | apply Kd.N_alloc | apply Kd.N_drewN | apply Kd.N_drew)); exact HO203.out)) k_ hk_.1), (Kd.fresh' (Kd.R_lt (by (with_reducible repeat (first | apply Kd.R_alloc | apply Kd.R_drewN | apply Kd.R_drew)); exact HO206.out)) k_ hk_.1), (Kd.freshB (g := gb193) (o := .cells #[.int .i64 t195, .string t196, .string t197, .slice Ao42 t198.length co42, .slice Ao43 t201.length co43] 25 (0, 0)) (by (with_reducible repeat (first | refine blk_drewN ?_ _ | refine blk_drew ?_ | refine blk_alloc ?_ _)); exact BK193.out) k_ hk_.1)⟩)) (below_size (by repeat (first | (with_reducible first | exact HB.out | apply below_alloc | apply pw_below_drewN | apply below_drew1 | refine below_set ?_ GE193.out) | exact HB.out)))); have n5_ := Aside0.mk (blk_below (g := gb193) (o := .cells #[.int .i64 t195, .string t196, .string t197, .slice Ao42 t198.length co42, .slice Ao43 t201.length co43] 25 (0, 0)) (by (with_reducible repeat (first | refine blk_drewN ?_ _ | refine blk_drew ?_ | refine blk_alloc ?_ _)); exact BK193.out) hb); have n6_ := Aside0.mk (below_step (by repeat (first | (with_reducible first | exact HB.out | apply below_alloc | apply pw_below_drewN | apply below_drew1 | refine below_set ?_ GE193.out) | exact HB.out)) hb); clear HO200; clear HO203; clear HO206; clear BK193; clear HB; have HO200 := n0_; have HO203 := n1_; have HO206 := n2_; have HO212 := n3_; have HO215 := n4_; have BK193 := n5_; have HB := n6_; clear n0_ n1_ n2_ n3_ n4_ n5_ n6_; (try clear hb); (try clear hb2); (try clear hk); (try clear hi); (try clear ho0); (try clear ho1)) | ((with_reducible refine gate_dst (N := 4) rfl ?_); refine box_event ?hg (N := 4) ?hd (cs := #[.int .i64 0, .string (⟨#[]⟩ : ByteArray), .string (⟨#[]⟩ : ByteArray), .slice none 0 0, .slice none 0 0]) (t := 25) ?hr ?_; (case hd => rfl); (case hg => rfl); (case hr => first | (go_simp; done) | (go_simp; rfl)); intro gb216 hg w49 hbox hb; have n0_ := Aside0.mk (Kd.R_below (by (with_reducible repeat (first | apply Kd.R_alloc | apply Kd.R_drewN | apply Kd.R_drew)); exact HO200.out) hb); have n1_ := Aside0.mk (Kd.N_below (Kd.N_elderB (by (with_reducible repeat (first | apply Kd.N_alloc | apply Kd.N_drewN | apply Kd.N_drew)); exact HO203.out) gb216 (Nat.le_of_eq hg.symm)) hb); have n2_ := Aside0.mk (Kd.R_below (by (with_reducible repeat (first | apply Kd.R_alloc | apply Kd.R_drewN | apply Kd.R_drew)); exact HO206.out) hb); have n3_ := Aside0.mk (Kd.R_below (by (with_reducible repeat (first | apply Kd.R_alloc | apply Kd.R_drewN | apply Kd.R_drew)); exact HO212.out) hb); have n4_ := Aside0.mk (Kd.N_below (Kd.N_elderB (by (with_reducible repeat (first | apply Kd.N_alloc | apply Kd.N_drewN | apply Kd.N_drew)); exact HO215.out) gb216 (Nat.le_of_eq hg.symm)) hb); have n5_ := Aside0.mk (blk_below (g := gb193) (o := .cells #[.int .i64 t195, .string t196, .string t197, .slice Ao42 t198.length co42, .slice Ao43 t201.length co43] 25 (0, 0)) (by (with_reducible repeat (first | refine blk_drewN ?_ _ | refine blk_drew ?_ | refine blk_alloc ?_ _)); exact BK193.out) hb); have n6_ := Aside0.mk (below_step (by repeat (first | (with_reducible first | exact HB.out | apply below_alloc | apply pw_below_drewN | apply below_drew1 | refine below_set ?_ GE193.out) | exact HB.out)) hb); have n7_ := Aside0.mk (hbox); have n8_ := Aside0.mk ((by rw [hg]; exact (below_size (by repeat (first | (with_reducible first | exact HB.out | apply below_alloc | apply pw_below_drewN | apply below_drew1 | refine below_set ?_ GE193.out) | exact HB.out))) : w.heap.size ≤ gb216)); have n9_ := Aside0.mk ((by rw [hg]; exact (below_size (by repeat (first | (with_reducible first | exact HB.out | apply below_alloc | apply pw_below_drewN | apply below_drew1 | refine below_set ?_ GE193.out) | exact HB.out))) : w.heap.size ≤ gb216)); have n10_ := Aside0.mk ((by rw [hg]; exact Nat.ne_of_lt (blk_lt (g := gb193) (o := .cells #[.int .i64 t195, .string t196, .string t197, .slice Ao42 t198.length co42, .slice Ao43 t201.length co43] 25 (0, 0)) (by (with_reducible repeat (first | refine blk_drewN ?_ _ | refine blk_drew ?_ | refine blk_alloc ?_ _)); exact BK193.out)) : gb193 ≠ gb216)); have n11_ := Aside0.mk ((by rw [hg]; exact Nat.ne_of_gt (blk_lt (g := gb193) (o := .cells #[.int .i64 t195, .string t196, .string t197, .slice Ao42 t198.length co42, .slice Ao43 t201.length co43] 25 (0, 0)) (by (with_reducible repeat (first | refine blk_drewN ?_ _ | refine blk_drew ?_ | refine blk_alloc ?_ _)); exact BK193.out)) : gb216 ≠ gb193)); clear HO200; clear HO203; clear HO206; clear HO212; clear HO215; clear BK193; clear HB; have HO200 := n0_; have HO203 := n1_; have HO206 := n2_; have HO212 := n3_; have HO215 := n4_; have BK193 := n5_; have HB := n6_; have BK216 := n7_; have GW216 := n8_; have GE216 := n9_; have NB193_216 := n10_; have NB216_193 := n11_; clear n0_ n1_ n2_ n3_ n4_ n5_ n6_ n7_ n8_ n9_ n10_ n11_; clear hb hbox hg; have hnb50 := NB216_193.out; have hnc50 := NB193_216.out; have hcz51_0 : w49.cell? ⟨gb216, 0, none⟩ = some (.int .i64 0) := (blk_cell BK216.out 0).trans rfl; have hcz51_1 : w49.cell? ⟨gb216, 1, none⟩ = some (.string (⟨#[]⟩ : ByteArray)) := (blk_cell BK216.out 1).trans rfl; have hcz51_2 : w49.cell? ⟨gb216, 2, none⟩ = some (.string (⟨#[]⟩ : ByteArray)) := (blk_cell BK216.out 2).trans rfl; have hcz51_3 : w49.cell? ⟨gb216, 3, none⟩ = some (.slice none 0 0) := (blk_cell BK216.out 3).trans rfl; have hcz51_4 : w49.cell? ⟨gb216, 4, none⟩ = some (.slice none 0 0) := (blk_cell BK216.out 4).trans rfl; have hfz51_0 := blk_frozen BK216.out 0; have hfz51_1 := blk_frozen BK216.out 1; have hfz51_2 := blk_frozen BK216.out 2; have hfz51_3 := blk_frozen BK216.out 3; have hfz51_4 := blk_frozen BK216.out 4; obtain ⟨Ao52, co52, eo52⟩ := Kd.R_slice HO212.out; subst eo52; obtain ⟨Ao53, co53, eo53⟩ := Kd.N_slice HO215.out; subst eo53))
          have n0_ : Aside0 (Kd.R k53 53 (((((w49.setCell ⟨gb216, 0, none⟩ (.int .i64 t207)).setCell ⟨gb216, 1, none⟩ (.string t208)).setCell ⟨gb216, 2, none⟩ (.string t209)).setCell ⟨gb216, 3, none⟩ (.slice Ao52 t210.length co52)).setCell ⟨gb216, 4, none⟩ (.slice Ao53 t213.length co53)) w.heap.size (fun k_ => some k_ ≠ (.slice Ao52 t210.length co52 : Value).ownBlock) (.slice Ao42 t198.length co42) t198) := ⟨by (with_reducible repeat (first | apply Kd.R_alloc | apply Kd.R_drewN | apply Kd.R_drew)); exact Kd.R_mono (Kd.R_far (p := ⟨gb216, 4, none⟩) (Kd.R_far (p := ⟨gb216, 3, none⟩) (Kd.R_far (p := ⟨gb216, 2, none⟩) (Kd.R_far (p := ⟨gb216, 1, none⟩) (Kd.R_far (p := ⟨gb216, 0, none⟩) (Kd.R_types HO200.out BK216.out (by decide)) (fun _ hk => hk.2) (.int .i64 t207)) (fun _ hk => hk.2) (.string t208)) (fun _ hk => hk.2) (.string t209)) (fun _ hk => hk.2) (.slice Ao52 t210.length co52)) (fun _ hk => hk.2) (.slice Ao53 t213.length co53)) (fun _ hk => hk.1.2)⟩
          have n1_ : Aside0 (Kd.N k25 25 (((((w49.setCell ⟨gb216, 0, none⟩ (.int .i64 t207)).setCell ⟨gb216, 1, none⟩ (.string t208)).setCell ⟨gb216, 2, none⟩ (.string t209)).setCell ⟨gb216, 3, none⟩ (.slice Ao52 t210.length co52)).setCell ⟨gb216, 4, none⟩ (.slice Ao53 t213.length co53)) w.heap.size (fun k_ => some k_ ≠ (.slice Ao42 t198.length co42 : Value).ownBlock ∧ some k_ ≠ (.slice Ao47 y204.length co47 : Value).ownBlock ∧ some k_ ≠ (.slice Ao52 t210.length co52 : Value).ownBlock ∧ some k_ ≠ (.slice Ao53 t213.length co53 : Value).ownBlock ∧ k_ ≠ gb193 ∧ k_ ≠ gb216) (.slice Ao43 t201.length co43) t201) := ⟨by (with_reducible repeat (first | apply Kd.N_alloc | apply Kd.N_drewN | apply Kd.N_drew)); exact Kd.N_mono (Kd.N_far (p := ⟨gb216, 4, none⟩) (Kd.N_far (p := ⟨gb216, 3, none⟩) (Kd.N_far (p := ⟨gb216, 2, none⟩) (Kd.N_far (p := ⟨gb216, 1, none⟩) (Kd.N_far (p := ⟨gb216, 0, none⟩) (Kd.N_mono HO203.out (fun k_ hk => (⟨hk, hk.2⟩ : _ ∧ k_ ≠ gb216))) (fun _ hk => hk.2) (.int .i64 t207)) (fun _ hk => hk.2) (.string t208)) (fun _ hk => hk.2) (.string t209)) (fun _ hk => hk.2) (.slice Ao52 t210.length co52)) (fun _ hk => hk.2) (.slice Ao53 t213.length co53)) (fun _ hk => ⟨hk.1.1.1.1.1.1, ⟨hk.1.1.1.1.2, ⟨hk.1.1.1.2, ⟨hk.1.1.2, ⟨hk.1.1.1.1.1.2, hk.1.2⟩⟩⟩⟩⟩)⟩
          have n2_ : Aside0 (Kd.R Kd.string 9 (((((w49.setCell ⟨gb216, 0, none⟩ (.int .i64 t207)).setCell ⟨gb216, 1, none⟩ (.string t208)).setCell ⟨gb216, 2, none⟩ (.string t209)).setCell ⟨gb216, 3, none⟩ (.slice Ao52 t210.length co52)).setCell ⟨gb216, 4, none⟩ (.slice Ao53 t213.length co53)) w.heap.size (fun _ => True) (.slice Ao47 y204.length co47) y204) := ⟨by (with_reducible repeat (first | apply Kd.R_alloc | apply Kd.R_drewN | apply Kd.R_drew)); exact Kd.R_mono (Kd.R_far (p := ⟨gb216, 4, none⟩) (Kd.R_far (p := ⟨gb216, 3, none⟩) (Kd.R_far (p := ⟨gb216, 2, none⟩) (Kd.R_far (p := ⟨gb216, 1, none⟩) (Kd.R_far (p := ⟨gb216, 0, none⟩) (Kd.R_types HO206.out BK216.out (by decide)) (fun _ hk => hk.2) (.int .i64 t207)) (fun _ hk => hk.2) (.string t208)) (fun _ hk => hk.2) (.string t209)) (fun _ hk => hk.2) (.slice Ao52 t210.length co52)) (fun _ hk => hk.2) (.slice Ao53 t213.length co53)) (fun _ hk => trivial)⟩
          have n3_ : Aside0 (Kd.R k53 53 (((((w49.setCell ⟨gb216, 0, none⟩ (.int .i64 t207)).setCell ⟨gb216, 1, none⟩ (.string t208)).setCell ⟨gb216, 2, none⟩ (.string t209)).setCell ⟨gb216, 3, none⟩ (.slice Ao52 t210.length co52)).setCell ⟨gb216, 4, none⟩ (.slice Ao53 t213.length co53)) w.heap.size (fun k_ => some k_ ≠ (.slice Ao42 t198.length co42 : Value).ownBlock) (.slice Ao52 t210.length co52) t210) := ⟨by (with_reducible repeat (first | apply Kd.R_alloc | apply Kd.R_drewN | apply Kd.R_drew)); exact Kd.R_mono (Kd.R_far (p := ⟨gb216, 4, none⟩) (Kd.R_far (p := ⟨gb216, 3, none⟩) (Kd.R_far (p := ⟨gb216, 2, none⟩) (Kd.R_far (p := ⟨gb216, 1, none⟩) (Kd.R_far (p := ⟨gb216, 0, none⟩) (Kd.R_types HO212.out BK216.out (by decide)) (fun _ hk => hk.2) (.int .i64 t207)) (fun _ hk => hk.2) (.string t208)) (fun _ hk => hk.2) (.string t209)) (fun _ hk => hk.2) (.slice Ao52 t210.length co52)) (fun _ hk => hk.2) (.slice Ao53 t213.length co53)) (fun _ hk => hk.1.2)⟩
          have n4_ : Aside0 (Kd.N k25 25 (((((w49.setCell ⟨gb216, 0, none⟩ (.int .i64 t207)).setCell ⟨gb216, 1, none⟩ (.string t208)).setCell ⟨gb216, 2, none⟩ (.string t209)).setCell ⟨gb216, 3, none⟩ (.slice Ao52 t210.length co52)).setCell ⟨gb216, 4, none⟩ (.slice Ao53 t213.length co53)) w.heap.size (fun k_ => some k_ ≠ (.slice Ao42 t198.length co42 : Value).ownBlock ∧ some k_ ≠ (.slice Ao43 t201.length co43 : Value).ownBlock ∧ some k_ ≠ (.slice Ao47 y204.length co47 : Value).ownBlock ∧ some k_ ≠ (.slice Ao52 t210.length co52 : Value).ownBlock ∧ k_ ≠ gb193 ∧ k_ ≠ gb216) (.slice Ao53 t213.length co53) t213) := ⟨by (with_reducible repeat (first | apply Kd.N_alloc | apply Kd.N_drewN | apply Kd.N_drew)); exact Kd.N_mono (Kd.N_far (p := ⟨gb216, 4, none⟩) (Kd.N_far (p := ⟨gb216, 3, none⟩) (Kd.N_far (p := ⟨gb216, 2, none⟩) (Kd.N_far (p := ⟨gb216, 1, none⟩) (Kd.N_far (p := ⟨gb216, 0, none⟩) (Kd.N_mono HO215.out (fun k_ hk => (⟨hk, hk.2⟩ : _ ∧ k_ ≠ gb216))) (fun _ hk => hk.2) (.int .i64 t207)) (fun _ hk => hk.2) (.string t208)) (fun _ hk => hk.2) (.string t209)) (fun _ hk => hk.2) (.slice Ao52 t210.length co52)) (fun _ hk => hk.2) (.slice Ao53 t213.length co53)) (fun _ hk => ⟨hk.1.1.2.1, ⟨hk.1.1.2.2.1, ⟨hk.1.1.2.2.2.1, ⟨hk.1.1.1, ⟨hk.1.1.2.2.2.2, hk.1.2⟩⟩⟩⟩⟩)⟩
          have n5_ : Aside0 ((((((w49.setCell ⟨gb216, 0, none⟩ (.int .i64 t207)).setCell ⟨gb216, 1, none⟩ (.string t208)).setCell ⟨gb216, 2, none⟩ (.string t209)).setCell ⟨gb216, 3, none⟩ (.slice Ao52 t210.length co52)).setCell ⟨gb216, 4, none⟩ (.slice Ao53 t213.length co53)).heap[gb193]? = some (.cells #[.int .i64 t195, .string t196, .string t197, .slice Ao42 t198.length co42, .slice Ao43 t201.length co43] 25 (0, 0))) := ⟨by (with_reducible repeat (first | refine blk_drewN ?_ _ | refine blk_drew ?_ | refine blk_alloc ?_ _)); refine blk_far ?_ NB193_216.out _; (with_reducible repeat (first | refine blk_drewN ?_ _ | refine blk_drew ?_ | refine blk_alloc ?_ _)); refine blk_far ?_ NB193_216.out _; (with_reducible repeat (first | refine blk_drewN ?_ _ | refine blk_drew ?_ | refine blk_alloc ?_ _)); refine blk_far ?_ NB193_216.out _; (with_reducible repeat (first | refine blk_drewN ?_ _ | refine blk_drew ?_ | refine blk_alloc ?_ _)); refine blk_far ?_ NB193_216.out _; (with_reducible repeat (first | refine blk_drewN ?_ _ | refine blk_drew ?_ | refine blk_alloc ?_ _)); refine blk_far ?_ NB193_216.out _; (with_reducible repeat (first | refine blk_drewN ?_ _ | refine blk_drew ?_ | refine blk_alloc ?_ _)); exact BK193.out⟩
          have n6_ : Aside0 ((((((w49.setCell ⟨gb216, 0, none⟩ (.int .i64 t207)).setCell ⟨gb216, 1, none⟩ (.string t208)).setCell ⟨gb216, 2, none⟩ (.string t209)).setCell ⟨gb216, 3, none⟩ (.slice Ao52 t210.length co52)).setCell ⟨gb216, 4, none⟩ (.slice Ao53 t213.length co53)).heap[gb216]? = some (.cells #[.int .i64 t207, .string t208, .string t209, .slice Ao52 t210.length co52, .slice Ao53 t213.length co53] 25 (0, 0))) := ⟨by (with_reducible repeat (first | refine blk_drewN ?_ _ | refine blk_drew ?_ | refine blk_alloc ?_ _)); refine blk_put (cs := #[.int .i64 t207, .string t208, .string t209, .slice Ao52 t210.length co52, .slice none 0 0]) ?_ 4 _ rfl; (with_reducible repeat (first | refine blk_drewN ?_ _ | refine blk_drew ?_ | refine blk_alloc ?_ _)); refine blk_put (cs := #[.int .i64 t207, .string t208, .string t209, .slice none 0 0, .slice none 0 0]) ?_ 3 _ rfl; (with_reducible repeat (first | refine blk_drewN ?_ _ | refine blk_drew ?_ | refine blk_alloc ?_ _)); refine blk_put (cs := #[.int .i64 t207, .string t208, .string (⟨#[]⟩ : ByteArray), .slice none 0 0, .slice none 0 0]) ?_ 2 _ rfl; (with_reducible repeat (first | refine blk_drewN ?_ _ | refine blk_drew ?_ | refine blk_alloc ?_ _)); refine blk_put (cs := #[.int .i64 t207, .string (⟨#[]⟩ : ByteArray), .string (⟨#[]⟩ : ByteArray), .slice none 0 0, .slice none 0 0]) ?_ 1 _ rfl; (with_reducible repeat (first | refine blk_drewN ?_ _ | refine blk_drew ?_ | refine blk_alloc ?_ _)); refine blk_put (cs := #[.int .i64 0, .string (⟨#[]⟩ : ByteArray), .string (⟨#[]⟩ : ByteArray), .slice none 0 0, .slice none 0 0]) ?_ 0 _ rfl; (with_reducible repeat (first | refine blk_drewN ?_ _ | refine blk_drew ?_ | refine blk_alloc ?_ _)); exact BK216.out⟩
          have n7_ : Aside0 (Below w.heap.size w (((((w49.setCell ⟨gb216, 0, none⟩ (.int .i64 t207)).setCell ⟨gb216, 1, none⟩ (.string t208)).setCell ⟨gb216, 2, none⟩ (.string t209)).setCell ⟨gb216, 3, none⟩ (.slice Ao52 t210.length co52)).setCell ⟨gb216, 4, none⟩ (.slice Ao53 t213.length co53))) := ⟨by repeat (first | (with_reducible first | exact HB.out | apply below_alloc | apply pw_below_drewN | apply below_drew1 | refine below_set ?_ GE193.out | refine below_set ?_ GE216.out) | exact HB.out)⟩
          (try clear HO200)
          (try clear HO203)
          (try clear HO206)
          (try clear HO212)
          (try clear HO215)
          (try clear BK193)
          (try clear BK216)
          (try clear HB)
          generalize (((((w49.setCell ⟨gb216, 0, none⟩ (.int .i64 t207)).setCell ⟨gb216, 1, none⟩ (.string t208)).setCell ⟨gb216, 2, none⟩ (.string t209)).setCell ⟨gb216, 3, none⟩ (.slice Ao52 t210.length co52)).setCell ⟨gb216, 4, none⟩ (.slice Ao53 t213.length co53)) = w54 at n0_ n1_ n2_ n3_ n4_ n5_ n6_ n7_ ⊢
          have HO200 := n0_
          have HO203 := n1_
          have HO206 := n2_
          have HO212 := n3_
          have HO215 := n4_
          have BK193 := n5_
          have BK216 := n6_
          have HB := n7_
          clear n0_ n1_ n2_ n3_ n4_ n5_ n6_ n7_
          have n0_ := Aside0.mk (Kd.R_drew HO200.out)
          have n1_ := Aside0.mk (Kd.N_drew HO203.out)
          have n2_ := Aside0.mk (Kd.R_drew HO206.out)
          have n3_ := Aside0.mk (Kd.R_drew HO212.out)
          have n4_ := Aside0.mk (Kd.N_drew HO215.out)
          have n5_ := Aside0.mk (blk_drew BK193.out)
          have n6_ := Aside0.mk (blk_drew BK216.out)
          have n7_ := Aside0.mk (below_drew1 HB.out)
          clear HO200
          clear HO203
          clear HO206
          clear HO212
          clear HO215
          clear BK193
          clear BK216
          clear HB
          have HO200 := n0_
          have HO203 := n1_
          have HO206 := n2_
          have HO212 := n3_
          have HO215 := n4_
          have BK193 := n5_
          have BK216 := n6_
          have HB := n7_
          clear n0_ n1_ n2_ n3_ n4_ n5_ n6_ n7_
          refine start_ (n := 22) (S := fun w' => w'.cell? ⟨gb216, 0, none⟩ = some (.int .i64 t207) ∧ w'.cell? ⟨gb216, 1, none⟩ = some (.string t208) ∧ w'.cell? ⟨gb216, 2, none⟩ = some (.string t209) ∧ w'.cell? ⟨gb216, 3, none⟩ = some (.slice Ao52 t210.length co52) ∧ w'.cell? ⟨gb216, 4, none⟩ = some (.slice Ao53 t213.length co53) ∧ w'.cell? ⟨gb193, 0, none⟩ = some (.int .i64 t195) ∧ w'.cell? ⟨gb193, 1, none⟩ = some (.string t196) ∧ w'.cell? ⟨gb193, 2, none⟩ = some (.string t197) ∧ w'.cell? ⟨gb193, 3, none⟩ = some (.slice Ao42 t198.length co42) ∧ w'.cell? ⟨gb193, 4, none⟩ = some (.slice Ao43 t201.length co43)) (ds := []) #[false, false, false, false, false, false, false, false, false, false, false, false, false, false, false, false, false, false, false, false, false, false] (by kernel_rfl) rfl rfl ⟨(blk_cell BK216.out 0).trans rfl, (blk_cell BK216.out 1).trans rfl, (blk_cell BK216.out 2).trans rfl, (blk_cell BK216.out 3).trans rfl, (blk_cell BK216.out 4).trans rfl, (blk_cell BK193.out 0).trans rfl, (blk_cell BK193.out 1).trans rfl, (blk_cell BK193.out 2).trans rfl, (blk_cell BK193.out 3).trans rfl, (blk_cell BK193.out 4).trans rfl⟩ (fun hHeld => ?_); refine with_tabW laws_FnRedundant.tab6 laws_FnRedundant.bits6 (fun HT_ HW_ => ?_)
          generalize w54.drew = w55 at HO200 HO203 HO206 HO212 HO215 BK193 BK216 HB hHeld ⊢
          refine pure_ (i := 1) (N := some 15) (v := ?_) (a' := ?_) #[false, true, false, false, false, false, false, false, false, false, false, false, false, false, false, false, false, false, false, false, false, false] rfl rfl (any_of HT_.out (by kernel_rfl)) (fun _ _ _ h => h) (Or.inl ⟨by rfl, ?_⟩) ?_ ?_
          rotate_left
          · intro w'
            go_simp
            with_reducible rfl
          rotate_left
          · simp only [Act.put, List.setIfInBounds_toArray, List.set_cons_zero, List.set_cons_succ, i64_w, i32_w]
            rfl
          refine take_ (i := 0) (N := some 14) (v := ?_) (a' := ?_) #[true, true, false, false, false, false, false, false, false, false, false, false, false, false, false, false, false, false, false, false, false, false] rfl rfl (take_ofW HT_.out HW_.out (by kernel_rfl)) (fun _ _ _ h => h) (Or.inl ⟨by rfl, ?_⟩) hHeld ?_ ?_
          rotate_left
          · rintro w' ⟨s0, s1, s2, s3, s4, s5, s6, s7, s8, s9⟩
            go_simp
            with_reducible rfl
          rotate_left
          · simp only [Act.put, List.setIfInBounds_toArray, List.set_cons_zero, List.set_cons_succ, i64_w, i32_w]
            rfl
          refine one_ (i := 2) (N := some 16) #[true, true, true, false, false, false, false, false, false, false, false, false, false, false, false, false, false, false, false, false, false, false] rfl rfl (one_of HT_.out (by kernel_rfl)) (by decide) (fun K hK => ?_)
          refine goes_ Try.func12 (by kernel_rfl) rfl #[.agg #[.int .i64 t207, .string t208, .string t209, .slice Ao52 t210.length co52, .slice Ao53 t213.length co53], .slice Ao47 y204.length co47, .bool false] (by rfl) rfl rfl (by (try simp only [List.map_toArray, List.map_cons, List.map_nil]); first | done | rfl | (simp only [List.length_drop, List.length_take]; rfl)) ?_
          with_reducible refine (laws_inlineWithin.calls k t207 t208 t209 _ _ t210 _ _ t213 _ _ y204 false false _ ?side1 ?side2 ?side3 ?side4 ?side5 ?side6 A6.out).mono ?_
          (case side1 => repeat (first | exact (Kd.R_reads' HO212.out).2.2 | (with_reducible refine Kd.C_alloc ?_ _) | (with_reducible refine Kd.C_drewN ?_ _) | (with_reducible refine Kd.C_drew ?_)))
          (case side2 => exact (Kd.R_reads' HO212.out).2.1)
          (case side3 => repeat (first | exact (Kd.N_reads' HO215.out).2.2 | (with_reducible refine Kd.C_alloc ?_ _) | (with_reducible refine Kd.C_drewN ?_ _) | (with_reducible refine Kd.C_drew ?_)))
          (case side4 => exact (Kd.N_reads' HO215.out).2.1)
          (case side5 => repeat (first | exact (Kd.R_reads' HO206.out).2.2 | (with_reducible refine Kd.C_alloc ?_ _) | (with_reducible refine Kd.C_drewN ?_ _) | (with_reducible refine Kd.C_drew ?_)))
          (case side6 => exact (Kd.R_reads' HO206.out).2.1)
          rintro e w56 ⟨rfl, hb⟩
          refine ⟨_, rfl, ?_⟩
          have n0_ := Aside0.mk (Kd.R_below (by (with_reducible repeat (first | apply Kd.R_alloc | apply Kd.R_drewN | apply Kd.R_drew)); exact HO200.out) hb)
          have n1_ := Aside0.mk (Kd.N_below (by (with_reducible repeat (first | apply Kd.N_alloc | apply Kd.N_drewN | apply Kd.N_drew)); exact HO203.out) hb)
          have n2_ := Aside0.mk (Kd.R_below (by (with_reducible repeat (first | apply Kd.R_alloc | apply Kd.R_drewN | apply Kd.R_drew)); exact HO206.out) hb)
          have n3_ := Aside0.mk (Kd.R_below (by (with_reducible repeat (first | apply Kd.R_alloc | apply Kd.R_drewN | apply Kd.R_drew)); exact HO212.out) hb)
          have n4_ := Aside0.mk (Kd.N_below (by (with_reducible repeat (first | apply Kd.N_alloc | apply Kd.N_drewN | apply Kd.N_drew)); exact HO215.out) hb)
          have n5_ := Aside0.mk (blk_below (g := gb193) (o := .cells #[.int .i64 t195, .string t196, .string t197, .slice Ao42 t198.length co42, .slice Ao43 t201.length co43] 25 (0, 0)) (by (with_reducible repeat (first | refine blk_drewN ?_ _ | refine blk_drew ?_ | refine blk_alloc ?_ _)); exact BK193.out) hb)
          have n6_ := Aside0.mk (blk_below (g := gb216) (o := .cells #[.int .i64 t207, .string t208, .string t209, .slice Ao52 t210.length co52, .slice Ao53 t213.length co53] 25 (0, 0)) (by (with_reducible repeat (first | refine blk_drewN ?_ _ | refine blk_drew ?_ | refine blk_alloc ?_ _)); exact BK216.out) hb)
          have n7_ := Aside0.mk (below_step (by repeat (first | (with_reducible first | exact HB.out | apply below_alloc | apply pw_below_drewN | apply below_drew1 | refine below_set ?_ GE193.out | refine below_set ?_ GE216.out) | exact HB.out)) hb)
          clear HO200
          clear HO203
          clear HO206
          clear HO212
          clear HO215
          clear BK193
          clear BK216
          clear HB
          have HO200 := n0_
          have HO203 := n1_
          have HO206 := n2_
          have HO212 := n3_
          have HO215 := n4_
          have BK193 := n5_
          have BK216 := n6_
          have HB := n7_
          clear n0_ n1_ n2_ n3_ n4_ n5_ n6_ n7_
          (try clear hb)
          (try clear hb2)
          (try clear hk)
          (try clear hi)
          refine hK.out _ _ ⟨(blk_cell BK216.out 0).trans rfl, (blk_cell BK216.out 1).trans rfl, (blk_cell BK216.out 2).trans rfl, (blk_cell BK216.out 3).trans rfl, (blk_cell BK216.out 4).trans rfl, (blk_cell BK193.out 0).trans rfl, (blk_cell BK193.out 1).trans rfl, (blk_cell BK193.out 2).trans rfl, (blk_cell BK193.out 3).trans rfl, (blk_cell BK193.out 4).trans rfl⟩ (fun hHeld => ?_)
          clear hK K
          refine norm_ (a' := ?_) ?_ ?_
          rotate_left
          · show Act.put _ (some 16) _ = _
            simp only [Act.put, List.setIfInBounds_toArray, List.set_cons_zero, List.set_cons_succ, i64_w, i32_w]
            rfl
          refine pure_ (i := 3) (N := some 17) (v := ?_) (a' := ?_) #[true, true, true, true, false, false, false, false, false, false, false, false, false, false, false, false, false, false, false, false, false, false] rfl rfl (any_of HT_.out (by kernel_rfl)) (fun _ _ _ h => h) (Or.inl ⟨by rfl, ?_⟩) ?_ ?_
          rotate_left
          · intro w'
            go_simp
            with_reducible rfl
          rotate_left
          · simp only [Act.put, List.setIfInBounds_toArray, List.set_cons_zero, List.set_cons_succ, i64_w, i32_w]
            rfl
          refine pure_ (i := 4) (N := some 18) (v := ?_) (a' := ?_) #[true, true, true, true, true, false, false, false, false, false, false, false, false, false, false, false, false, false, false, false, false, false] rfl rfl (any_of HT_.out (by kernel_rfl)) (fun _ _ _ h => h) (Or.inl ⟨by rfl, ?_⟩) ?_ ?_
          rotate_left
          · intro w'
            go_simp
            with_reducible rfl
          rotate_left
          · simp only [Act.put, List.setIfInBounds_toArray, List.set_cons_zero, List.set_cons_succ, i64_w, i32_w]
            rfl
          refine take_ (i := 5) (N := some 19) (v := ?_) (a' := ?_) #[true, true, true, true, true, true, false, false, false, false, false, false, false, false, false, false, false, false, false, false, false, false] rfl rfl (take_ofW HT_.out HW_.out (by kernel_rfl)) (fun _ _ _ h => h) (Or.inl ⟨by rfl, ?_⟩) hHeld ?_ ?_
          rotate_left
          · rintro w' ⟨s0, s1, s2, s3, s4, s5, s6, s7, s8, s9⟩
            go_simp
            with_reducible rfl
          rotate_left
          · simp only [Act.put, List.setIfInBounds_toArray, List.set_cons_zero, List.set_cons_succ, i64_w, i32_w]
            rfl
          refine take_ (i := 7) (N := some 21) (v := ?_) (a' := ?_) #[true, true, true, true, true, true, false, true, false, false, false, false, false, false, false, false, false, false, false, false, false, false] rfl rfl (take_ofW HT_.out HW_.out (by kernel_rfl)) (fun _ _ _ h => h) (Or.inl ⟨by rfl, ?_⟩) hHeld ?_ ?_
          rotate_left
          · rintro w' ⟨s0, s1, s2, s3, s4, s5, s6, s7, s8, s9⟩
            go_simp
            with_reducible rfl
          rotate_left
          · simp only [Act.put, List.setIfInBounds_toArray, List.set_cons_zero, List.set_cons_succ, i64_w, i32_w]
            rfl
          refine one_ (i := 6) (N := some 20) #[true, true, true, true, true, true, true, true, false, false, false, false, false, false, false, false, false, false, false, false, false, false] rfl rfl (one_of HT_.out (by kernel_rfl)) (by decide) (fun K hK => ?_)
          refine goes_ Try.func13 (by kernel_rfl) rfl #[.agg #[.int .i64 t207, .string t208, .string t209, .slice Ao52 t210.length co52, .slice Ao53 t213.length co53]] (by rfl) rfl rfl (by (try simp only [List.map_toArray, List.map_cons, List.map_nil]); first | done | rfl | (simp only [List.length_drop, List.length_take]; rfl)) ?_
          with_reducible refine (spec_TextOf.calls k t207 t208 t209 _ _ t210 _ _ t213 t218 _ ?side1 ?side2 ?side3 ?side4 A29.out).mono ?_
          (case side1 => repeat (first | exact (Kd.R_reads' HO212.out).2.2 | (with_reducible refine Kd.C_alloc ?_ _) | (with_reducible refine Kd.C_drewN ?_ _) | (with_reducible refine Kd.C_drew ?_)))
          (case side2 => exact (Kd.R_reads' HO212.out).2.1)
          (case side3 => repeat (first | exact (Kd.N_reads' HO215.out).2.2 | (with_reducible refine Kd.C_alloc ?_ _) | (with_reducible refine Kd.C_drewN ?_ _) | (with_reducible refine Kd.C_drew ?_)))
          (case side4 => exact (Kd.N_reads' HO215.out).2.1)
          rintro e w57 ⟨rfl, hb⟩
          refine ⟨_, rfl, ?_⟩
          have n0_ := Aside0.mk (Kd.R_below (by (with_reducible repeat (first | apply Kd.R_alloc | apply Kd.R_drewN | apply Kd.R_drew)); exact HO200.out) hb)
          have n1_ := Aside0.mk (Kd.N_below (by (with_reducible repeat (first | apply Kd.N_alloc | apply Kd.N_drewN | apply Kd.N_drew)); exact HO203.out) hb)
          have n2_ := Aside0.mk (Kd.R_below (by (with_reducible repeat (first | apply Kd.R_alloc | apply Kd.R_drewN | apply Kd.R_drew)); exact HO206.out) hb)
          have n3_ := Aside0.mk (Kd.R_below (by (with_reducible repeat (first | apply Kd.R_alloc | apply Kd.R_drewN | apply Kd.R_drew)); exact HO212.out) hb)
          have n4_ := Aside0.mk (Kd.N_below (by (with_reducible repeat (first | apply Kd.N_alloc | apply Kd.N_drewN | apply Kd.N_drew)); exact HO215.out) hb)
          have n5_ := Aside0.mk (blk_below (g := gb193) (o := .cells #[.int .i64 t195, .string t196, .string t197, .slice Ao42 t198.length co42, .slice Ao43 t201.length co43] 25 (0, 0)) (by (with_reducible repeat (first | refine blk_drewN ?_ _ | refine blk_drew ?_ | refine blk_alloc ?_ _)); exact BK193.out) hb)
          have n6_ := Aside0.mk (blk_below (g := gb216) (o := .cells #[.int .i64 t207, .string t208, .string t209, .slice Ao52 t210.length co52, .slice Ao53 t213.length co53] 25 (0, 0)) (by (with_reducible repeat (first | refine blk_drewN ?_ _ | refine blk_drew ?_ | refine blk_alloc ?_ _)); exact BK216.out) hb)
          have n7_ := Aside0.mk (below_step (by repeat (first | (with_reducible first | exact HB.out | apply below_alloc | apply pw_below_drewN | apply below_drew1 | refine below_set ?_ GE193.out | refine below_set ?_ GE216.out) | exact HB.out)) hb)
          clear HO200
          clear HO203
          clear HO206
          clear HO212
          clear HO215
          clear BK193
          clear BK216
          clear HB
          have HO200 := n0_
          have HO203 := n1_
          have HO206 := n2_
          have HO212 := n3_
          have HO215 := n4_
          have BK193 := n5_
          have BK216 := n6_
          have HB := n7_
          clear n0_ n1_ n2_ n3_ n4_ n5_ n6_ n7_
          (try clear hb)
          (try clear hb2)
          (try clear hk)
          (try clear hi)
          refine hK.out _ _ ⟨(blk_cell BK216.out 0).trans rfl, (blk_cell BK216.out 1).trans rfl, (blk_cell BK216.out 2).trans rfl, (blk_cell BK216.out 3).trans rfl, (blk_cell BK216.out 4).trans rfl, (blk_cell BK193.out 0).trans rfl, (blk_cell BK193.out 1).trans rfl, (blk_cell BK193.out 2).trans rfl, (blk_cell BK193.out 3).trans rfl, (blk_cell BK193.out 4).trans rfl⟩ (fun hHeld => ?_)
          clear hK K
          refine norm_ (a' := ?_) ?_ ?_
          rotate_left
          · show Act.put _ (some 20) _ = _
            simp only [Act.put, List.setIfInBounds_toArray, List.set_cons_zero, List.set_cons_succ, i64_w, i32_w]
            rfl
          refine one_ (i := 8) (N := some 22) #[true, true, true, true, true, true, true, true, true, false, false, false, false, false, false, false, false, false, false, false, false, false] rfl rfl (one_of HT_.out (by kernel_rfl)) (by decide) (fun K hK => ?_)
          refine goes_ Try.func13 (by kernel_rfl) rfl #[.agg #[.int .i64 t195, .string t196, .string t197, .slice Ao42 t198.length co42, .slice Ao43 t201.length co43]] (by rfl) rfl rfl (by (try simp only [List.map_toArray, List.map_cons, List.map_nil]); first | done | rfl | (simp only [List.length_drop, List.length_take]; rfl)) ?_
          with_reducible refine (spec_TextOf.calls k t195 t196 t197 _ _ t198 _ _ t201 t219 _ ?side1 ?side2 ?side3 ?side4 A30.out).mono ?_
          (case side1 => repeat (first | exact (Kd.R_reads' HO200.out).2.2 | (with_reducible refine Kd.C_alloc ?_ _) | (with_reducible refine Kd.C_drewN ?_ _) | (with_reducible refine Kd.C_drew ?_)))
          (case side2 => exact (Kd.R_reads' HO200.out).2.1)
          (case side3 => repeat (first | exact (Kd.N_reads' HO203.out).2.2 | (with_reducible refine Kd.C_alloc ?_ _) | (with_reducible refine Kd.C_drewN ?_ _) | (with_reducible refine Kd.C_drew ?_)))
          (case side4 => exact (Kd.N_reads' HO203.out).2.1)
          rintro e w58 ⟨rfl, hb⟩
          refine ⟨_, rfl, ?_⟩
          have n0_ := Aside0.mk (Kd.R_below (by (with_reducible repeat (first | apply Kd.R_alloc | apply Kd.R_drewN | apply Kd.R_drew)); exact HO200.out) hb)
          have n1_ := Aside0.mk (Kd.N_below (by (with_reducible repeat (first | apply Kd.N_alloc | apply Kd.N_drewN | apply Kd.N_drew)); exact HO203.out) hb)
          have n2_ := Aside0.mk (Kd.R_below (by (with_reducible repeat (first | apply Kd.R_alloc | apply Kd.R_drewN | apply Kd.R_drew)); exact HO206.out) hb)
          have n3_ := Aside0.mk (Kd.R_below (by (with_reducible repeat (first | apply Kd.R_alloc | apply Kd.R_drewN | apply Kd.R_drew)); exact HO212.out) hb)
          have n4_ := Aside0.mk (Kd.N_below (by (with_reducible repeat (first | apply Kd.N_alloc | apply Kd.N_drewN | apply Kd.N_drew)); exact HO215.out) hb)
          have n5_ := Aside0.mk (blk_below (g := gb193) (o := .cells #[.int .i64 t195, .string t196, .string t197, .slice Ao42 t198.length co42, .slice Ao43 t201.length co43] 25 (0, 0)) (by (with_reducible repeat (first | refine blk_drewN ?_ _ | refine blk_drew ?_ | refine blk_alloc ?_ _)); exact BK193.out) hb)
          have n6_ := Aside0.mk (blk_below (g := gb216) (o := .cells #[.int .i64 t207, .string t208, .string t209, .slice Ao52 t210.length co52, .slice Ao53 t213.length co53] 25 (0, 0)) (by (with_reducible repeat (first | refine blk_drewN ?_ _ | refine blk_drew ?_ | refine blk_alloc ?_ _)); exact BK216.out) hb)
          have n7_ := Aside0.mk (below_step (by repeat (first | (with_reducible first | exact HB.out | apply below_alloc | apply pw_below_drewN | apply below_drew1 | refine below_set ?_ GE193.out | refine below_set ?_ GE216.out) | exact HB.out)) hb)
          clear HO200
          clear HO203
          clear HO206
          clear HO212
          clear HO215
          clear BK193
          clear BK216
          clear HB
          have HO200 := n0_
          have HO203 := n1_
          have HO206 := n2_
          have HO212 := n3_
          have HO215 := n4_
          have BK193 := n5_
          have BK216 := n6_
          have HB := n7_
          clear n0_ n1_ n2_ n3_ n4_ n5_ n6_ n7_
          (try clear hb)
          (try clear hb2)
          (try clear hk)
          (try clear hi)
          refine hK.out _ _ ⟨(blk_cell BK216.out 0).trans rfl, (blk_cell BK216.out 1).trans rfl, (blk_cell BK216.out 2).trans rfl, (blk_cell BK216.out 3).trans rfl, (blk_cell BK216.out 4).trans rfl, (blk_cell BK193.out 0).trans rfl, (blk_cell BK193.out 1).trans rfl, (blk_cell BK193.out 2).trans rfl, (blk_cell BK193.out 3).trans rfl, (blk_cell BK193.out 4).trans rfl⟩ (fun hHeld => ?_)
          clear hK K
          refine norm_ (a' := ?_) ?_ ?_
          rotate_left
          · show Act.put _ (some 22) _ = _
            simp only [Act.put, List.setIfInBounds_toArray, List.set_cons_zero, List.set_cons_succ, i64_w, i32_w]
            rfl
          refine pure_ (i := 9) (N := some 23) (v := ?_) (a' := ?_) #[true, true, true, true, true, true, true, true, true, true, false, false, false, false, false, false, false, false, false, false, false, false] rfl rfl (any_of HT_.out (by kernel_rfl)) (fun _ _ _ h => h) (Or.inl ⟨by rfl, ?_⟩) ?_ ?_
          rotate_left
          · intro w'
            go_simp
            with_reducible rfl
          rotate_left
          · simp only [Act.put, List.setIfInBounds_toArray, List.set_cons_zero, List.set_cons_succ, i64_w, i32_w]
            rfl
          refine pure_ (i := 10) (N := some 24) (v := ?_) (a' := ?_) #[true, true, true, true, true, true, true, true, true, true, true, false, false, false, false, false, false, false, false, false, false, false] rfl rfl (any_of HT_.out (by kernel_rfl)) (fun _ _ _ h => h) (Or.inl ⟨by rfl, ?_⟩) ?_ ?_
          rotate_left
          · intro w'
            go_simp
            with_reducible rfl
          rotate_left
          · simp only [Act.put, List.setIfInBounds_toArray, List.set_cons_zero, List.set_cons_succ, i64_w, i32_w]
            rfl
          refine pure_ (i := 11) (N := some 25) (v := ?_) (a' := ?_) #[true, true, true, true, true, true, true, true, true, true, true, true, false, false, false, false, false, false, false, false, false, false] rfl rfl (any_of HT_.out (by kernel_rfl)) (fun _ _ _ h => h) (Or.inl ⟨by rfl, ?_⟩) ?_ ?_
          rotate_left
          · intro w'
            go_simp
            with_reducible rfl
          rotate_left
          · simp only [Act.put, List.setIfInBounds_toArray, List.set_cons_zero, List.set_cons_succ, i64_w, i32_w]
            rfl
          refine pure_ (i := 13) (N := some 27) (v := ?_) (a' := ?_) #[true, true, true, true, true, true, true, true, true, true, true, true, false, true, false, false, false, false, false, false, false, false] rfl rfl (any_of HT_.out (by kernel_rfl)) (fun _ _ _ h => h) (Or.inl ⟨by rfl, ?_⟩) ?_ ?_
          rotate_left
          · intro w'
            go_simp
            with_reducible rfl
          rotate_left
          · simp only [Act.put, List.setIfInBounds_toArray, List.set_cons_zero, List.set_cons_succ, i64_w, i32_w]
            rfl
          refine take_ (i := 12) (N := some 26) (v := ?_) (a' := ?_) #[true, true, true, true, true, true, true, true, true, true, true, true, true, true, false, false, false, false, false, false, false, false] rfl rfl (take_ofW HT_.out HW_.out (by kernel_rfl)) (fun _ _ _ h => h) (Or.inl ⟨by rfl, ?_⟩) hHeld ?_ ?_
          rotate_left
          · rintro w' ⟨s0, s1, s2, s3, s4, s5, s6, s7, s8, s9⟩
            go_simp
            with_reducible rfl
          rotate_left
          · simp only [Act.put, List.setIfInBounds_toArray, List.set_cons_zero, List.set_cons_succ, i64_w, i32_w]
            rfl
          refine take_ (i := 15) (N := some 29) (v := ?_) (a' := ?_) #[true, true, true, true, true, true, true, true, true, true, true, true, true, true, false, true, false, false, false, false, false, false] rfl rfl (take_ofW HT_.out HW_.out (by kernel_rfl)) (fun _ _ _ h => h) (Or.inl ⟨by rfl, ?_⟩) hHeld ?_ ?_
          rotate_left
          · rintro w' ⟨s0, s1, s2, s3, s4, s5, s6, s7, s8, s9⟩
            go_simp
            with_reducible rfl
          rotate_left
          · simp only [Act.put, List.setIfInBounds_toArray, List.set_cons_zero, List.set_cons_succ, i64_w, i32_w]
            rfl
          refine one_ (i := 14) (N := some 28) #[true, true, true, true, true, true, true, true, true, true, true, true, true, true, true, true, false, false, false, false, false, false] rfl rfl (one_of HT_.out (by kernel_rfl)) (by decide) (fun K hK => ?_)
          refine goes_ Try.func11 (by kernel_rfl) rfl #[.agg #[.int .i64 t207, .string t208, .string t209, .slice Ao52 t210.length co52, .slice Ao53 t213.length co53], .slice Ao47 y204.length co47] (by rfl) rfl rfl (by (try simp only [List.map_toArray, List.map_cons, List.map_nil]); first | done | rfl | (simp only [List.length_drop, List.length_take]; rfl)) ?_
          with_reducible refine (impl_Redundant.calls k t207 t208 t209 _ _ t210 _ _ t213 _ _ y204 t220 t221 t222 t223 t226 _ ?side1 ?side2 ?side3 ?side4 ?side5 ?side6 A32.out).mono ?_
          (case side1 => repeat (first | exact (Kd.R_reads' HO212.out).2.2 | (with_reducible refine Kd.C_alloc ?_ _) | (with_reducible refine Kd.C_drewN ?_ _) | (with_reducible refine Kd.C_drew ?_)))
          (case side2 => exact (Kd.R_reads' HO212.out).2.1)
          (case side3 => repeat (first | exact (Kd.N_reads' HO215.out).2.2 | (with_reducible refine Kd.C_alloc ?_ _) | (with_reducible refine Kd.C_drewN ?_ _) | (with_reducible refine Kd.C_drew ?_)))
          (case side4 => exact (Kd.N_reads' HO215.out).2.1)
          (case side5 => repeat (first | exact (Kd.R_reads' HO206.out).2.2 | (with_reducible refine Kd.C_alloc ?_ _) | (with_reducible refine Kd.C_drewN ?_ _) | (with_reducible refine Kd.C_drew ?_)))
          (case side6 => exact (Kd.R_reads' HO206.out).2.1)
          rintro e w59 ⟨v224, v227, rfl, ho0, ho1, hb⟩
          refine ⟨_, rfl, ?_⟩
          have n0_ := Aside0.mk (Kd.R_elder' (by (with_reducible repeat (first | apply Kd.R_alloc | apply Kd.R_drewN | apply Kd.R_drew)); exact HO200.out) (Kd.R_base ho0) hb)
          have n1_ := Aside0.mk (Kd.N_mono (Kd.N_told (Kd.N_told (Kd.N_old (by (with_reducible repeat (first | apply Kd.N_alloc | apply Kd.N_drewN | apply Kd.N_drew)); exact HO203.out) hb) (Kd.R_base ho0)) (Kd.N_base ho1)) (fun _ h_ => h_.1))
          have n2_ := Aside0.mk (Kd.R_below (by (with_reducible repeat (first | apply Kd.R_alloc | apply Kd.R_drewN | apply Kd.R_drew)); exact HO206.out) hb)
          have n3_ := Aside0.mk (Kd.R_elder' (by (with_reducible repeat (first | apply Kd.R_alloc | apply Kd.R_drewN | apply Kd.R_drew)); exact HO212.out) (Kd.R_base ho0) hb)
          have n4_ := Aside0.mk (Kd.N_mono (Kd.N_told (Kd.N_told (Kd.N_old (by (with_reducible repeat (first | apply Kd.N_alloc | apply Kd.N_drewN | apply Kd.N_drew)); exact HO215.out) hb) (Kd.R_base ho0)) (Kd.N_base ho1)) (fun _ h_ => h_.1))
          have n5_ := Aside0.mk (Kd.R_lower (Kd.R_new' (Kd.R_new' (Kd.R_mono (ok' := fun k_ => True) ho0 (fun _ hk_ => trivial)) (Kd.R_lt (by (with_reducible repeat (first | apply Kd.R_alloc | apply Kd.R_drewN | apply Kd.R_drew)); exact HO200.out))) (Kd.R_lt (by (with_reducible repeat (first | apply Kd.R_alloc | apply Kd.R_drewN | apply Kd.R_drew)); exact HO212.out))) (below_size (by repeat (first | (with_reducible first | exact HB.out | apply below_alloc | apply pw_below_drewN | apply below_drew1 | refine below_set ?_ GE193.out | refine below_set ?_ GE216.out) | exact HB.out))))
          have n6_ := Aside0.mk (Kd.N_lower (Kd.N_mono (ok' := fun k_ => some k_ ≠ (v224 : Value).ownBlock ∧ some k_ ≠ (.slice Ao42 t198.length co42 : Value).ownBlock ∧ some k_ ≠ (.slice Ao43 t201.length co43 : Value).ownBlock ∧ some k_ ≠ (.slice Ao47 y204.length co47 : Value).ownBlock ∧ some k_ ≠ (.slice Ao52 t210.length co52 : Value).ownBlock ∧ some k_ ≠ (.slice Ao53 t213.length co53 : Value).ownBlock ∧ k_ ≠ gb193 ∧ k_ ≠ gb216) ho1 (fun k_ hk_ => ⟨hk_.2, (Kd.fresh' (Kd.R_lt (by (with_reducible repeat (first | apply Kd.R_alloc | apply Kd.R_drewN | apply Kd.R_drew)); exact HO200.out)) k_ hk_.1), (Kd.fresh' (Kd.N_lt (by (with_reducible repeat (first | apply Kd.N_alloc | apply Kd.N_drewN | apply Kd.N_drew)); exact HO203.out)) k_ hk_.1), (Kd.fresh' (Kd.R_lt (by (with_reducible repeat (first | apply Kd.R_alloc | apply Kd.R_drewN | apply Kd.R_drew)); exact HO206.out)) k_ hk_.1), (Kd.fresh' (Kd.R_lt (by (with_reducible repeat (first | apply Kd.R_alloc | apply Kd.R_drewN | apply Kd.R_drew)); exact HO212.out)) k_ hk_.1), (Kd.fresh' (Kd.N_lt (by (with_reducible repeat (first | apply Kd.N_alloc | apply Kd.N_drewN | apply Kd.N_drew)); exact HO215.out)) k_ hk_.1), (Kd.freshB (g := gb193) (o := .cells #[.int .i64 t195, .string t196, .string t197, .slice Ao42 t198.length co42, .slice Ao43 t201.length co43] 25 (0, 0)) (by (with_reducible repeat (first | refine blk_drewN ?_ _ | refine blk_drew ?_ | refine blk_alloc ?_ _)); exact BK193.out) k_ hk_.1), (Kd.freshB (g := gb216) (o := .cells #[.int .i64 t207, .string t208, .string t209, .slice Ao52 t210.length co52, .slice Ao53 t213.length co53] 25 (0, 0)) (by (with_reducible repeat (first | refine blk_drewN ?_ _ | refine blk_drew ?_ | refine blk_alloc ?_ _)); exact BK216.out) k_ hk_.1)⟩)) (below_size (by repeat (first | (with_reducible first | exact HB.out | apply below_alloc | apply pw_below_drewN | apply below_drew1 | refine below_set ?_ GE193.out | refine below_set ?_ GE216.out) | exact HB.out))))
          have n7_ := Aside0.mk (blk_below (g := gb193) (o := .cells #[.int .i64 t195, .string t196, .string t197, .slice Ao42 t198.length co42, .slice Ao43 t201.length co43] 25 (0, 0)) (by (with_reducible repeat (first | refine blk_drewN ?_ _ | refine blk_drew ?_ | refine blk_alloc ?_ _)); exact BK193.out) hb)
          have n8_ := Aside0.mk (blk_below (g := gb216) (o := .cells #[.int .i64 t207, .string t208, .string t209, .slice Ao52 t210.length co52, .slice Ao53 t213.length co53] 25 (0, 0)) (by (with_reducible repeat (first | refine blk_drewN ?_ _ | refine blk_drew ?_ | refine blk_alloc ?_ _)); exact BK216.out) hb)
          have n9_ := Aside0.mk (below_step (by repeat (first | (with_reducible first | exact HB.out | apply below_alloc | apply pw_below_drewN | apply below_drew1 | refine below_set ?_ GE193.out | refine below_set ?_ GE216.out) | exact HB.out)) hb)
          clear HO200
          clear HO203
          clear HO206
          clear HO212
          clear HO215
          clear BK193
          clear BK216
          clear HB
          have HO200 := n0_
          have HO203 := n1_
          have HO206 := n2_
          have HO212 := n3_
          have HO215 := n4_
          have HO225 := n5_
          have HO228 := n6_
          have BK193 := n7_
          have BK216 := n8_
          have HB := n9_
          clear n0_ n1_ n2_ n3_ n4_ n5_ n6_ n7_ n8_ n9_
          (try clear hb)
          (try clear hb2)
          (try clear hk)
          (try clear hi)
          (try clear ho0)
          (try clear ho1)
          obtain ⟨Ao60, co60, eo60⟩ := Kd.R_slice HO225.out
          (first | subst eo60 | (injection eo60 with f1_ f2_ f3_; have f4_ := f1_.symm; have f5_ := f3_.symm; clear f1_ f2_ f3_; subst f4_; subst f5_))
          obtain ⟨Ao61, co61, eo61⟩ := Kd.N_slice HO228.out
          (first | subst eo61 | (injection eo61 with f1_ f2_ f3_; have f4_ := f1_.symm; have f5_ := f3_.symm; clear f1_ f2_ f3_; subst f4_; subst f5_))
          refine hK.out _ _ ⟨(blk_cell BK216.out 0).trans rfl, (blk_cell BK216.out 1).trans rfl, (blk_cell BK216.out 2).trans rfl, (blk_cell BK216.out 3).trans rfl, (blk_cell BK216.out 4).trans rfl, (blk_cell BK193.out 0).trans rfl, (blk_cell BK193.out 1).trans rfl, (blk_cell BK193.out 2).trans rfl, (blk_cell BK193.out 3).trans rfl, (blk_cell BK193.out 4).trans rfl⟩ (fun hHeld => ?_)
          clear hK K
          refine norm_ (a' := ?_) ?_ ?_
          rotate_left
          · show Act.put _ (some 28) _ = _
            simp only [Act.put, List.setIfInBounds_toArray, List.set_cons_zero, List.set_cons_succ, i64_w, i32_w]
            rfl
          refine one_ (i := 16) (N := some 30) #[true, true, true, true, true, true, true, true, true, true, true, true, true, true, true, true, true, false, false, false, false, false] rfl rfl (one_of HT_.out (by kernel_rfl)) (by decide) (fun K hK => ?_)
          refine goes_ Try.func14 (by kernel_rfl) rfl #[.agg #[.int .i64 t220, .string t221, .string t222, .slice Ao60 t223.length co60, .slice Ao61 t226.length co61], .agg #[.int .i64 t207, .string t208, .string t209, .slice Ao52 t210.length co52, .slice Ao53 t213.length co53]] (by rfl) rfl rfl (by (try simp only [List.map_toArray, List.map_cons, List.map_nil]); first | done | rfl | (simp only [List.length_drop, List.length_take]; rfl)) ?_
          with_reducible refine (spec_SameTree.calls k t220 t221 t222 _ _ t223 _ _ t226 t207 t208 t209 _ _ t210 _ _ t213 true _ ?side1 ?side2 ?side3 ?side4 ?side5 ?side6 ?side7 ?side8 A33.out).mono ?_
          (case side1 => repeat (first | exact (Kd.R_reads' HO225.out).2.2 | (with_reducible refine Kd.C_alloc ?_ _) | (with_reducible refine Kd.C_drewN ?_ _) | (with_reducible refine Kd.C_drew ?_)))
          (case side2 => exact (Kd.R_reads' HO225.out).2.1)
          (case side3 => repeat (first | exact (Kd.N_reads' HO228.out).2.2 | (with_reducible refine Kd.C_alloc ?_ _) | (with_reducible refine Kd.C_drewN ?_ _) | (with_reducible refine Kd.C_drew ?_)))
          (case side4 => exact (Kd.N_reads' HO228.out).2.1)
          (case side5 => repeat (first | exact (Kd.R_reads' HO212.out).2.2 | (with_reducible refine Kd.C_alloc ?_ _) | (with_reducible refine Kd.C_drewN ?_ _) | (with_reducible refine Kd.C_drew ?_)))
          (case side6 => exact (Kd.R_reads' HO212.out).2.1)
          (case side7 => repeat (first | exact (Kd.N_reads' HO215.out).2.2 | (with_reducible refine Kd.C_alloc ?_ _) | (with_reducible refine Kd.C_drewN ?_ _) | (with_reducible refine Kd.C_drew ?_)))
          (case side8 => exact (Kd.N_reads' HO215.out).2.1)
          rintro e w62 ⟨rfl, hb⟩
          refine ⟨_, rfl, ?_⟩
          have n0_ := Aside0.mk (Kd.R_below (by (with_reducible repeat (first | apply Kd.R_alloc | apply Kd.R_drewN | apply Kd.R_drew)); exact HO200.out) hb)
          have n1_ := Aside0.mk (Kd.N_below (by (with_reducible repeat (first | apply Kd.N_alloc | apply Kd.N_drewN | apply Kd.N_drew)); exact HO203.out) hb)
          have n2_ := Aside0.mk (Kd.R_below (by (with_reducible repeat (first | apply Kd.R_alloc | apply Kd.R_drewN | apply Kd.R_drew)); exact HO206.out) hb)
          have n3_ := Aside0.mk (Kd.R_below (by (with_reducible repeat (first | apply Kd.R_alloc | apply Kd.R_drewN | apply Kd.R_drew)); exact HO212.out) hb)
          have n4_ := Aside0.mk (Kd.N_below (by (with_reducible repeat (first | apply Kd.N_alloc | apply Kd.N_drewN | apply Kd.N_drew)); exact HO215.out) hb)
          have n5_ := Aside0.mk (Kd.R_below (by (with_reducible repeat (first | apply Kd.R_alloc | apply Kd.R_drewN | apply Kd.R_drew)); exact HO225.out) hb)
          have n6_ := Aside0.mk (Kd.N_below (by (with_reducible repeat (first | apply Kd.N_alloc | apply Kd.N_drewN | apply Kd.N_drew)); exact HO228.out) hb)
          have n7_ := Aside0.mk (blk_below (g := gb193) (o := .cells #[.int .i64 t195, .string t196, .string t197, .slice Ao42 t198.length co42, .slice Ao43 t201.length co43] 25 (0, 0)) (by (with_reducible repeat (first | refine blk_drewN ?_ _ | refine blk_drew ?_ | refine blk_alloc ?_ _)); exact BK193.out) hb)
          have n8_ := Aside0.mk (blk_below (g := gb216) (o := .cells #[.int .i64 t207, .string t208, .string t209, .slice Ao52 t210.length co52, .slice Ao53 t213.length co53] 25 (0, 0)) (by (with_reducible repeat (first | refine blk_drewN ?_ _ | refine blk_drew ?_ | refine blk_alloc ?_ _)); exact BK216.out) hb)
          have n9_ := Aside0.mk (below_step (by repeat (first | (with_reducible first | exact HB.out | apply below_alloc | apply pw_below_drewN | apply below_drew1 | refine below_set ?_ GE193.out | refine below_set ?_ GE216.out) | exact HB.out)) hb)
          clear HO200
          clear HO203
          clear HO206
          clear HO212
          clear HO215
          clear HO225
          clear HO228
          clear BK193
          clear BK216
          clear HB
          have HO200 := n0_
          have HO203 := n1_
          have HO206 := n2_
          have HO212 := n3_
          have HO215 := n4_
          have HO225 := n5_
          have HO228 := n6_
          have BK193 := n7_
          have BK216 := n8_
          have HB := n9_
          clear n0_ n1_ n2_ n3_ n4_ n5_ n6_ n7_ n8_ n9_
          (try clear hb)
          (try clear hb2)
          (try clear hk)
          (try clear hi)
          refine hK.out _ _ ⟨(blk_cell BK216.out 0).trans rfl, (blk_cell BK216.out 1).trans rfl, (blk_cell BK216.out 2).trans rfl, (blk_cell BK216.out 3).trans rfl, (blk_cell BK216.out 4).trans rfl, (blk_cell BK193.out 0).trans rfl, (blk_cell BK193.out 1).trans rfl, (blk_cell BK193.out 2).trans rfl, (blk_cell BK193.out 3).trans rfl, (blk_cell BK193.out 4).trans rfl⟩ (fun hHeld => ?_)
          clear hK K
          refine norm_ (a' := ?_) ?_ ?_
          rotate_left
          · show Act.put _ (some 30) _ = _
            simp only [Act.put, List.setIfInBounds_toArray, List.set_cons_zero, List.set_cons_succ, i64_w, i32_w]
            rfl
          refine pure_ (i := 17) (N := some 31) (v := ?_) (a' := ?_) #[true, true, true, true, true, true, true, true, true, true, true, true, true, true, true, true, true, true, false, false, false, false] rfl rfl (any_of HT_.out (by kernel_rfl)) (fun _ _ _ h => h) (Or.inl ⟨by rfl, ?_⟩) ?_ ?_
          rotate_left
          · intro w'
            go_simp
            with_reducible rfl
          rotate_left
          · simp only [Act.put, List.setIfInBounds_toArray, List.set_cons_zero, List.set_cons_succ, i64_w, i32_w]
            rfl
          refine pure_ (i := 18) (N := some 32) (v := ?_) (a' := ?_) #[true, true, true, true, true, true, true, true, true, true, true, true, true, true, true, true, true, true, true, false, false, false] rfl rfl (any_of HT_.out (by kernel_rfl)) (fun _ _ _ h => h) (Or.inl ⟨by rfl, ?_⟩) ?_ ?_
          rotate_left
          · intro w'
            go_simp
            with_reducible rfl
          rotate_left
          · simp only [Act.put, List.setIfInBounds_toArray, List.set_cons_zero, List.set_cons_succ, i64_w, i32_w]
            rfl
          refine one_ (i := 19) (N := some 33) #[true, true, true, true, true, true, true, true, true, true, true, true, true, true, true, true, true, true, true, true, false, false] rfl rfl (one_of HT_.out (by kernel_rfl)) (by decide) (fun K hK => ?_)
          refine goes_ Try.func15 (by kernel_rfl) rfl #[] (by rfl) rfl rfl (by (try simp only [List.map_toArray, List.map_cons, List.map_nil]); first | done | rfl | (simp only [List.length_drop, List.length_take]; rfl)) ?_
          with_reducible refine (laws_inlineLives.calls k  t230 _ A35.out).mono ?_
          rintro e w63 ⟨rfl, hb⟩
          refine ⟨_, rfl, ?_⟩
          have n0_ := Aside0.mk (Kd.R_below (by (with_reducible repeat (first | apply Kd.R_alloc | apply Kd.R_drewN | apply Kd.R_drew)); exact HO200.out) hb)
          have n1_ := Aside0.mk (Kd.N_below (by (with_reducible repeat (first | apply Kd.N_alloc | apply Kd.N_drewN | apply Kd.N_drew)); exact HO203.out) hb)
          have n2_ := Aside0.mk (Kd.R_below (by (with_reducible repeat (first | apply Kd.R_alloc | apply Kd.R_drewN | apply Kd.R_drew)); exact HO206.out) hb)
          have n3_ := Aside0.mk (Kd.R_below (by (with_reducible repeat (first | apply Kd.R_alloc | apply Kd.R_drewN | apply Kd.R_drew)); exact HO212.out) hb)
          have n4_ := Aside0.mk (Kd.N_below (by (with_reducible repeat (first | apply Kd.N_alloc | apply Kd.N_drewN | apply Kd.N_drew)); exact HO215.out) hb)
          have n5_ := Aside0.mk (Kd.R_below (by (with_reducible repeat (first | apply Kd.R_alloc | apply Kd.R_drewN | apply Kd.R_drew)); exact HO225.out) hb)
          have n6_ := Aside0.mk (Kd.N_below (by (with_reducible repeat (first | apply Kd.N_alloc | apply Kd.N_drewN | apply Kd.N_drew)); exact HO228.out) hb)
          have n7_ := Aside0.mk (blk_below (g := gb193) (o := .cells #[.int .i64 t195, .string t196, .string t197, .slice Ao42 t198.length co42, .slice Ao43 t201.length co43] 25 (0, 0)) (by (with_reducible repeat (first | refine blk_drewN ?_ _ | refine blk_drew ?_ | refine blk_alloc ?_ _)); exact BK193.out) hb)
          have n8_ := Aside0.mk (blk_below (g := gb216) (o := .cells #[.int .i64 t207, .string t208, .string t209, .slice Ao52 t210.length co52, .slice Ao53 t213.length co53] 25 (0, 0)) (by (with_reducible repeat (first | refine blk_drewN ?_ _ | refine blk_drew ?_ | refine blk_alloc ?_ _)); exact BK216.out) hb)
          have n9_ := Aside0.mk (below_step (by repeat (first | (with_reducible first | exact HB.out | apply below_alloc | apply pw_below_drewN | apply below_drew1 | refine below_set ?_ GE193.out | refine below_set ?_ GE216.out) | exact HB.out)) hb)
          clear HO200
          clear HO203
          clear HO206
          clear HO212
          clear HO215
          clear HO225
          clear HO228
          clear BK193
          clear BK216
          clear HB
          have HO200 := n0_
          have HO203 := n1_
          have HO206 := n2_
          have HO212 := n3_
          have HO215 := n4_
          have HO225 := n5_
          have HO228 := n6_
          have BK193 := n7_
          have BK216 := n8_
          have HB := n9_
          clear n0_ n1_ n2_ n3_ n4_ n5_ n6_ n7_ n8_ n9_
          (try clear hb)
          (try clear hb2)
          (try clear hk)
          (try clear hi)
          refine hK.out _ _ ⟨(blk_cell BK216.out 0).trans rfl, (blk_cell BK216.out 1).trans rfl, (blk_cell BK216.out 2).trans rfl, (blk_cell BK216.out 3).trans rfl, (blk_cell BK216.out 4).trans rfl, (blk_cell BK193.out 0).trans rfl, (blk_cell BK193.out 1).trans rfl, (blk_cell BK193.out 2).trans rfl, (blk_cell BK193.out 3).trans rfl, (blk_cell BK193.out 4).trans rfl⟩ (fun hHeld => ?_)
          clear hK K
          refine norm_ (a' := ?_) ?_ ?_
          rotate_left
          · show Act.put _ (some 33) _ = _
            simp only [Act.put, List.setIfInBounds_toArray, List.set_cons_zero, List.set_cons_succ, i64_w, i32_w]
            rfl
          refine pure_ (i := 20) (N := some 34) (v := ?_) (a' := ?_) #[true, true, true, true, true, true, true, true, true, true, true, true, true, true, true, true, true, true, true, true, true, false] rfl rfl (any_of HT_.out (by kernel_rfl)) (fun _ _ _ h => h) (Or.inl ⟨by rfl, ?_⟩) ?_ ?_
          rotate_left
          · intro w'
            go_simp
            with_reducible rfl
          rotate_left
          · simp only [Act.put, List.setIfInBounds_toArray, List.set_cons_zero, List.set_cons_succ, i64_w, i32_w]
            rfl
          refine pure_ (i := 21) (N := some 2) (v := ?_) (a' := ?_) #[true, true, true, true, true, true, true, true, true, true, true, true, true, true, true, true, true, true, true, true, true, true] rfl rfl (any_of HT_.out (by kernel_rfl)) (fun _ _ _ h => h) (Or.inl ⟨by rfl, ?_⟩) ?_ ?_
          rotate_left
          · intro w'
            go_simp
            with_reducible rfl
          rotate_left
          · simp only [Act.put, List.setIfInBounds_toArray, List.set_cons_zero, List.set_cons_succ, i64_w, i32_w]
            rfl
          refine done_ (done_of HT_.out (by kernel_rfl)) ?_
          try go_wp2
          go_ret
          exact ⟨by first | rfl | (simp [errW_none, errW_some] <;> rfl) | (simp [*, errW_none, errW_some] <;> rfl), by repeat (first | (with_reducible first | exact HB.out | apply below_alloc | apply pw_below_drewN | apply below_drew1 | refine below_set ?_ GE193.out | refine below_set ?_ GE216.out) | exact HB.out)⟩
        · replace c34 := Bool.eq_false_iff.mpr c34
          subst c34
          have H1 : (some false) = some r := by rw [if_neg (show ¬ (false = true) by decide)] at H; exact H
          clear H
          have H := H1
          clear H1
          obtain rfl := Option.some.inj H
          go_enter Try.func3, Try.ntmps3
          try go_wp2_with (first | ((with_reducible refine gate_dst (N := 1) rfl ?_); refine box_event ?hg (N := 1) ?hd (cs := #[.int .i64 a0_0, .string a0_1, .string a0_2, .slice A0_3 l0_3.length c0_3, .slice A0_4 l0_4.length c0_4]) (t := 25) ?hr ?_; (case hd => rfl); (case hg => rfl); (case hr => first | (go_simp; done) | (go_simp; rfl)); intro gb193 hg w64 hbox hb; have n0_ := Aside0.mk (below_step (by repeat (first | (with_reducible first | exact HB.out | apply below_alloc | apply pw_below_drewN | apply below_drew1) | exact HB.out)) hb); have n1_ := Aside0.mk (hbox); have n2_ := Aside0.mk ((by rw [hg]; exact (below_size (by repeat (first | (with_reducible first | exact HB.out | apply below_alloc | apply pw_below_drewN | apply below_drew1) | exact HB.out))) : w.heap.size ≤ gb193)); have n3_ := Aside0.mk ((by rw [hg]; exact (below_size (by repeat (first | (with_reducible first | exact HB.out | apply below_alloc | apply pw_below_drewN | apply below_drew1) | exact HB.out))) : w.heap.size ≤ gb193)); clear HB; have HB := n0_; have BK193 := n1_; have GW193 := n2_; have GE193 := n3_; clear n0_ n1_ n2_ n3_; clear hb hbox hg; have hcz65_0 : w64.cell? ⟨gb193, 0, none⟩ = some (.int .i64 a0_0) := (blk_cell BK193.out 0).trans rfl; have hcz65_1 : w64.cell? ⟨gb193, 1, none⟩ = some (.string a0_1) := (blk_cell BK193.out 1).trans rfl; have hcz65_2 : w64.cell? ⟨gb193, 2, none⟩ = some (.string a0_2) := (blk_cell BK193.out 2).trans rfl; have hcz65_3 : w64.cell? ⟨gb193, 3, none⟩ = some (.slice A0_3 l0_3.length c0_3) := (blk_cell BK193.out 3).trans rfl; have hcz65_4 : w64.cell? ⟨gb193, 4, none⟩ = some (.slice A0_4 l0_4.length c0_4) := (blk_cell BK193.out 4).trans rfl; have hfz65_0 := blk_frozen BK193.out 0; have hfz65_1 := blk_frozen BK193.out 1; have hfz65_2 := blk_frozen BK193.out 2; have hfz65_3 := blk_frozen BK193.out 3; have hfz65_4 := blk_frozen BK193.out 4) | ((with_reducible refine gate_callee (f := 9) rfl ?_); refine goesL_ (some 6) rfl rfl Try.func9 (by kernel_rfl) rfl #[.agg #[.int .i64 a0_0, .string a0_1, .string a0_2, .slice A0_3 l0_3.length c0_3, .slice A0_4 l0_4.length c0_4]] rfl (by (try simp only [List.map_toArray, List.map_cons, List.map_nil]); first | done | rfl | (simp only [List.length_drop, List.length_take]; rfl)) ?_; (with_reducible refine (laws_zzFits2.calls k a0_0 a0_1 a0_2 _ _ l0_3 _ _ l0_4 true _ ?side1 ?side2 ?side3 ?side4 A2.out).mono ?_); (case side1 => repeat (first | exact (Kd.C_below HR0_3.out HB.out) | (with_reducible refine Kd.C_alloc ?_ _) | (with_reducible refine Kd.C_drewN ?_ _) | (with_reducible refine Kd.C_drew ?_))); (case side2 => exact HC0_3.out); (case side3 => repeat (first | exact (Kd.C_below HR0_4.out HB.out) | (with_reducible refine Kd.C_alloc ?_ _) | (with_reducible refine Kd.C_drewN ?_ _) | (with_reducible refine Kd.C_drew ?_))); (case side4 => exact HC0_4.out); rintro e w66 ⟨rfl, hb⟩; refine ⟨_, rfl, ?_⟩; have n0_ := Aside0.mk (blk_below (g := gb193) (o := .cells #[.int .i64 a0_0, .string a0_1, .string a0_2, .slice A0_3 l0_3.length c0_3, .slice A0_4 l0_4.length c0_4] 25 (0, 0)) (by (with_reducible repeat (first | refine blk_drewN ?_ _ | refine blk_drew ?_ | refine blk_alloc ?_ _)); exact BK193.out) hb); have n1_ := Aside0.mk (below_step (by repeat (first | (with_reducible first | exact HB.out | apply below_alloc | apply pw_below_drewN | apply below_drew1 | refine below_set ?_ GE193.out) | exact HB.out)) hb); clear BK193; clear HB; have BK193 := n0_; have HB := n1_; clear n0_ n1_; (try clear hb); (try clear hb2); (try clear hk); (try clear hi); have hcz67_0 : w66.cell? ⟨gb193, 0, none⟩ = some (.int .i64 a0_0) := (blk_cell BK193.out 0).trans rfl; have hcz67_1 : w66.cell? ⟨gb193, 1, none⟩ = some (.string a0_1) := (blk_cell BK193.out 1).trans rfl; have hcz67_2 : w66.cell? ⟨gb193, 2, none⟩ = some (.string a0_2) := (blk_cell BK193.out 2).trans rfl; have hcz67_3 : w66.cell? ⟨gb193, 3, none⟩ = some (.slice A0_3 l0_3.length c0_3) := (blk_cell BK193.out 3).trans rfl; have hcz67_4 : w66.cell? ⟨gb193, 4, none⟩ = some (.slice A0_4 l0_4.length c0_4) := (blk_cell BK193.out 4).trans rfl; have hfz67_0 := blk_frozen BK193.out 0; have hfz67_1 := blk_frozen BK193.out 1; have hfz67_2 := blk_frozen BK193.out 2; have hfz67_3 := blk_frozen BK193.out 3; have hfz67_4 := blk_frozen BK193.out 4) | ((with_reducible refine gate_callee (f := 10) rfl ?_); refine goesL_ (some 9) rfl rfl Try.func10 (by kernel_rfl) rfl #[.agg #[.int .i64 a0_0, .string a0_1, .string a0_2, .slice A0_3 l0_3.length c0_3, .slice A0_4 l0_4.length c0_4]] rfl (by (try simp only [List.map_toArray, List.map_cons, List.map_nil]); first | done | rfl | (simp only [List.length_drop, List.length_take]; rfl)) ?_; (with_reducible refine (laws_inlineCutTree.calls k a0_0 a0_1 a0_2 _ _ l0_3 _ _ l0_4 t195 t196 t197 t198 t201 _ ?side1 ?side2 ?side3 ?side4 A4.out).mono ?_); (case side1 => repeat (first | exact (Kd.C_below HR0_3.out HB.out) | (with_reducible refine Kd.C_alloc ?_ _) | (with_reducible refine Kd.C_drewN ?_ _) | (with_reducible refine Kd.C_drew ?_))); (case side2 => exact HC0_3.out); (case side3 => repeat (first | exact (Kd.C_below HR0_4.out HB.out) | (with_reducible refine Kd.C_alloc ?_ _) | (with_reducible refine Kd.C_drewN ?_ _) | (with_reducible refine Kd.C_drew ?_))); (case side4 => exact HC0_4.out); rintro e w68 ⟨v199, v202, rfl, ho0, ho1, hb⟩; refine ⟨_, rfl, ?_⟩; have n0_ := Aside0.mk (Kd.R_lower (Kd.R_mono (ok' := fun k_ => True) ho0 (fun _ hk_ => trivial)) (below_size (by repeat (first | (with_reducible first | exact HB.out | apply below_alloc | apply pw_below_drewN | apply below_drew1 | refine below_set ?_ GE193.out) | exact HB.out)))); have n1_ := Aside0.mk (Kd.N_lower (Kd.N_mono (ok' := fun k_ => some k_ ≠ (v199 : Value).ownBlock ∧ k_ ≠ gb193) ho1 (fun k_ hk_ => ⟨hk_.2, (Kd.freshB (g := gb193) (o := .cells #[.int .i64 a0_0, .string a0_1, .string a0_2, .slice A0_3 l0_3.length c0_3, .slice A0_4 l0_4.length c0_4] 25 (0, 0)) (by (with_reducible repeat (first | refine blk_drewN ?_ _ | refine blk_drew ?_ | refine blk_alloc ?_ _)); exact BK193.out) k_ hk_.1)⟩)) (below_size (by repeat (first | (with_reducible first | exact HB.out | apply below_alloc | apply pw_below_drewN | apply below_drew1 | refine below_set ?_ GE193.out) | exact HB.out)))); have n2_ := Aside0.mk (blk_below (g := gb193) (o := .cells #[.int .i64 a0_0, .string a0_1, .string a0_2, .slice A0_3 l0_3.length c0_3, .slice A0_4 l0_4.length c0_4] 25 (0, 0)) (by (with_reducible repeat (first | refine blk_drewN ?_ _ | refine blk_drew ?_ | refine blk_alloc ?_ _)); exact BK193.out) hb); have n3_ := Aside0.mk (below_step (by repeat (first | (with_reducible first | exact HB.out | apply below_alloc | apply pw_below_drewN | apply below_drew1 | refine below_set ?_ GE193.out) | exact HB.out)) hb); clear BK193; clear HB; have HO200 := n0_; have HO203 := n1_; have BK193 := n2_; have HB := n3_; clear n0_ n1_ n2_ n3_; (try clear hb); (try clear hb2); (try clear hk); (try clear hi); (try clear ho0); (try clear ho1); have hcz69_0 : w68.cell? ⟨gb193, 0, none⟩ = some (.int .i64 a0_0) := (blk_cell BK193.out 0).trans rfl; have hcz69_1 : w68.cell? ⟨gb193, 1, none⟩ = some (.string a0_1) := (blk_cell BK193.out 1).trans rfl; have hcz69_2 : w68.cell? ⟨gb193, 2, none⟩ = some (.string a0_2) := (blk_cell BK193.out 2).trans rfl; have hcz69_3 : w68.cell? ⟨gb193, 3, none⟩ = some (.slice A0_3 l0_3.length c0_3) := (blk_cell BK193.out 3).trans rfl; have hcz69_4 : w68.cell? ⟨gb193, 4, none⟩ = some (.slice A0_4 l0_4.length c0_4) := (blk_cell BK193.out 4).trans rfl; have hfz69_0 := blk_frozen BK193.out 0; have hfz69_1 := blk_frozen BK193.out 1; have hfz69_2 := blk_frozen BK193.out 2; have hfz69_3 := blk_frozen BK193.out 3; have hfz69_4 := blk_frozen BK193.out 4; obtain ⟨Ao70, co70, eo70⟩ := Kd.R_slice HO200.out; subst eo70; obtain ⟨Ao71, co71, eo71⟩ := Kd.N_slice HO203.out; subst eo71) | ((with_reducible refine gate_dst (N := 10) rfl ?_); refine Kd.R_lit Kd.string _ 9 ?hg (N := 10) ?hd (xs := ([(⟨#[98]⟩ : ByteArray), (⟨#[115, 116, 114, 111, 110, 103]⟩ : ByteArray)] : List ByteArray)) (inner := [.string (⟨#[98]⟩ : ByteArray), .string (⟨#[115, 116, 114, 111, 110, 103]⟩ : ByteArray)]) (ok := fun _ => True) (okp := fun _ => True) ?hr ?hp (fun _ hk => hk) trivial (Below.refl _ _) (Nat.le_refl _) (by simp) ?_; (case hd => rfl); (case hg => rfl); (case hr => first | (go_simp; done) | (go_simp; rfl)); (case hp => exact (Reps.one (show Kd.M Kd.string _ _ _ (⟨#[98]⟩ : ByteArray) [.string (⟨#[98]⟩ : ByteArray)] from rfl) (Reps.one (show Kd.M Kd.string _ _ _ (⟨#[115, 116, 114, 111, 110, 103]⟩ : ByteArray) [.string (⟨#[115, 116, 114, 111, 110, 103]⟩ : ByteArray)] from rfl) (Reps.none _ _)))); intro v205 w72 ho73 hb hg_ hnew_; clear hg_ hnew_; (first | rw [← Ny204.out] at ho73 | (simp only [Int.reduceToNat] at ho73; rw [← Ny204.out] at ho73)); have n0_ := Aside0.mk (Kd.R_below (by (with_reducible repeat (first | apply Kd.R_alloc | apply Kd.R_drewN | apply Kd.R_drew)); exact (Kd.R_mono (Kd.R_far (p := ⟨gb193, 4, none⟩) (Kd.R_far (p := ⟨gb193, 3, none⟩) (Kd.R_far (p := ⟨gb193, 2, none⟩) (Kd.R_far (p := ⟨gb193, 1, none⟩) (Kd.R_far (p := ⟨gb193, 0, none⟩) (Kd.R_types HO200.out BK193.out (by decide)) (fun _ hk => hk.2) (.int .i64 t195)) (fun _ hk => hk.2) (.string t196)) (fun _ hk => hk.2) (.string t197)) (fun _ hk => hk.2) (.slice Ao70 t198.length co70)) (fun _ hk => hk.2) (.slice Ao71 t201.length co71)) (fun _ h_ => h_.1))) hb); have n1_ := Aside0.mk (Kd.N_elder' (by (with_reducible repeat (first | apply Kd.N_alloc | apply Kd.N_drewN | apply Kd.N_drew)); exact (Kd.N_mono (Kd.N_far (p := ⟨gb193, 4, none⟩) (Kd.N_far (p := ⟨gb193, 3, none⟩) (Kd.N_far (p := ⟨gb193, 2, none⟩) (Kd.N_far (p := ⟨gb193, 1, none⟩) (Kd.N_far (p := ⟨gb193, 0, none⟩) (Kd.N_mono HO203.out (fun k_ hk => (⟨hk, hk.2⟩ : _ ∧ k_ ≠ gb193))) (fun _ hk => hk.2) (.int .i64 t195)) (fun _ hk => hk.2) (.string t196)) (fun _ hk => hk.2) (.string t197)) (fun _ hk => hk.2) (.slice Ao70 t198.length co70)) (fun _ hk => hk.2) (.slice Ao71 t201.length co71)) (fun _ h_ => h_.1))) (Kd.R_base ho73) hb); have n2_ := Aside0.mk (Kd.R_lower ho73 (below_size (by repeat (first | (with_reducible first | exact HB.out | apply below_alloc | apply pw_below_drewN | apply below_drew1 | refine below_set ?_ GE193.out) | exact HB.out)))); have n3_ := Aside0.mk (blk_below (g := gb193) (o := .cells #[.int .i64 t195, .string t196, .string t197, .slice Ao70 t198.length co70, .slice Ao71 t201.length co71] 25 (0, 0)) (by (with_reducible repeat (first | refine blk_drewN ?_ _ | refine blk_drew ?_ | refine blk_alloc ?_ _)); refine blk_put (cs := #[.int .i64 t195, .string t196, .string t197, .slice Ao70 t198.length co70, .slice A0_4 l0_4.length c0_4]) ?_ 4 _ rfl; (with_reducible repeat (first | refine blk_drewN ?_ _ | refine blk_drew ?_ | refine blk_alloc ?_ _)); refine blk_put (cs := #[.int .i64 t195, .string t196, .string t197, .slice A0_3 l0_3.length c0_3, .slice A0_4 l0_4.length c0_4]) ?_ 3 _ rfl; (with_reducible repeat (first | refine blk_drewN ?_ _ | refine blk_drew ?_ | refine blk_alloc ?_ _)); refine blk_put (cs := #[.int .i64 t195, .string t196, .string a0_2, .slice A0_3 l0_3.length c0_3, .slice A0_4 l0_4.length c0_4]) ?_ 2 _ rfl; (with_reducible repeat (first | refine blk_drewN ?_ _ | refine blk_drew ?_ | refine blk_alloc ?_ _)); refine blk_put (cs := #[.int .i64 t195, .string a0_1, .string a0_2, .slice A0_3 l0_3.length c0_3, .slice A0_4 l0_4.length c0_4]) ?_ 1 _ rfl; (with_reducible repeat (first | refine blk_drewN ?_ _ | refine blk_drew ?_ | refine blk_alloc ?_ _)); refine blk_put (cs := #[.int .i64 a0_0, .string a0_1, .string a0_2, .slice A0_3 l0_3.length c0_3, .slice A0_4 l0_4.length c0_4]) ?_ 0 _ rfl; (with_reducible repeat (first | refine blk_drewN ?_ _ | refine blk_drew ?_ | refine blk_alloc ?_ _)); exact BK193.out) hb); have n4_ := Aside0.mk (below_step (by repeat (first | (with_reducible first | exact HB.out | apply below_alloc | apply pw_below_drewN | apply below_drew1 | refine below_set ?_ GE193.out) | exact HB.out)) hb); clear HO200; clear HO203; clear BK193; clear HB; have HO200 := n0_; have HO203 := n1_; have HO206 := n2_; have BK193 := n3_; have HB := n4_; clear n0_ n1_ n2_ n3_ n4_; clear hb ho73; have hcz74_0 : w72.cell? ⟨gb193, 0, none⟩ = some (.int .i64 t195) := (blk_cell BK193.out 0).trans rfl; have hcz74_1 : w72.cell? ⟨gb193, 1, none⟩ = some (.string t196) := (blk_cell BK193.out 1).trans rfl; have hcz74_2 : w72.cell? ⟨gb193, 2, none⟩ = some (.string t197) := (blk_cell BK193.out 2).trans rfl; have hcz74_3 : w72.cell? ⟨gb193, 3, none⟩ = some (.slice Ao70 t198.length co70) := (blk_cell BK193.out 3).trans rfl; have hcz74_4 : w72.cell? ⟨gb193, 4, none⟩ = some (.slice Ao71 t201.length co71) := (blk_cell BK193.out 4).trans rfl; have hfz74_0 := blk_frozen BK193.out 0; have hfz74_1 := blk_frozen BK193.out 1; have hfz74_2 := blk_frozen BK193.out 2; have hfz74_3 := blk_frozen BK193.out 3; have hfz74_4 := blk_frozen BK193.out 4; obtain ⟨Ao75, co75, eo75⟩ := Kd.R_slice HO206.out; subst eo75) | ((with_reducible refine gate_callee (f := 11) rfl ?_); refine goesL_ (some 13) rfl rfl Try.func11 (by kernel_rfl) rfl #[.agg #[.int .i64 t195, .string t196, .string t197, .slice Ao70 t198.length co70, .slice Ao71 t201.length co71], .slice Ao75 y204.length co75] rfl (by (try simp only [List.map_toArray, List.map_cons, List.map_nil]); first | done | rfl | (simp only [List.length_drop, List.length_take]; rfl)) ?_; (with_reducible refine (impl_Redundant.calls k t195 t196 t197 _ _ t198 _ _ t201 _ _ y204 t207 t208 t209 t210 t213 _ ?side1 ?side2 ?side3 ?side4 ?side5 ?side6 A5.out).mono ?_); (case side1 => repeat (first | exact (Kd.R_reads' HO200.out).2.2 | (with_reducible refine Kd.C_alloc ?_ _) | (with_reducible refine Kd.C_drewN ?_ _) | (with_reducible refine Kd.C_drew ?_))); (case side2 => exact (Kd.R_reads' HO200.out).2.1); (case side3 => repeat (first | exact (Kd.N_reads' HO203.out).2.2 | (with_reducible refine Kd.C_alloc ?_ _) | (with_reducible refine Kd.C_drewN ?_ _) | (with_reducible refine Kd.C_drew ?_))); (case side4 => exact (Kd.N_reads' HO203.out).2.1); (case side5 => repeat (first | exact (Kd.R_reads' HO206.out).2.2 | (with_reducible refine Kd.C_alloc ?_ _) | (with_reducible refine Kd.C_drewN ?_ _) | (with_reducible refine Kd.C_drew ?_))); (case side6 => exact (Kd.R_reads' HO206.out).2.1); rintro e w76 ⟨v211, v214, rfl, ho0, ho1, hb⟩; refine ⟨_, rfl, ?_⟩; have n0_ := Aside0.mk (Kd.R_elder' (by (with_reducible repeat (first | apply Kd.R_alloc | apply Kd.R_drewN | apply Kd.R_drew)); exact HO200.out) (Kd.R_base ho0) hb); have n1_ := Aside0.mk (Kd.N_mono (Kd.N_told (Kd.N_told (Kd.N_old (by (with_reducible repeat (first | apply Kd.N_alloc | apply Kd.N_drewN | apply Kd.N_drew)); exact HO203.out) hb) (Kd.R_base ho0)) (Kd.N_base ho1)) (fun _ h_ => h_.1)); have n2_ := Aside0.mk (Kd.R_below (by (with_reducible repeat (first | apply Kd.R_alloc | apply Kd.R_drewN | apply Kd.R_drew)); exact HO206.out) hb); have n3_ := Aside0.mk (Kd.R_lower (Kd.R_new' (Kd.R_mono (ok' := fun k_ => True) ho0 (fun _ hk_ => trivial)) (Kd.R_lt (by (with_reducible repeat (first | apply Kd.R_alloc | apply Kd.R_drewN | apply Kd.R_drew)); exact HO200.out))) (below_size (by repeat (first | (with_reducible first | exact HB.out | apply below_alloc | apply pw_below_drewN | apply below_drew1 | refine below_set ?_ GE193.out) | exact HB.out)))); have n4_ := Aside0.mk (Kd.N_lower (Kd.N_mono (ok' := fun k_ => some k_ ≠ (v211 : Value).ownBlock ∧ some k_ ≠ (.slice Ao70 t198.length co70 : Value).ownBlock ∧ some k_ ≠ (.slice Ao71 t201.length co71 : Value).ownBlock ∧ some k_ ≠ (.slice Ao75 y204.length co75 : Value).ownBlock ∧ k_ ≠ gb193) ho1 (fun k_ hk_ => ⟨hk_.2, (Kd.fresh' (Kd.R_lt (by (with_reducible repeat (first | apply Kd.R_alloc | apply Kd.R_drewN | apply Kd.R_drew)); exact HO200.out)) k_ hk_.1), (Kd.fresh' (Kd.N_lt (by (with_reducible repeat (first | apply Kd.N_alloc | apply Kd.N_drewN | apply Kd.N_drew)); exact HO203.out)) k_ hk_.1), (Kd.fresh' (Kd.R_lt (by (with_reducible repeat (first | apply Kd.R_alloc | apply Kd.R_drewN | apply Kd.R_drew)); exact HO206.out)) k_ hk_.1), (Kd.freshB (g := gb193) (o := .cells #[.int .i64 t195, .string t196, .string t197, .slice Ao70 t198.length co70, .slice Ao71 t201.length co71] 25 (0, 0)) (by (with_reducible repeat (first | refine blk_drewN ?_ _ | refine blk_drew ?_ | refine blk_alloc ?_ _)); exact BK193.out) k_ hk_.1)⟩)) (below_size (by repeat (first | (with_reducible first | exact HB.out | apply below_alloc | apply pw_below_drewN | apply below_drew1 | refine below_set ?_ GE193.out) | exact HB.out)))); have n5_ := Aside0.mk (blk_below (g := gb193) (o := .cells #[.int .i64 t195, .string t196, .string t197, .slice Ao70 t198.length co70, .slice Ao71 t201.length co71] 25 (0, 0)) (by (with_reducible repeat (first | refine blk_drewN ?_ _ | refine blk_drew ?_ | refine blk_alloc ?_ _)); exact BK193.out) hb); have n6_ := Aside0.mk (below_step (by repeat (first | (with_reducible first | exact HB.out | apply below_alloc | apply pw_below_drewN | apply below_drew1 | refine below_set ?_ GE193.out) | exact HB.out)) hb); clear HO200; clear HO203; clear HO206; clear BK193; clear HB; have HO200 := n0_; have HO203 := n1_; have HO206 := n2_; have HO212 := n3_; have HO215 := n4_; have BK193 := n5_; have HB := n6_; clear n0_ n1_ n2_ n3_ n4_ n5_ n6_; (try clear hb); (try clear hb2); (try clear hk); (try clear hi); (try clear ho0); (try clear ho1)) | ((with_reducible refine gate_dst (N := 4) rfl ?_); refine box_event ?hg (N := 4) ?hd (cs := #[.int .i64 0, .string (⟨#[]⟩ : ByteArray), .string (⟨#[]⟩ : ByteArray), .slice none 0 0, .slice none 0 0]) (t := 25) ?hr ?_; (case hd => rfl); (case hg => rfl); (case hr => first | (go_simp; done) | (go_simp; rfl)); intro gb216 hg w77 hbox hb; have n0_ := Aside0.mk (Kd.R_below (by (with_reducible repeat (first | apply Kd.R_alloc | apply Kd.R_drewN | apply Kd.R_drew)); exact HO200.out) hb); have n1_ := Aside0.mk (Kd.N_below (Kd.N_elderB (by (with_reducible repeat (first | apply Kd.N_alloc | apply Kd.N_drewN | apply Kd.N_drew)); exact HO203.out) gb216 (Nat.le_of_eq hg.symm)) hb); have n2_ := Aside0.mk (Kd.R_below (by (with_reducible repeat (first | apply Kd.R_alloc | apply Kd.R_drewN | apply Kd.R_drew)); exact HO206.out) hb); have n3_ := Aside0.mk (Kd.R_below (by (with_reducible repeat (first | apply Kd.R_alloc | apply Kd.R_drewN | apply Kd.R_drew)); exact HO212.out) hb); have n4_ := Aside0.mk (Kd.N_below (Kd.N_elderB (by (with_reducible repeat (first | apply Kd.N_alloc | apply Kd.N_drewN | apply Kd.N_drew)); exact HO215.out) gb216 (Nat.le_of_eq hg.symm)) hb); have n5_ := Aside0.mk (blk_below (g := gb193) (o := .cells #[.int .i64 t195, .string t196, .string t197, .slice Ao70 t198.length co70, .slice Ao71 t201.length co71] 25 (0, 0)) (by (with_reducible repeat (first | refine blk_drewN ?_ _ | refine blk_drew ?_ | refine blk_alloc ?_ _)); exact BK193.out) hb); have n6_ := Aside0.mk (below_step (by repeat (first | (with_reducible first | exact HB.out | apply below_alloc | apply pw_below_drewN | apply below_drew1 | refine below_set ?_ GE193.out) | exact HB.out)) hb); have n7_ := Aside0.mk (hbox); have n8_ := Aside0.mk ((by rw [hg]; exact (below_size (by repeat (first | (with_reducible first | exact HB.out | apply below_alloc | apply pw_below_drewN | apply below_drew1 | refine below_set ?_ GE193.out) | exact HB.out))) : w.heap.size ≤ gb216)); have n9_ := Aside0.mk ((by rw [hg]; exact (below_size (by repeat (first | (with_reducible first | exact HB.out | apply below_alloc | apply pw_below_drewN | apply below_drew1 | refine below_set ?_ GE193.out) | exact HB.out))) : w.heap.size ≤ gb216)); have n10_ := Aside0.mk ((by rw [hg]; exact Nat.ne_of_lt (blk_lt (g := gb193) (o := .cells #[.int .i64 t195, .string t196, .string t197, .slice Ao70 t198.length co70, .slice Ao71 t201.length co71] 25 (0, 0)) (by (with_reducible repeat (first | refine blk_drewN ?_ _ | refine blk_drew ?_ | refine blk_alloc ?_ _)); exact BK193.out)) : gb193 ≠ gb216)); have n11_ := Aside0.mk ((by rw [hg]; exact Nat.ne_of_gt (blk_lt (g := gb193) (o := .cells #[.int .i64 t195, .string t196, .string t197, .slice Ao70 t198.length co70, .slice Ao71 t201.length co71] 25 (0, 0)) (by (with_reducible repeat (first | refine blk_drewN ?_ _ | refine blk_drew ?_ | refine blk_alloc ?_ _)); exact BK193.out)) : gb216 ≠ gb193)); clear HO200; clear HO203; clear HO206; clear HO212; clear HO215; clear BK193; clear HB; have HO200 := n0_; have HO203 := n1_; have HO206 := n2_; have HO212 := n3_; have HO215 := n4_; have BK193 := n5_; have HB := n6_; have BK216 := n7_; have GW216 := n8_; have GE216 := n9_; have NB193_216 := n10_; have NB216_193 := n11_; clear n0_ n1_ n2_ n3_ n4_ n5_ n6_ n7_ n8_ n9_ n10_ n11_; clear hb hbox hg; have hnb78 := NB216_193.out; have hnc78 := NB193_216.out; have hcz79_0 : w77.cell? ⟨gb216, 0, none⟩ = some (.int .i64 0) := (blk_cell BK216.out 0).trans rfl; have hcz79_1 : w77.cell? ⟨gb216, 1, none⟩ = some (.string (⟨#[]⟩ : ByteArray)) := (blk_cell BK216.out 1).trans rfl; have hcz79_2 : w77.cell? ⟨gb216, 2, none⟩ = some (.string (⟨#[]⟩ : ByteArray)) := (blk_cell BK216.out 2).trans rfl; have hcz79_3 : w77.cell? ⟨gb216, 3, none⟩ = some (.slice none 0 0) := (blk_cell BK216.out 3).trans rfl; have hcz79_4 : w77.cell? ⟨gb216, 4, none⟩ = some (.slice none 0 0) := (blk_cell BK216.out 4).trans rfl; have hfz79_0 := blk_frozen BK216.out 0; have hfz79_1 := blk_frozen BK216.out 1; have hfz79_2 := blk_frozen BK216.out 2; have hfz79_3 := blk_frozen BK216.out 3; have hfz79_4 := blk_frozen BK216.out 4; obtain ⟨Ao80, co80, eo80⟩ := Kd.R_slice HO212.out; subst eo80; obtain ⟨Ao81, co81, eo81⟩ := Kd.N_slice HO215.out; subst eo81))
          have n0_ : Aside0 (Kd.R k53 53 (((((w77.setCell ⟨gb216, 0, none⟩ (.int .i64 t207)).setCell ⟨gb216, 1, none⟩ (.string t208)).setCell ⟨gb216, 2, none⟩ (.string t209)).setCell ⟨gb216, 3, none⟩ (.slice Ao80 t210.length co80)).setCell ⟨gb216, 4, none⟩ (.slice Ao81 t213.length co81)) w.heap.size (fun k_ => some k_ ≠ (.slice Ao80 t210.length co80 : Value).ownBlock) (.slice Ao70 t198.length co70) t198) := ⟨by (with_reducible repeat (first | apply Kd.R_alloc | apply Kd.R_drewN | apply Kd.R_drew)); exact Kd.R_mono (Kd.R_far (p := ⟨gb216, 4, none⟩) (Kd.R_far (p := ⟨gb216, 3, none⟩) (Kd.R_far (p := ⟨gb216, 2, none⟩) (Kd.R_far (p := ⟨gb216, 1, none⟩) (Kd.R_far (p := ⟨gb216, 0, none⟩) (Kd.R_types HO200.out BK216.out (by decide)) (fun _ hk => hk.2) (.int .i64 t207)) (fun _ hk => hk.2) (.string t208)) (fun _ hk => hk.2) (.string t209)) (fun _ hk => hk.2) (.slice Ao80 t210.length co80)) (fun _ hk => hk.2) (.slice Ao81 t213.length co81)) (fun _ hk => hk.1.2)⟩
          have n1_ : Aside0 (Kd.N k25 25 (((((w77.setCell ⟨gb216, 0, none⟩ (.int .i64 t207)).setCell ⟨gb216, 1, none⟩ (.string t208)).setCell ⟨gb216, 2, none⟩ (.string t209)).setCell ⟨gb216, 3, none⟩ (.slice Ao80 t210.length co80)).setCell ⟨gb216, 4, none⟩ (.slice Ao81 t213.length co81)) w.heap.size (fun k_ => some k_ ≠ (.slice Ao70 t198.length co70 : Value).ownBlock ∧ some k_ ≠ (.slice Ao75 y204.length co75 : Value).ownBlock ∧ some k_ ≠ (.slice Ao80 t210.length co80 : Value).ownBlock ∧ some k_ ≠ (.slice Ao81 t213.length co81 : Value).ownBlock ∧ k_ ≠ gb193 ∧ k_ ≠ gb216) (.slice Ao71 t201.length co71) t201) := ⟨by (with_reducible repeat (first | apply Kd.N_alloc | apply Kd.N_drewN | apply Kd.N_drew)); exact Kd.N_mono (Kd.N_far (p := ⟨gb216, 4, none⟩) (Kd.N_far (p := ⟨gb216, 3, none⟩) (Kd.N_far (p := ⟨gb216, 2, none⟩) (Kd.N_far (p := ⟨gb216, 1, none⟩) (Kd.N_far (p := ⟨gb216, 0, none⟩) (Kd.N_mono HO203.out (fun k_ hk => (⟨hk, hk.2⟩ : _ ∧ k_ ≠ gb216))) (fun _ hk => hk.2) (.int .i64 t207)) (fun _ hk => hk.2) (.string t208)) (fun _ hk => hk.2) (.string t209)) (fun _ hk => hk.2) (.slice Ao80 t210.length co80)) (fun _ hk => hk.2) (.slice Ao81 t213.length co81)) (fun _ hk => ⟨hk.1.1.1.1.1.1, ⟨hk.1.1.1.1.2, ⟨hk.1.1.1.2, ⟨hk.1.1.2, ⟨hk.1.1.1.1.1.2, hk.1.2⟩⟩⟩⟩⟩)⟩
          have n2_ : Aside0 (Kd.R Kd.string 9 (((((w77.setCell ⟨gb216, 0, none⟩ (.int .i64 t207)).setCell ⟨gb216, 1, none⟩ (.string t208)).setCell ⟨gb216, 2, none⟩ (.string t209)).setCell ⟨gb216, 3, none⟩ (.slice Ao80 t210.length co80)).setCell ⟨gb216, 4, none⟩ (.slice Ao81 t213.length co81)) w.heap.size (fun _ => True) (.slice Ao75 y204.length co75) y204) := ⟨by (with_reducible repeat (first | apply Kd.R_alloc | apply Kd.R_drewN | apply Kd.R_drew)); exact Kd.R_mono (Kd.R_far (p := ⟨gb216, 4, none⟩) (Kd.R_far (p := ⟨gb216, 3, none⟩) (Kd.R_far (p := ⟨gb216, 2, none⟩) (Kd.R_far (p := ⟨gb216, 1, none⟩) (Kd.R_far (p := ⟨gb216, 0, none⟩) (Kd.R_types HO206.out BK216.out (by decide)) (fun _ hk => hk.2) (.int .i64 t207)) (fun _ hk => hk.2) (.string t208)) (fun _ hk => hk.2) (.string t209)) (fun _ hk => hk.2) (.slice Ao80 t210.length co80)) (fun _ hk => hk.2) (.slice Ao81 t213.length co81)) (fun _ hk => trivial)⟩
          have n3_ : Aside0 (Kd.R k53 53 (((((w77.setCell ⟨gb216, 0, none⟩ (.int .i64 t207)).setCell ⟨gb216, 1, none⟩ (.string t208)).setCell ⟨gb216, 2, none⟩ (.string t209)).setCell ⟨gb216, 3, none⟩ (.slice Ao80 t210.length co80)).setCell ⟨gb216, 4, none⟩ (.slice Ao81 t213.length co81)) w.heap.size (fun k_ => some k_ ≠ (.slice Ao70 t198.length co70 : Value).ownBlock) (.slice Ao80 t210.length co80) t210) := ⟨by (with_reducible repeat (first | apply Kd.R_alloc | apply Kd.R_drewN | apply Kd.R_drew)); exact Kd.R_mono (Kd.R_far (p := ⟨gb216, 4, none⟩) (Kd.R_far (p := ⟨gb216, 3, none⟩) (Kd.R_far (p := ⟨gb216, 2, none⟩) (Kd.R_far (p := ⟨gb216, 1, none⟩) (Kd.R_far (p := ⟨gb216, 0, none⟩) (Kd.R_types HO212.out BK216.out (by decide)) (fun _ hk => hk.2) (.int .i64 t207)) (fun _ hk => hk.2) (.string t208)) (fun _ hk => hk.2) (.string t209)) (fun _ hk => hk.2) (.slice Ao80 t210.length co80)) (fun _ hk => hk.2) (.slice Ao81 t213.length co81)) (fun _ hk => hk.1.2)⟩
          have n4_ : Aside0 (Kd.N k25 25 (((((w77.setCell ⟨gb216, 0, none⟩ (.int .i64 t207)).setCell ⟨gb216, 1, none⟩ (.string t208)).setCell ⟨gb216, 2, none⟩ (.string t209)).setCell ⟨gb216, 3, none⟩ (.slice Ao80 t210.length co80)).setCell ⟨gb216, 4, none⟩ (.slice Ao81 t213.length co81)) w.heap.size (fun k_ => some k_ ≠ (.slice Ao70 t198.length co70 : Value).ownBlock ∧ some k_ ≠ (.slice Ao71 t201.length co71 : Value).ownBlock ∧ some k_ ≠ (.slice Ao75 y204.length co75 : Value).ownBlock ∧ some k_ ≠ (.slice Ao80 t210.length co80 : Value).ownBlock ∧ k_ ≠ gb193 ∧ k_ ≠ gb216) (.slice Ao81 t213.length co81) t213) := ⟨by (with_reducible repeat (first | apply Kd.N_alloc | apply Kd.N_drewN | apply Kd.N_drew)); exact Kd.N_mono (Kd.N_far (p := ⟨gb216, 4, none⟩) (Kd.N_far (p := ⟨gb216, 3, none⟩) (Kd.N_far (p := ⟨gb216, 2, none⟩) (Kd.N_far (p := ⟨gb216, 1, none⟩) (Kd.N_far (p := ⟨gb216, 0, none⟩) (Kd.N_mono HO215.out (fun k_ hk => (⟨hk, hk.2⟩ : _ ∧ k_ ≠ gb216))) (fun _ hk => hk.2) (.int .i64 t207)) (fun _ hk => hk.2) (.string t208)) (fun _ hk => hk.2) (.string t209)) (fun _ hk => hk.2) (.slice Ao80 t210.length co80)) (fun _ hk => hk.2) (.slice Ao81 t213.length co81)) (fun _ hk => ⟨hk.1.1.2.1, ⟨hk.1.1.2.2.1, ⟨hk.1.1.2.2.2.1, ⟨hk.1.1.1, ⟨hk.1.1.2.2.2.2, hk.1.2⟩⟩⟩⟩⟩)⟩
          have n5_ : Aside0 ((((((w77.setCell ⟨gb216, 0, none⟩ (.int .i64 t207)).setCell ⟨gb216, 1, none⟩ (.string t208)).setCell ⟨gb216, 2, none⟩ (.string t209)).setCell ⟨gb216, 3, none⟩ (.slice Ao80 t210.length co80)).setCell ⟨gb216, 4, none⟩ (.slice Ao81 t213.length co81)).heap[gb193]? = some (.cells #[.int .i64 t195, .string t196, .string t197, .slice Ao70 t198.length co70, .slice Ao71 t201.length co71] 25 (0, 0))) := ⟨by (with_reducible repeat (first | refine blk_drewN ?_ _ | refine blk_drew ?_ | refine blk_alloc ?_ _)); refine blk_far ?_ NB193_216.out _; (with_reducible repeat (first | refine blk_drewN ?_ _ | refine blk_drew ?_ | refine blk_alloc ?_ _)); refine blk_far ?_ NB193_216.out _; (with_reducible repeat (first | refine blk_drewN ?_ _ | refine blk_drew ?_ | refine blk_alloc ?_ _)); refine blk_far ?_ NB193_216.out _; (with_reducible repeat (first | refine blk_drewN ?_ _ | refine blk_drew ?_ | refine blk_alloc ?_ _)); refine blk_far ?_ NB193_216.out _; (with_reducible repeat (first | refine blk_drewN ?_ _ | refine blk_drew ?_ | refine blk_alloc ?_ _)); refine blk_far ?_ NB193_216.out _; (with_reducible repeat (first | refine blk_drewN ?_ _ | refine blk_drew ?_ | refine blk_alloc ?_ _)); exact BK193.out⟩
          have n6_ : Aside0 ((((((w77.setCell ⟨gb216, 0, none⟩ (.int .i64 t207)).setCell ⟨gb216, 1, none⟩ (.string t208)).setCell ⟨gb216, 2, none⟩ (.string t209)).setCell ⟨gb216, 3, none⟩ (.slice Ao80 t210.length co80)).setCell ⟨gb216, 4, none⟩ (.slice Ao81 t213.length co81)).heap[gb216]? = some (.cells #[.int .i64 t207, .string t208, .string t209, .slice Ao80 t210.length co80, .slice Ao81 t213.length co81] 25 (0, 0))) := ⟨by (with_reducible repeat (first | refine blk_drewN ?_ _ | refine blk_drew ?_ | refine blk_alloc ?_ _)); refine blk_put (cs := #[.int .i64 t207, .string t208, .string t209, .slice Ao80 t210.length co80, .slice none 0 0]) ?_ 4 _ rfl; (with_reducible repeat (first | refine blk_drewN ?_ _ | refine blk_drew ?_ | refine blk_alloc ?_ _)); refine blk_put (cs := #[.int .i64 t207, .string t208, .string t209, .slice none 0 0, .slice none 0 0]) ?_ 3 _ rfl; (with_reducible repeat (first | refine blk_drewN ?_ _ | refine blk_drew ?_ | refine blk_alloc ?_ _)); refine blk_put (cs := #[.int .i64 t207, .string t208, .string (⟨#[]⟩ : ByteArray), .slice none 0 0, .slice none 0 0]) ?_ 2 _ rfl; (with_reducible repeat (first | refine blk_drewN ?_ _ | refine blk_drew ?_ | refine blk_alloc ?_ _)); refine blk_put (cs := #[.int .i64 t207, .string (⟨#[]⟩ : ByteArray), .string (⟨#[]⟩ : ByteArray), .slice none 0 0, .slice none 0 0]) ?_ 1 _ rfl; (with_reducible repeat (first | refine blk_drewN ?_ _ | refine blk_drew ?_ | refine blk_alloc ?_ _)); refine blk_put (cs := #[.int .i64 0, .string (⟨#[]⟩ : ByteArray), .string (⟨#[]⟩ : ByteArray), .slice none 0 0, .slice none 0 0]) ?_ 0 _ rfl; (with_reducible repeat (first | refine blk_drewN ?_ _ | refine blk_drew ?_ | refine blk_alloc ?_ _)); exact BK216.out⟩
          have n7_ : Aside0 (Below w.heap.size w (((((w77.setCell ⟨gb216, 0, none⟩ (.int .i64 t207)).setCell ⟨gb216, 1, none⟩ (.string t208)).setCell ⟨gb216, 2, none⟩ (.string t209)).setCell ⟨gb216, 3, none⟩ (.slice Ao80 t210.length co80)).setCell ⟨gb216, 4, none⟩ (.slice Ao81 t213.length co81))) := ⟨by repeat (first | (with_reducible first | exact HB.out | apply below_alloc | apply pw_below_drewN | apply below_drew1 | refine below_set ?_ GE193.out | refine below_set ?_ GE216.out) | exact HB.out)⟩
          (try clear HO200)
          (try clear HO203)
          (try clear HO206)
          (try clear HO212)
          (try clear HO215)
          (try clear BK193)
          (try clear BK216)
          (try clear HB)
          generalize (((((w77.setCell ⟨gb216, 0, none⟩ (.int .i64 t207)).setCell ⟨gb216, 1, none⟩ (.string t208)).setCell ⟨gb216, 2, none⟩ (.string t209)).setCell ⟨gb216, 3, none⟩ (.slice Ao80 t210.length co80)).setCell ⟨gb216, 4, none⟩ (.slice Ao81 t213.length co81)) = w82 at n0_ n1_ n2_ n3_ n4_ n5_ n6_ n7_ ⊢
          have HO200 := n0_
          have HO203 := n1_
          have HO206 := n2_
          have HO212 := n3_
          have HO215 := n4_
          have BK193 := n5_
          have BK216 := n6_
          have HB := n7_
          clear n0_ n1_ n2_ n3_ n4_ n5_ n6_ n7_
          have n0_ := Aside0.mk (Kd.R_drew HO200.out)
          have n1_ := Aside0.mk (Kd.N_drew HO203.out)
          have n2_ := Aside0.mk (Kd.R_drew HO206.out)
          have n3_ := Aside0.mk (Kd.R_drew HO212.out)
          have n4_ := Aside0.mk (Kd.N_drew HO215.out)
          have n5_ := Aside0.mk (blk_drew BK193.out)
          have n6_ := Aside0.mk (blk_drew BK216.out)
          have n7_ := Aside0.mk (below_drew1 HB.out)
          clear HO200
          clear HO203
          clear HO206
          clear HO212
          clear HO215
          clear BK193
          clear BK216
          clear HB
          have HO200 := n0_
          have HO203 := n1_
          have HO206 := n2_
          have HO212 := n3_
          have HO215 := n4_
          have BK193 := n5_
          have BK216 := n6_
          have HB := n7_
          clear n0_ n1_ n2_ n3_ n4_ n5_ n6_ n7_
          refine start_ (n := 22) (S := fun w' => w'.cell? ⟨gb216, 0, none⟩ = some (.int .i64 t207) ∧ w'.cell? ⟨gb216, 1, none⟩ = some (.string t208) ∧ w'.cell? ⟨gb216, 2, none⟩ = some (.string t209) ∧ w'.cell? ⟨gb216, 3, none⟩ = some (.slice Ao80 t210.length co80) ∧ w'.cell? ⟨gb216, 4, none⟩ = some (.slice Ao81 t213.length co81) ∧ w'.cell? ⟨gb193, 0, none⟩ = some (.int .i64 t195) ∧ w'.cell? ⟨gb193, 1, none⟩ = some (.string t196) ∧ w'.cell? ⟨gb193, 2, none⟩ = some (.string t197) ∧ w'.cell? ⟨gb193, 3, none⟩ = some (.slice Ao70 t198.length co70) ∧ w'.cell? ⟨gb193, 4, none⟩ = some (.slice Ao71 t201.length co71)) (ds := []) #[false, false, false, false, false, false, false, false, false, false, false, false, false, false, false, false, false, false, false, false, false, false] (by kernel_rfl) rfl rfl ⟨(blk_cell BK216.out 0).trans rfl, (blk_cell BK216.out 1).trans rfl, (blk_cell BK216.out 2).trans rfl, (blk_cell BK216.out 3).trans rfl, (blk_cell BK216.out 4).trans rfl, (blk_cell BK193.out 0).trans rfl, (blk_cell BK193.out 1).trans rfl, (blk_cell BK193.out 2).trans rfl, (blk_cell BK193.out 3).trans rfl, (blk_cell BK193.out 4).trans rfl⟩ (fun hHeld => ?_); refine with_tabW laws_FnRedundant.tab6 laws_FnRedundant.bits6 (fun HT_ HW_ => ?_)
          generalize w82.drew = w83 at HO200 HO203 HO206 HO212 HO215 BK193 BK216 HB hHeld ⊢
          refine pure_ (i := 1) (N := some 15) (v := ?_) (a' := ?_) #[false, true, false, false, false, false, false, false, false, false, false, false, false, false, false, false, false, false, false, false, false, false] rfl rfl (any_of HT_.out (by kernel_rfl)) (fun _ _ _ h => h) (Or.inl ⟨by rfl, ?_⟩) ?_ ?_
          rotate_left
          · intro w'
            go_simp
            with_reducible rfl
          rotate_left
          · simp only [Act.put, List.setIfInBounds_toArray, List.set_cons_zero, List.set_cons_succ, i64_w, i32_w]
            rfl
          refine take_ (i := 0) (N := some 14) (v := ?_) (a' := ?_) #[true, true, false, false, false, false, false, false, false, false, false, false, false, false, false, false, false, false, false, false, false, false] rfl rfl (take_ofW HT_.out HW_.out (by kernel_rfl)) (fun _ _ _ h => h) (Or.inl ⟨by rfl, ?_⟩) hHeld ?_ ?_
          rotate_left
          · rintro w' ⟨s0, s1, s2, s3, s4, s5, s6, s7, s8, s9⟩
            go_simp
            with_reducible rfl
          rotate_left
          · simp only [Act.put, List.setIfInBounds_toArray, List.set_cons_zero, List.set_cons_succ, i64_w, i32_w]
            rfl
          refine one_ (i := 2) (N := some 16) #[true, true, true, false, false, false, false, false, false, false, false, false, false, false, false, false, false, false, false, false, false, false] rfl rfl (one_of HT_.out (by kernel_rfl)) (by decide) (fun K hK => ?_)
          refine goes_ Try.func12 (by kernel_rfl) rfl #[.agg #[.int .i64 t207, .string t208, .string t209, .slice Ao80 t210.length co80, .slice Ao81 t213.length co81], .slice Ao75 y204.length co75, .bool false] (by rfl) rfl rfl (by (try simp only [List.map_toArray, List.map_cons, List.map_nil]); first | done | rfl | (simp only [List.length_drop, List.length_take]; rfl)) ?_
          with_reducible refine (laws_inlineWithin.calls k t207 t208 t209 _ _ t210 _ _ t213 _ _ y204 false false _ ?side1 ?side2 ?side3 ?side4 ?side5 ?side6 A6.out).mono ?_
          (case side1 => repeat (first | exact (Kd.R_reads' HO212.out).2.2 | (with_reducible refine Kd.C_alloc ?_ _) | (with_reducible refine Kd.C_drewN ?_ _) | (with_reducible refine Kd.C_drew ?_)))
          (case side2 => exact (Kd.R_reads' HO212.out).2.1)
          (case side3 => repeat (first | exact (Kd.N_reads' HO215.out).2.2 | (with_reducible refine Kd.C_alloc ?_ _) | (with_reducible refine Kd.C_drewN ?_ _) | (with_reducible refine Kd.C_drew ?_)))
          (case side4 => exact (Kd.N_reads' HO215.out).2.1)
          (case side5 => repeat (first | exact (Kd.R_reads' HO206.out).2.2 | (with_reducible refine Kd.C_alloc ?_ _) | (with_reducible refine Kd.C_drewN ?_ _) | (with_reducible refine Kd.C_drew ?_)))
          (case side6 => exact (Kd.R_reads' HO206.out).2.1)
          rintro e w84 ⟨rfl, hb⟩
          refine ⟨_, rfl, ?_⟩
          have n0_ := Aside0.mk (Kd.R_below (by (with_reducible repeat (first | apply Kd.R_alloc | apply Kd.R_drewN | apply Kd.R_drew)); exact HO200.out) hb)
          have n1_ := Aside0.mk (Kd.N_below (by (with_reducible repeat (first | apply Kd.N_alloc | apply Kd.N_drewN | apply Kd.N_drew)); exact HO203.out) hb)
          have n2_ := Aside0.mk (Kd.R_below (by (with_reducible repeat (first | apply Kd.R_alloc | apply Kd.R_drewN | apply Kd.R_drew)); exact HO206.out) hb)
          have n3_ := Aside0.mk (Kd.R_below (by (with_reducible repeat (first | apply Kd.R_alloc | apply Kd.R_drewN | apply Kd.R_drew)); exact HO212.out) hb)
          have n4_ := Aside0.mk (Kd.N_below (by (with_reducible repeat (first | apply Kd.N_alloc | apply Kd.N_drewN | apply Kd.N_drew)); exact HO215.out) hb)
          have n5_ := Aside0.mk (blk_below (g := gb193) (o := .cells #[.int .i64 t195, .string t196, .string t197, .slice Ao70 t198.length co70, .slice Ao71 t201.length co71] 25 (0, 0)) (by (with_reducible repeat (first | refine blk_drewN ?_ _ | refine blk_drew ?_ | refine blk_alloc ?_ _)); exact BK193.out) hb)
          have n6_ := Aside0.mk (blk_below (g := gb216) (o := .cells #[.int .i64 t207, .string t208, .string t209, .slice Ao80 t210.length co80, .slice Ao81 t213.length co81] 25 (0, 0)) (by (with_reducible repeat (first | refine blk_drewN ?_ _ | refine blk_drew ?_ | refine blk_alloc ?_ _)); exact BK216.out) hb)
          have n7_ := Aside0.mk (below_step (by repeat (first | (with_reducible first | exact HB.out | apply below_alloc | apply pw_below_drewN | apply below_drew1 | refine below_set ?_ GE193.out | refine below_set ?_ GE216.out) | exact HB.out)) hb)
          clear HO200
          clear HO203
          clear HO206
          clear HO212
          clear HO215
          clear BK193
          clear BK216
          clear HB
          have HO200 := n0_
          have HO203 := n1_
          have HO206 := n2_
          have HO212 := n3_
          have HO215 := n4_
          have BK193 := n5_
          have BK216 := n6_
          have HB := n7_
          clear n0_ n1_ n2_ n3_ n4_ n5_ n6_ n7_
          (try clear hb)
          (try clear hb2)
          (try clear hk)
          (try clear hi)
          refine hK.out _ _ ⟨(blk_cell BK216.out 0).trans rfl, (blk_cell BK216.out 1).trans rfl, (blk_cell BK216.out 2).trans rfl, (blk_cell BK216.out 3).trans rfl, (blk_cell BK216.out 4).trans rfl, (blk_cell BK193.out 0).trans rfl, (blk_cell BK193.out 1).trans rfl, (blk_cell BK193.out 2).trans rfl, (blk_cell BK193.out 3).trans rfl, (blk_cell BK193.out 4).trans rfl⟩ (fun hHeld => ?_)
          clear hK K
          refine norm_ (a' := ?_) ?_ ?_
          rotate_left
          · show Act.put _ (some 16) _ = _
            simp only [Act.put, List.setIfInBounds_toArray, List.set_cons_zero, List.set_cons_succ, i64_w, i32_w]
            rfl
          refine pure_ (i := 3) (N := some 17) (v := ?_) (a' := ?_) #[true, true, true, true, false, false, false, false, false, false, false, false, false, false, false, false, false, false, false, false, false, false] rfl rfl (any_of HT_.out (by kernel_rfl)) (fun _ _ _ h => h) (Or.inl ⟨by rfl, ?_⟩) ?_ ?_
          rotate_left
          · intro w'
            go_simp
            with_reducible rfl
          rotate_left
          · simp only [Act.put, List.setIfInBounds_toArray, List.set_cons_zero, List.set_cons_succ, i64_w, i32_w]
            rfl
          refine pure_ (i := 4) (N := some 18) (v := ?_) (a' := ?_) #[true, true, true, true, true, false, false, false, false, false, false, false, false, false, false, false, false, false, false, false, false, false] rfl rfl (any_of HT_.out (by kernel_rfl)) (fun _ _ _ h => h) (Or.inl ⟨by rfl, ?_⟩) ?_ ?_
          rotate_left
          · intro w'
            go_simp
            with_reducible rfl
          rotate_left
          · simp only [Act.put, List.setIfInBounds_toArray, List.set_cons_zero, List.set_cons_succ, i64_w, i32_w]
            rfl
          refine take_ (i := 5) (N := some 19) (v := ?_) (a' := ?_) #[true, true, true, true, true, true, false, false, false, false, false, false, false, false, false, false, false, false, false, false, false, false] rfl rfl (take_ofW HT_.out HW_.out (by kernel_rfl)) (fun _ _ _ h => h) (Or.inl ⟨by rfl, ?_⟩) hHeld ?_ ?_
          rotate_left
          · rintro w' ⟨s0, s1, s2, s3, s4, s5, s6, s7, s8, s9⟩
            go_simp
            with_reducible rfl
          rotate_left
          · simp only [Act.put, List.setIfInBounds_toArray, List.set_cons_zero, List.set_cons_succ, i64_w, i32_w]
            rfl
          refine take_ (i := 7) (N := some 21) (v := ?_) (a' := ?_) #[true, true, true, true, true, true, false, true, false, false, false, false, false, false, false, false, false, false, false, false, false, false] rfl rfl (take_ofW HT_.out HW_.out (by kernel_rfl)) (fun _ _ _ h => h) (Or.inl ⟨by rfl, ?_⟩) hHeld ?_ ?_
          rotate_left
          · rintro w' ⟨s0, s1, s2, s3, s4, s5, s6, s7, s8, s9⟩
            go_simp
            with_reducible rfl
          rotate_left
          · simp only [Act.put, List.setIfInBounds_toArray, List.set_cons_zero, List.set_cons_succ, i64_w, i32_w]
            rfl
          refine one_ (i := 6) (N := some 20) #[true, true, true, true, true, true, true, true, false, false, false, false, false, false, false, false, false, false, false, false, false, false] rfl rfl (one_of HT_.out (by kernel_rfl)) (by decide) (fun K hK => ?_)
          refine goes_ Try.func13 (by kernel_rfl) rfl #[.agg #[.int .i64 t207, .string t208, .string t209, .slice Ao80 t210.length co80, .slice Ao81 t213.length co81]] (by rfl) rfl rfl (by (try simp only [List.map_toArray, List.map_cons, List.map_nil]); first | done | rfl | (simp only [List.length_drop, List.length_take]; rfl)) ?_
          with_reducible refine (spec_TextOf.calls k t207 t208 t209 _ _ t210 _ _ t213 t218 _ ?side1 ?side2 ?side3 ?side4 A29.out).mono ?_
          (case side1 => repeat (first | exact (Kd.R_reads' HO212.out).2.2 | (with_reducible refine Kd.C_alloc ?_ _) | (with_reducible refine Kd.C_drewN ?_ _) | (with_reducible refine Kd.C_drew ?_)))
          (case side2 => exact (Kd.R_reads' HO212.out).2.1)
          (case side3 => repeat (first | exact (Kd.N_reads' HO215.out).2.2 | (with_reducible refine Kd.C_alloc ?_ _) | (with_reducible refine Kd.C_drewN ?_ _) | (with_reducible refine Kd.C_drew ?_)))
          (case side4 => exact (Kd.N_reads' HO215.out).2.1)
          rintro e w85 ⟨rfl, hb⟩
          refine ⟨_, rfl, ?_⟩
          have n0_ := Aside0.mk (Kd.R_below (by (with_reducible repeat (first | apply Kd.R_alloc | apply Kd.R_drewN | apply Kd.R_drew)); exact HO200.out) hb)
          have n1_ := Aside0.mk (Kd.N_below (by (with_reducible repeat (first | apply Kd.N_alloc | apply Kd.N_drewN | apply Kd.N_drew)); exact HO203.out) hb)
          have n2_ := Aside0.mk (Kd.R_below (by (with_reducible repeat (first | apply Kd.R_alloc | apply Kd.R_drewN | apply Kd.R_drew)); exact HO206.out) hb)
          have n3_ := Aside0.mk (Kd.R_below (by (with_reducible repeat (first | apply Kd.R_alloc | apply Kd.R_drewN | apply Kd.R_drew)); exact HO212.out) hb)
          have n4_ := Aside0.mk (Kd.N_below (by (with_reducible repeat (first | apply Kd.N_alloc | apply Kd.N_drewN | apply Kd.N_drew)); exact HO215.out) hb)
          have n5_ := Aside0.mk (blk_below (g := gb193) (o := .cells #[.int .i64 t195, .string t196, .string t197, .slice Ao70 t198.length co70, .slice Ao71 t201.length co71] 25 (0, 0)) (by (with_reducible repeat (first | refine blk_drewN ?_ _ | refine blk_drew ?_ | refine blk_alloc ?_ _)); exact BK193.out) hb)
          have n6_ := Aside0.mk (blk_below (g := gb216) (o := .cells #[.int .i64 t207, .string t208, .string t209, .slice Ao80 t210.length co80, .slice Ao81 t213.length co81] 25 (0, 0)) (by (with_reducible repeat (first | refine blk_drewN ?_ _ | refine blk_drew ?_ | refine blk_alloc ?_ _)); exact BK216.out) hb)
          have n7_ := Aside0.mk (below_step (by repeat (first | (with_reducible first | exact HB.out | apply below_alloc | apply pw_below_drewN | apply below_drew1 | refine below_set ?_ GE193.out | refine below_set ?_ GE216.out) | exact HB.out)) hb)
          clear HO200
          clear HO203
          clear HO206
          clear HO212
          clear HO215
          clear BK193
          clear BK216
          clear HB
          have HO200 := n0_
          have HO203 := n1_
          have HO206 := n2_
          have HO212 := n3_
          have HO215 := n4_
          have BK193 := n5_
          have BK216 := n6_
          have HB := n7_
          clear n0_ n1_ n2_ n3_ n4_ n5_ n6_ n7_
          (try clear hb)
          (try clear hb2)
          (try clear hk)
          (try clear hi)
          refine hK.out _ _ ⟨(blk_cell BK216.out 0).trans rfl, (blk_cell BK216.out 1).trans rfl, (blk_cell BK216.out 2).trans rfl, (blk_cell BK216.out 3).trans rfl, (blk_cell BK216.out 4).trans rfl, (blk_cell BK193.out 0).trans rfl, (blk_cell BK193.out 1).trans rfl, (blk_cell BK193.out 2).trans rfl, (blk_cell BK193.out 3).trans rfl, (blk_cell BK193.out 4).trans rfl⟩ (fun hHeld => ?_)
          clear hK K
          refine norm_ (a' := ?_) ?_ ?_
          rotate_left
          · show Act.put _ (some 20) _ = _
            simp only [Act.put, List.setIfInBounds_toArray, List.set_cons_zero, List.set_cons_succ, i64_w, i32_w]
            rfl
          refine one_ (i := 8) (N := some 22) #[true, true, true, true, true, true, true, true, true, false, false, false, false, false, false, false, false, false, false, false, false, false] rfl rfl (one_of HT_.out (by kernel_rfl)) (by decide) (fun K hK => ?_)
          refine goes_ Try.func13 (by kernel_rfl) rfl #[.agg #[.int .i64 t195, .string t196, .string t197, .slice Ao70 t198.length co70, .slice Ao71 t201.length co71]] (by rfl) rfl rfl (by (try simp only [List.map_toArray, List.map_cons, List.map_nil]); first | done | rfl | (simp only [List.length_drop, List.length_take]; rfl)) ?_
          with_reducible refine (spec_TextOf.calls k t195 t196 t197 _ _ t198 _ _ t201 t219 _ ?side1 ?side2 ?side3 ?side4 A30.out).mono ?_
          (case side1 => repeat (first | exact (Kd.R_reads' HO200.out).2.2 | (with_reducible refine Kd.C_alloc ?_ _) | (with_reducible refine Kd.C_drewN ?_ _) | (with_reducible refine Kd.C_drew ?_)))
          (case side2 => exact (Kd.R_reads' HO200.out).2.1)
          (case side3 => repeat (first | exact (Kd.N_reads' HO203.out).2.2 | (with_reducible refine Kd.C_alloc ?_ _) | (with_reducible refine Kd.C_drewN ?_ _) | (with_reducible refine Kd.C_drew ?_)))
          (case side4 => exact (Kd.N_reads' HO203.out).2.1)
          rintro e w86 ⟨rfl, hb⟩
          refine ⟨_, rfl, ?_⟩
          have n0_ := Aside0.mk (Kd.R_below (by (with_reducible repeat (first | apply Kd.R_alloc | apply Kd.R_drewN | apply Kd.R_drew)); exact HO200.out) hb)
          have n1_ := Aside0.mk (Kd.N_below (by (with_reducible repeat (first | apply Kd.N_alloc | apply Kd.N_drewN | apply Kd.N_drew)); exact HO203.out) hb)
          have n2_ := Aside0.mk (Kd.R_below (by (with_reducible repeat (first | apply Kd.R_alloc | apply Kd.R_drewN | apply Kd.R_drew)); exact HO206.out) hb)
          have n3_ := Aside0.mk (Kd.R_below (by (with_reducible repeat (first | apply Kd.R_alloc | apply Kd.R_drewN | apply Kd.R_drew)); exact HO212.out) hb)
          have n4_ := Aside0.mk (Kd.N_below (by (with_reducible repeat (first | apply Kd.N_alloc | apply Kd.N_drewN | apply Kd.N_drew)); exact HO215.out) hb)
          have n5_ := Aside0.mk (blk_below (g := gb193) (o := .cells #[.int .i64 t195, .string t196, .string t197, .slice Ao70 t198.length co70, .slice Ao71 t201.length co71] 25 (0, 0)) (by (with_reducible repeat (first | refine blk_drewN ?_ _ | refine blk_drew ?_ | refine blk_alloc ?_ _)); exact BK193.out) hb)
          have n6_ := Aside0.mk (blk_below (g := gb216) (o := .cells #[.int .i64 t207, .string t208, .string t209, .slice Ao80 t210.length co80, .slice Ao81 t213.length co81] 25 (0, 0)) (by (with_reducible repeat (first | refine blk_drewN ?_ _ | refine blk_drew ?_ | refine blk_alloc ?_ _)); exact BK216.out) hb)
          have n7_ := Aside0.mk (below_step (by repeat (first | (with_reducible first | exact HB.out | apply below_alloc | apply pw_below_drewN | apply below_drew1 | refine below_set ?_ GE193.out | refine below_set ?_ GE216.out) | exact HB.out)) hb)
          clear HO200
          clear HO203
          clear HO206
          clear HO212
          clear HO215
          clear BK193
          clear BK216
          clear HB
          have HO200 := n0_
          have HO203 := n1_
          have HO206 := n2_
          have HO212 := n3_
          have HO215 := n4_
          have BK193 := n5_
          have BK216 := n6_
          have HB := n7_
          clear n0_ n1_ n2_ n3_ n4_ n5_ n6_ n7_
          (try clear hb)
          (try clear hb2)
          (try clear hk)
          (try clear hi)
          refine hK.out _ _ ⟨(blk_cell BK216.out 0).trans rfl, (blk_cell BK216.out 1).trans rfl, (blk_cell BK216.out 2).trans rfl, (blk_cell BK216.out 3).trans rfl, (blk_cell BK216.out 4).trans rfl, (blk_cell BK193.out 0).trans rfl, (blk_cell BK193.out 1).trans rfl, (blk_cell BK193.out 2).trans rfl, (blk_cell BK193.out 3).trans rfl, (blk_cell BK193.out 4).trans rfl⟩ (fun hHeld => ?_)
          clear hK K
          refine norm_ (a' := ?_) ?_ ?_
          rotate_left
          · show Act.put _ (some 22) _ = _
            simp only [Act.put, List.setIfInBounds_toArray, List.set_cons_zero, List.set_cons_succ, i64_w, i32_w]
            rfl
          refine pure_ (i := 9) (N := some 23) (v := ?_) (a' := ?_) #[true, true, true, true, true, true, true, true, true, true, false, false, false, false, false, false, false, false, false, false, false, false] rfl rfl (any_of HT_.out (by kernel_rfl)) (fun _ _ _ h => h) (Or.inl ⟨by rfl, ?_⟩) ?_ ?_
          rotate_left
          · intro w'
            go_simp
            with_reducible rfl
          rotate_left
          · simp only [Act.put, List.setIfInBounds_toArray, List.set_cons_zero, List.set_cons_succ, i64_w, i32_w]
            rfl
          refine pure_ (i := 10) (N := some 24) (v := ?_) (a' := ?_) #[true, true, true, true, true, true, true, true, true, true, true, false, false, false, false, false, false, false, false, false, false, false] rfl rfl (any_of HT_.out (by kernel_rfl)) (fun _ _ _ h => h) (Or.inl ⟨by rfl, ?_⟩) ?_ ?_
          rotate_left
          · intro w'
            go_simp
            with_reducible rfl
          rotate_left
          · simp only [Act.put, List.setIfInBounds_toArray, List.set_cons_zero, List.set_cons_succ, i64_w, i32_w]
            rfl
          refine pure_ (i := 11) (N := some 25) (v := ?_) (a' := ?_) #[true, true, true, true, true, true, true, true, true, true, true, true, false, false, false, false, false, false, false, false, false, false] rfl rfl (any_of HT_.out (by kernel_rfl)) (fun _ _ _ h => h) (Or.inl ⟨by rfl, ?_⟩) ?_ ?_
          rotate_left
          · intro w'
            go_simp
            with_reducible rfl
          rotate_left
          · simp only [Act.put, List.setIfInBounds_toArray, List.set_cons_zero, List.set_cons_succ, i64_w, i32_w]
            rfl
          refine pure_ (i := 13) (N := some 27) (v := ?_) (a' := ?_) #[true, true, true, true, true, true, true, true, true, true, true, true, false, true, false, false, false, false, false, false, false, false] rfl rfl (any_of HT_.out (by kernel_rfl)) (fun _ _ _ h => h) (Or.inl ⟨by rfl, ?_⟩) ?_ ?_
          rotate_left
          · intro w'
            go_simp
            with_reducible rfl
          rotate_left
          · simp only [Act.put, List.setIfInBounds_toArray, List.set_cons_zero, List.set_cons_succ, i64_w, i32_w]
            rfl
          refine take_ (i := 12) (N := some 26) (v := ?_) (a' := ?_) #[true, true, true, true, true, true, true, true, true, true, true, true, true, true, false, false, false, false, false, false, false, false] rfl rfl (take_ofW HT_.out HW_.out (by kernel_rfl)) (fun _ _ _ h => h) (Or.inl ⟨by rfl, ?_⟩) hHeld ?_ ?_
          rotate_left
          · rintro w' ⟨s0, s1, s2, s3, s4, s5, s6, s7, s8, s9⟩
            go_simp
            with_reducible rfl
          rotate_left
          · simp only [Act.put, List.setIfInBounds_toArray, List.set_cons_zero, List.set_cons_succ, i64_w, i32_w]
            rfl
          refine take_ (i := 15) (N := some 29) (v := ?_) (a' := ?_) #[true, true, true, true, true, true, true, true, true, true, true, true, true, true, false, true, false, false, false, false, false, false] rfl rfl (take_ofW HT_.out HW_.out (by kernel_rfl)) (fun _ _ _ h => h) (Or.inl ⟨by rfl, ?_⟩) hHeld ?_ ?_
          rotate_left
          · rintro w' ⟨s0, s1, s2, s3, s4, s5, s6, s7, s8, s9⟩
            go_simp
            with_reducible rfl
          rotate_left
          · simp only [Act.put, List.setIfInBounds_toArray, List.set_cons_zero, List.set_cons_succ, i64_w, i32_w]
            rfl
          refine one_ (i := 14) (N := some 28) #[true, true, true, true, true, true, true, true, true, true, true, true, true, true, true, true, false, false, false, false, false, false] rfl rfl (one_of HT_.out (by kernel_rfl)) (by decide) (fun K hK => ?_)
          refine goes_ Try.func11 (by kernel_rfl) rfl #[.agg #[.int .i64 t207, .string t208, .string t209, .slice Ao80 t210.length co80, .slice Ao81 t213.length co81], .slice Ao75 y204.length co75] (by rfl) rfl rfl (by (try simp only [List.map_toArray, List.map_cons, List.map_nil]); first | done | rfl | (simp only [List.length_drop, List.length_take]; rfl)) ?_
          with_reducible refine (impl_Redundant.calls k t207 t208 t209 _ _ t210 _ _ t213 _ _ y204 t220 t221 t222 t223 t226 _ ?side1 ?side2 ?side3 ?side4 ?side5 ?side6 A32.out).mono ?_
          (case side1 => repeat (first | exact (Kd.R_reads' HO212.out).2.2 | (with_reducible refine Kd.C_alloc ?_ _) | (with_reducible refine Kd.C_drewN ?_ _) | (with_reducible refine Kd.C_drew ?_)))
          (case side2 => exact (Kd.R_reads' HO212.out).2.1)
          (case side3 => repeat (first | exact (Kd.N_reads' HO215.out).2.2 | (with_reducible refine Kd.C_alloc ?_ _) | (with_reducible refine Kd.C_drewN ?_ _) | (with_reducible refine Kd.C_drew ?_)))
          (case side4 => exact (Kd.N_reads' HO215.out).2.1)
          (case side5 => repeat (first | exact (Kd.R_reads' HO206.out).2.2 | (with_reducible refine Kd.C_alloc ?_ _) | (with_reducible refine Kd.C_drewN ?_ _) | (with_reducible refine Kd.C_drew ?_)))
          (case side6 => exact (Kd.R_reads' HO206.out).2.1)
          rintro e w87 ⟨v224, v227, rfl, ho0, ho1, hb⟩
          refine ⟨_, rfl, ?_⟩
          have n0_ := Aside0.mk (Kd.R_elder' (by (with_reducible repeat (first | apply Kd.R_alloc | apply Kd.R_drewN | apply Kd.R_drew)); exact HO200.out) (Kd.R_base ho0) hb)
          have n1_ := Aside0.mk (Kd.N_mono (Kd.N_told (Kd.N_told (Kd.N_old (by (with_reducible repeat (first | apply Kd.N_alloc | apply Kd.N_drewN | apply Kd.N_drew)); exact HO203.out) hb) (Kd.R_base ho0)) (Kd.N_base ho1)) (fun _ h_ => h_.1))
          have n2_ := Aside0.mk (Kd.R_below (by (with_reducible repeat (first | apply Kd.R_alloc | apply Kd.R_drewN | apply Kd.R_drew)); exact HO206.out) hb)
          have n3_ := Aside0.mk (Kd.R_elder' (by (with_reducible repeat (first | apply Kd.R_alloc | apply Kd.R_drewN | apply Kd.R_drew)); exact HO212.out) (Kd.R_base ho0) hb)
          have n4_ := Aside0.mk (Kd.N_mono (Kd.N_told (Kd.N_told (Kd.N_old (by (with_reducible repeat (first | apply Kd.N_alloc | apply Kd.N_drewN | apply Kd.N_drew)); exact HO215.out) hb) (Kd.R_base ho0)) (Kd.N_base ho1)) (fun _ h_ => h_.1))
          have n5_ := Aside0.mk (Kd.R_lower (Kd.R_new' (Kd.R_new' (Kd.R_mono (ok' := fun k_ => True) ho0 (fun _ hk_ => trivial)) (Kd.R_lt (by (with_reducible repeat (first | apply Kd.R_alloc | apply Kd.R_drewN | apply Kd.R_drew)); exact HO200.out))) (Kd.R_lt (by (with_reducible repeat (first | apply Kd.R_alloc | apply Kd.R_drewN | apply Kd.R_drew)); exact HO212.out))) (below_size (by repeat (first | (with_reducible first | exact HB.out | apply below_alloc | apply pw_below_drewN | apply below_drew1 | refine below_set ?_ GE193.out | refine below_set ?_ GE216.out) | exact HB.out))))
          have n6_ := Aside0.mk (Kd.N_lower (Kd.N_mono (ok' := fun k_ => some k_ ≠ (v224 : Value).ownBlock ∧ some k_ ≠ (.slice Ao70 t198.length co70 : Value).ownBlock ∧ some k_ ≠ (.slice Ao71 t201.length co71 : Value).ownBlock ∧ some k_ ≠ (.slice Ao75 y204.length co75 : Value).ownBlock ∧ some k_ ≠ (.slice Ao80 t210.length co80 : Value).ownBlock ∧ some k_ ≠ (.slice Ao81 t213.length co81 : Value).ownBlock ∧ k_ ≠ gb193 ∧ k_ ≠ gb216) ho1 (fun k_ hk_ => ⟨hk_.2, (Kd.fresh' (Kd.R_lt (by (with_reducible repeat (first | apply Kd.R_alloc | apply Kd.R_drewN | apply Kd.R_drew)); exact HO200.out)) k_ hk_.1), (Kd.fresh' (Kd.N_lt (by (with_reducible repeat (first | apply Kd.N_alloc | apply Kd.N_drewN | apply Kd.N_drew)); exact HO203.out)) k_ hk_.1), (Kd.fresh' (Kd.R_lt (by (with_reducible repeat (first | apply Kd.R_alloc | apply Kd.R_drewN | apply Kd.R_drew)); exact HO206.out)) k_ hk_.1), (Kd.fresh' (Kd.R_lt (by (with_reducible repeat (first | apply Kd.R_alloc | apply Kd.R_drewN | apply Kd.R_drew)); exact HO212.out)) k_ hk_.1), (Kd.fresh' (Kd.N_lt (by (with_reducible repeat (first | apply Kd.N_alloc | apply Kd.N_drewN | apply Kd.N_drew)); exact HO215.out)) k_ hk_.1), (Kd.freshB (g := gb193) (o := .cells #[.int .i64 t195, .string t196, .string t197, .slice Ao70 t198.length co70, .slice Ao71 t201.length co71] 25 (0, 0)) (by (with_reducible repeat (first | refine blk_drewN ?_ _ | refine blk_drew ?_ | refine blk_alloc ?_ _)); exact BK193.out) k_ hk_.1), (Kd.freshB (g := gb216) (o := .cells #[.int .i64 t207, .string t208, .string t209, .slice Ao80 t210.length co80, .slice Ao81 t213.length co81] 25 (0, 0)) (by (with_reducible repeat (first | refine blk_drewN ?_ _ | refine blk_drew ?_ | refine blk_alloc ?_ _)); exact BK216.out) k_ hk_.1)⟩)) (below_size (by repeat (first | (with_reducible first | exact HB.out | apply below_alloc | apply pw_below_drewN | apply below_drew1 | refine below_set ?_ GE193.out | refine below_set ?_ GE216.out) | exact HB.out))))
          have n7_ := Aside0.mk (blk_below (g := gb193) (o := .cells #[.int .i64 t195, .string t196, .string t197, .slice Ao70 t198.length co70, .slice Ao71 t201.length co71] 25 (0, 0)) (by (with_reducible repeat (first | refine blk_drewN ?_ _ | refine blk_drew ?_ | refine blk_alloc ?_ _)); exact BK193.out) hb)
          have n8_ := Aside0.mk (blk_below (g := gb216) (o := .cells #[.int .i64 t207, .string t208, .string t209, .slice Ao80 t210.length co80, .slice Ao81 t213.length co81] 25 (0, 0)) (by (with_reducible repeat (first | refine blk_drewN ?_ _ | refine blk_drew ?_ | refine blk_alloc ?_ _)); exact BK216.out) hb)
          have n9_ := Aside0.mk (below_step (by repeat (first | (with_reducible first | exact HB.out | apply below_alloc | apply pw_below_drewN | apply below_drew1 | refine below_set ?_ GE193.out | refine below_set ?_ GE216.out) | exact HB.out)) hb)
          clear HO200
          clear HO203
          clear HO206
          clear HO212
          clear HO215
          clear BK193
          clear BK216
          clear HB
          have HO200 := n0_
          have HO203 := n1_
          have HO206 := n2_
          have HO212 := n3_
          have HO215 := n4_
          have HO225 := n5_
          have HO228 := n6_
          have BK193 := n7_
          have BK216 := n8_
          have HB := n9_
          clear n0_ n1_ n2_ n3_ n4_ n5_ n6_ n7_ n8_ n9_
          (try clear hb)
          (try clear hb2)
          (try clear hk)
          (try clear hi)
          (try clear ho0)
          (try clear ho1)
          obtain ⟨Ao88, co88, eo88⟩ := Kd.R_slice HO225.out
          (first | subst eo88 | (injection eo88 with f1_ f2_ f3_; have f4_ := f1_.symm; have f5_ := f3_.symm; clear f1_ f2_ f3_; subst f4_; subst f5_))
          obtain ⟨Ao89, co89, eo89⟩ := Kd.N_slice HO228.out
          (first | subst eo89 | (injection eo89 with f1_ f2_ f3_; have f4_ := f1_.symm; have f5_ := f3_.symm; clear f1_ f2_ f3_; subst f4_; subst f5_))
          refine hK.out _ _ ⟨(blk_cell BK216.out 0).trans rfl, (blk_cell BK216.out 1).trans rfl, (blk_cell BK216.out 2).trans rfl, (blk_cell BK216.out 3).trans rfl, (blk_cell BK216.out 4).trans rfl, (blk_cell BK193.out 0).trans rfl, (blk_cell BK193.out 1).trans rfl, (blk_cell BK193.out 2).trans rfl, (blk_cell BK193.out 3).trans rfl, (blk_cell BK193.out 4).trans rfl⟩ (fun hHeld => ?_)
          clear hK K
          refine norm_ (a' := ?_) ?_ ?_
          rotate_left
          · show Act.put _ (some 28) _ = _
            simp only [Act.put, List.setIfInBounds_toArray, List.set_cons_zero, List.set_cons_succ, i64_w, i32_w]
            rfl
          refine one_ (i := 16) (N := some 30) #[true, true, true, true, true, true, true, true, true, true, true, true, true, true, true, true, true, false, false, false, false, false] rfl rfl (one_of HT_.out (by kernel_rfl)) (by decide) (fun K hK => ?_)
          refine goes_ Try.func14 (by kernel_rfl) rfl #[.agg #[.int .i64 t220, .string t221, .string t222, .slice Ao88 t223.length co88, .slice Ao89 t226.length co89], .agg #[.int .i64 t207, .string t208, .string t209, .slice Ao80 t210.length co80, .slice Ao81 t213.length co81]] (by rfl) rfl rfl (by (try simp only [List.map_toArray, List.map_cons, List.map_nil]); first | done | rfl | (simp only [List.length_drop, List.length_take]; rfl)) ?_
          with_reducible refine (spec_SameTree.calls k t220 t221 t222 _ _ t223 _ _ t226 t207 t208 t209 _ _ t210 _ _ t213 false _ ?side1 ?side2 ?side3 ?side4 ?side5 ?side6 ?side7 ?side8 A33.out).mono ?_
          (case side1 => repeat (first | exact (Kd.R_reads' HO225.out).2.2 | (with_reducible refine Kd.C_alloc ?_ _) | (with_reducible refine Kd.C_drewN ?_ _) | (with_reducible refine Kd.C_drew ?_)))
          (case side2 => exact (Kd.R_reads' HO225.out).2.1)
          (case side3 => repeat (first | exact (Kd.N_reads' HO228.out).2.2 | (with_reducible refine Kd.C_alloc ?_ _) | (with_reducible refine Kd.C_drewN ?_ _) | (with_reducible refine Kd.C_drew ?_)))
          (case side4 => exact (Kd.N_reads' HO228.out).2.1)
          (case side5 => repeat (first | exact (Kd.R_reads' HO212.out).2.2 | (with_reducible refine Kd.C_alloc ?_ _) | (with_reducible refine Kd.C_drewN ?_ _) | (with_reducible refine Kd.C_drew ?_)))
          (case side6 => exact (Kd.R_reads' HO212.out).2.1)
          (case side7 => repeat (first | exact (Kd.N_reads' HO215.out).2.2 | (with_reducible refine Kd.C_alloc ?_ _) | (with_reducible refine Kd.C_drewN ?_ _) | (with_reducible refine Kd.C_drew ?_)))
          (case side8 => exact (Kd.N_reads' HO215.out).2.1)
          rintro e w90 ⟨rfl, hb⟩
          refine ⟨_, rfl, ?_⟩
          have n0_ := Aside0.mk (Kd.R_below (by (with_reducible repeat (first | apply Kd.R_alloc | apply Kd.R_drewN | apply Kd.R_drew)); exact HO200.out) hb)
          have n1_ := Aside0.mk (Kd.N_below (by (with_reducible repeat (first | apply Kd.N_alloc | apply Kd.N_drewN | apply Kd.N_drew)); exact HO203.out) hb)
          have n2_ := Aside0.mk (Kd.R_below (by (with_reducible repeat (first | apply Kd.R_alloc | apply Kd.R_drewN | apply Kd.R_drew)); exact HO206.out) hb)
          have n3_ := Aside0.mk (Kd.R_below (by (with_reducible repeat (first | apply Kd.R_alloc | apply Kd.R_drewN | apply Kd.R_drew)); exact HO212.out) hb)
          have n4_ := Aside0.mk (Kd.N_below (by (with_reducible repeat (first | apply Kd.N_alloc | apply Kd.N_drewN | apply Kd.N_drew)); exact HO215.out) hb)
          have n5_ := Aside0.mk (Kd.R_below (by (with_reducible repeat (first | apply Kd.R_alloc | apply Kd.R_drewN | apply Kd.R_drew)); exact HO225.out) hb)
          have n6_ := Aside0.mk (Kd.N_below (by (with_reducible repeat (first | apply Kd.N_alloc | apply Kd.N_drewN | apply Kd.N_drew)); exact HO228.out) hb)
          have n7_ := Aside0.mk (blk_below (g := gb193) (o := .cells #[.int .i64 t195, .string t196, .string t197, .slice Ao70 t198.length co70, .slice Ao71 t201.length co71] 25 (0, 0)) (by (with_reducible repeat (first | refine blk_drewN ?_ _ | refine blk_drew ?_ | refine blk_alloc ?_ _)); exact BK193.out) hb)
          have n8_ := Aside0.mk (blk_below (g := gb216) (o := .cells #[.int .i64 t207, .string t208, .string t209, .slice Ao80 t210.length co80, .slice Ao81 t213.length co81] 25 (0, 0)) (by (with_reducible repeat (first | refine blk_drewN ?_ _ | refine blk_drew ?_ | refine blk_alloc ?_ _)); exact BK216.out) hb)
          have n9_ := Aside0.mk (below_step (by repeat (first | (with_reducible first | exact HB.out | apply below_alloc | apply pw_below_drewN | apply below_drew1 | refine below_set ?_ GE193.out | refine below_set ?_ GE216.out) | exact HB.out)) hb)
          clear HO200
          clear HO203
          clear HO206
          clear HO212
          clear HO215
          clear HO225
          clear HO228
          clear BK193
          clear BK216
          clear HB
          have HO200 := n0_
          have HO203 := n1_
          have HO206 := n2_
          have HO212 := n3_
          have HO215 := n4_
          have HO225 := n5_
          have HO228 := n6_
          have BK193 := n7_
          have BK216 := n8_
          have HB := n9_
          clear n0_ n1_ n2_ n3_ n4_ n5_ n6_ n7_ n8_ n9_
          (try clear hb)
          (try clear hb2)
          (try clear hk)
          (try clear hi)
          refine hK.out _ _ ⟨(blk_cell BK216.out 0).trans rfl, (blk_cell BK216.out 1).trans rfl, (blk_cell BK216.out 2).trans rfl, (blk_cell BK216.out 3).trans rfl, (blk_cell BK216.out 4).trans rfl, (blk_cell BK193.out 0).trans rfl, (blk_cell BK193.out 1).trans rfl, (blk_cell BK193.out 2).trans rfl, (blk_cell BK193.out 3).trans rfl, (blk_cell BK193.out 4).trans rfl⟩ (fun hHeld => ?_)
          clear hK K
          refine norm_ (a' := ?_) ?_ ?_
          rotate_left
          · show Act.put _ (some 30) _ = _
            simp only [Act.put, List.setIfInBounds_toArray, List.set_cons_zero, List.set_cons_succ, i64_w, i32_w]
            rfl
          refine pure_ (i := 17) (N := some 31) (v := ?_) (a' := ?_) #[true, true, true, true, true, true, true, true, true, true, true, true, true, true, true, true, true, true, false, false, false, false] rfl rfl (any_of HT_.out (by kernel_rfl)) (fun _ _ _ h => h) (Or.inl ⟨by rfl, ?_⟩) ?_ ?_
          rotate_left
          · intro w'
            go_simp
            with_reducible rfl
          rotate_left
          · simp only [Act.put, List.setIfInBounds_toArray, List.set_cons_zero, List.set_cons_succ, i64_w, i32_w]
            rfl
          refine pure_ (i := 18) (N := some 32) (v := ?_) (a' := ?_) #[true, true, true, true, true, true, true, true, true, true, true, true, true, true, true, true, true, true, true, false, false, false] rfl rfl (any_of HT_.out (by kernel_rfl)) (fun _ _ _ h => h) (Or.inl ⟨by rfl, ?_⟩) ?_ ?_
          rotate_left
          · intro w'
            go_simp
            with_reducible rfl
          rotate_left
          · simp only [Act.put, List.setIfInBounds_toArray, List.set_cons_zero, List.set_cons_succ, i64_w, i32_w]
            rfl
          refine pure_ (i := 19) (N := some 33) (v := undef) (a' := ?_) #[true, true, true, true, true, true, true, true, true, true, true, true, true, true, true, true, true, true, true, true, false, false] rfl rfl (any_of HT_.out (by kernel_rfl)) (fun _ _ _ h => h) (Or.inr ⟨by rfl, rfl⟩) ?_ ?_
          rotate_left
          · simp only [Act.put, List.setIfInBounds_toArray, List.set_cons_zero, List.set_cons_succ, i64_w, i32_w]
            rfl
          refine pure_ (i := 20) (N := some 34) (v := ?_) (a' := ?_) #[true, true, true, true, true, true, true, true, true, true, true, true, true, true, true, true, true, true, true, true, true, false] rfl rfl (any_of HT_.out (by kernel_rfl)) (fun _ _ _ h => h) (Or.inl ⟨by rfl, ?_⟩) ?_ ?_
          rotate_left
          · intro w'
            go_simp
            with_reducible rfl
          rotate_left
          · simp only [Act.put, List.setIfInBounds_toArray, List.set_cons_zero, List.set_cons_succ, i64_w, i32_w]
            rfl
          refine pure_ (i := 21) (N := some 2) (v := ?_) (a' := ?_) #[true, true, true, true, true, true, true, true, true, true, true, true, true, true, true, true, true, true, true, true, true, true] rfl rfl (any_of HT_.out (by kernel_rfl)) (fun _ _ _ h => h) (Or.inl ⟨by rfl, ?_⟩) ?_ ?_
          rotate_left
          · intro w'
            go_simp
            with_reducible rfl
          rotate_left
          · simp only [Act.put, List.setIfInBounds_toArray, List.set_cons_zero, List.set_cons_succ, i64_w, i32_w]
            rfl
          refine done_ (done_of HT_.out (by kernel_rfl)) ?_
          try go_wp2
          go_ret
          exact ⟨by first | rfl | (simp [errW_none, errW_some] <;> rfl) | (simp [*, errW_none, errW_some] <;> rfl), by repeat (first | (with_reducible first | exact HB.out | apply below_alloc | apply pw_below_drewN | apply below_drew1 | refine below_set ?_ GE193.out | refine below_set ?_ GE216.out) | exact HB.out)⟩
      · rw [if_neg c31] at H
        have c31b0 : (t218.toList == t219.toList) = false := beq_eq_false_iff_ne.mpr c31
        have c31b1 : (t218.toList != t219.toList) = true := bne_iff_ne.mpr c31
        obtain rfl := Option.some.inj H
        go_enter Try.func3, Try.ntmps3
        try go_wp2_with (first | ((with_reducible refine gate_dst (N := 1) rfl ?_); refine box_event ?hg (N := 1) ?hd (cs := #[.int .i64 a0_0, .string a0_1, .string a0_2, .slice A0_3 l0_3.length c0_3, .slice A0_4 l0_4.length c0_4]) (t := 25) ?hr ?_; (case hd => rfl); (case hg => rfl); (case hr => first | (go_simp; done) | (go_simp; rfl)); intro gb193 hg w91 hbox hb; have n0_ := Aside0.mk (below_step (by repeat (first | (with_reducible first | exact HB.out | apply below_alloc | apply pw_below_drewN | apply below_drew1) | exact HB.out)) hb); have n1_ := Aside0.mk (hbox); have n2_ := Aside0.mk ((by rw [hg]; exact (below_size (by repeat (first | (with_reducible first | exact HB.out | apply below_alloc | apply pw_below_drewN | apply below_drew1) | exact HB.out))) : w.heap.size ≤ gb193)); have n3_ := Aside0.mk ((by rw [hg]; exact (below_size (by repeat (first | (with_reducible first | exact HB.out | apply below_alloc | apply pw_below_drewN | apply below_drew1) | exact HB.out))) : w.heap.size ≤ gb193)); clear HB; have HB := n0_; have BK193 := n1_; have GW193 := n2_; have GE193 := n3_; clear n0_ n1_ n2_ n3_; clear hb hbox hg; have hcz92_0 : w91.cell? ⟨gb193, 0, none⟩ = some (.int .i64 a0_0) := (blk_cell BK193.out 0).trans rfl; have hcz92_1 : w91.cell? ⟨gb193, 1, none⟩ = some (.string a0_1) := (blk_cell BK193.out 1).trans rfl; have hcz92_2 : w91.cell? ⟨gb193, 2, none⟩ = some (.string a0_2) := (blk_cell BK193.out 2).trans rfl; have hcz92_3 : w91.cell? ⟨gb193, 3, none⟩ = some (.slice A0_3 l0_3.length c0_3) := (blk_cell BK193.out 3).trans rfl; have hcz92_4 : w91.cell? ⟨gb193, 4, none⟩ = some (.slice A0_4 l0_4.length c0_4) := (blk_cell BK193.out 4).trans rfl; have hfz92_0 := blk_frozen BK193.out 0; have hfz92_1 := blk_frozen BK193.out 1; have hfz92_2 := blk_frozen BK193.out 2; have hfz92_3 := blk_frozen BK193.out 3; have hfz92_4 := blk_frozen BK193.out 4) | ((with_reducible refine gate_callee (f := 9) rfl ?_); refine goesL_ (some 6) rfl rfl Try.func9 (by kernel_rfl) rfl #[.agg #[.int .i64 a0_0, .string a0_1, .string a0_2, .slice A0_3 l0_3.length c0_3, .slice A0_4 l0_4.length c0_4]] rfl (by (try simp only [List.map_toArray, List.map_cons, List.map_nil]); first | done | rfl | (simp only [List.length_drop, List.length_take]; rfl)) ?_; (with_reducible refine (laws_zzFits2.calls k a0_0 a0_1 a0_2 _ _ l0_3 _ _ l0_4 true _ ?side1 ?side2 ?side3 ?side4 A2.out).mono ?_); (case side1 => repeat (first | exact (Kd.C_below HR0_3.out HB.out) | (with_reducible refine Kd.C_alloc ?_ _) | (with_reducible refine Kd.C_drewN ?_ _) | (with_reducible refine Kd.C_drew ?_))); (case side2 => exact HC0_3.out); (case side3 => repeat (first | exact (Kd.C_below HR0_4.out HB.out) | (with_reducible refine Kd.C_alloc ?_ _) | (with_reducible refine Kd.C_drewN ?_ _) | (with_reducible refine Kd.C_drew ?_))); (case side4 => exact HC0_4.out); rintro e w93 ⟨rfl, hb⟩; refine ⟨_, rfl, ?_⟩; have n0_ := Aside0.mk (blk_below (g := gb193) (o := .cells #[.int .i64 a0_0, .string a0_1, .string a0_2, .slice A0_3 l0_3.length c0_3, .slice A0_4 l0_4.length c0_4] 25 (0, 0)) (by (with_reducible repeat (first | refine blk_drewN ?_ _ | refine blk_drew ?_ | refine blk_alloc ?_ _)); exact BK193.out) hb); have n1_ := Aside0.mk (below_step (by repeat (first | (with_reducible first | exact HB.out | apply below_alloc | apply pw_below_drewN | apply below_drew1 | refine below_set ?_ GE193.out) | exact HB.out)) hb); clear BK193; clear HB; have BK193 := n0_; have HB := n1_; clear n0_ n1_; (try clear hb); (try clear hb2); (try clear hk); (try clear hi); have hcz94_0 : w93.cell? ⟨gb193, 0, none⟩ = some (.int .i64 a0_0) := (blk_cell BK193.out 0).trans rfl; have hcz94_1 : w93.cell? ⟨gb193, 1, none⟩ = some (.string a0_1) := (blk_cell BK193.out 1).trans rfl; have hcz94_2 : w93.cell? ⟨gb193, 2, none⟩ = some (.string a0_2) := (blk_cell BK193.out 2).trans rfl; have hcz94_3 : w93.cell? ⟨gb193, 3, none⟩ = some (.slice A0_3 l0_3.length c0_3) := (blk_cell BK193.out 3).trans rfl; have hcz94_4 : w93.cell? ⟨gb193, 4, none⟩ = some (.slice A0_4 l0_4.length c0_4) := (blk_cell BK193.out 4).trans rfl; have hfz94_0 := blk_frozen BK193.out 0; have hfz94_1 := blk_frozen BK193.out 1; have hfz94_2 := blk_frozen BK193.out 2; have hfz94_3 := blk_frozen BK193.out 3; have hfz94_4 := blk_frozen BK193.out 4) | ((with_reducible refine gate_callee (f := 10) rfl ?_); refine goesL_ (some 9) rfl rfl Try.func10 (by kernel_rfl) rfl #[.agg #[.int .i64 a0_0, .string a0_1, .string a0_2, .slice A0_3 l0_3.length c0_3, .slice A0_4 l0_4.length c0_4]] rfl (by (try simp only [List.map_toArray, List.map_cons, List.map_nil]); first | done | rfl | (simp only [List.length_drop, List.length_take]; rfl)) ?_; (with_reducible refine (laws_inlineCutTree.calls k a0_0 a0_1 a0_2 _ _ l0_3 _ _ l0_4 t195 t196 t197 t198 t201 _ ?side1 ?side2 ?side3 ?side4 A4.out).mono ?_); (case side1 => repeat (first | exact (Kd.C_below HR0_3.out HB.out) | (with_reducible refine Kd.C_alloc ?_ _) | (with_reducible refine Kd.C_drewN ?_ _) | (with_reducible refine Kd.C_drew ?_))); (case side2 => exact HC0_3.out); (case side3 => repeat (first | exact (Kd.C_below HR0_4.out HB.out) | (with_reducible refine Kd.C_alloc ?_ _) | (with_reducible refine Kd.C_drewN ?_ _) | (with_reducible refine Kd.C_drew ?_))); (case side4 => exact HC0_4.out); rintro e w95 ⟨v199, v202, rfl, ho0, ho1, hb⟩; refine ⟨_, rfl, ?_⟩; have n0_ := Aside0.mk (Kd.R_lower (Kd.R_mono (ok' := fun k_ => True) ho0 (fun _ hk_ => trivial)) (below_size (by repeat (first | (with_reducible first | exact HB.out | apply below_alloc | apply pw_below_drewN | apply below_drew1 | refine below_set ?_ GE193.out) | exact HB.out)))); have n1_ := Aside0.mk (Kd.N_lower (Kd.N_mono (ok' := fun k_ => some k_ ≠ (v199 : Value).ownBlock ∧ k_ ≠ gb193) ho1 (fun k_ hk_ => ⟨hk_.2, (Kd.freshB (g := gb193) (o := .cells #[.int .i64 a0_0, .string a0_1, .string a0_2, .slice A0_3 l0_3.length c0_3, .slice A0_4 l0_4.length c0_4] 25 (0, 0)) (by (with_reducible repeat (first | refine blk_drewN ?_ _ | refine blk_drew ?_ | refine blk_alloc ?_ _)); exact BK193.out) k_ hk_.1)⟩)) (below_size (by repeat (first | (with_reducible first | exact HB.out | apply below_alloc | apply pw_below_drewN | apply below_drew1 | refine below_set ?_ GE193.out) | exact HB.out)))); have n2_ := Aside0.mk (blk_below (g := gb193) (o := .cells #[.int .i64 a0_0, .string a0_1, .string a0_2, .slice A0_3 l0_3.length c0_3, .slice A0_4 l0_4.length c0_4] 25 (0, 0)) (by (with_reducible repeat (first | refine blk_drewN ?_ _ | refine blk_drew ?_ | refine blk_alloc ?_ _)); exact BK193.out) hb); have n3_ := Aside0.mk (below_step (by repeat (first | (with_reducible first | exact HB.out | apply below_alloc | apply pw_below_drewN | apply below_drew1 | refine below_set ?_ GE193.out) | exact HB.out)) hb); clear BK193; clear HB; have HO200 := n0_; have HO203 := n1_; have BK193 := n2_; have HB := n3_; clear n0_ n1_ n2_ n3_; (try clear hb); (try clear hb2); (try clear hk); (try clear hi); (try clear ho0); (try clear ho1); have hcz96_0 : w95.cell? ⟨gb193, 0, none⟩ = some (.int .i64 a0_0) := (blk_cell BK193.out 0).trans rfl; have hcz96_1 : w95.cell? ⟨gb193, 1, none⟩ = some (.string a0_1) := (blk_cell BK193.out 1).trans rfl; have hcz96_2 : w95.cell? ⟨gb193, 2, none⟩ = some (.string a0_2) := (blk_cell BK193.out 2).trans rfl; have hcz96_3 : w95.cell? ⟨gb193, 3, none⟩ = some (.slice A0_3 l0_3.length c0_3) := (blk_cell BK193.out 3).trans rfl; have hcz96_4 : w95.cell? ⟨gb193, 4, none⟩ = some (.slice A0_4 l0_4.length c0_4) := (blk_cell BK193.out 4).trans rfl; have hfz96_0 := blk_frozen BK193.out 0; have hfz96_1 := blk_frozen BK193.out 1; have hfz96_2 := blk_frozen BK193.out 2; have hfz96_3 := blk_frozen BK193.out 3; have hfz96_4 := blk_frozen BK193.out 4; obtain ⟨Ao97, co97, eo97⟩ := Kd.R_slice HO200.out; subst eo97; obtain ⟨Ao98, co98, eo98⟩ := Kd.N_slice HO203.out; subst eo98) | ((with_reducible refine gate_dst (N := 10) rfl ?_); refine Kd.R_lit Kd.string _ 9 ?hg (N := 10) ?hd (xs := ([(⟨#[98]⟩ : ByteArray), (⟨#[115, 116, 114, 111, 110, 103]⟩ : ByteArray)] : List ByteArray)) (inner := [.string (⟨#[98]⟩ : ByteArray), .string (⟨#[115, 116, 114, 111, 110, 103]⟩ : ByteArray)]) (ok := fun _ => True) (okp := fun _ => True) ?hr ?hp (fun _ hk => hk) trivial (Below.refl _ _) (Nat.le_refl _) (by simp) ?_; (case hd => rfl); (case hg => rfl); (case hr => first | (go_simp; done) | (go_simp; rfl)); (case hp => exact (Reps.one (show Kd.M Kd.string _ _ _ (⟨#[98]⟩ : ByteArray) [.string (⟨#[98]⟩ : ByteArray)] from rfl) (Reps.one (show Kd.M Kd.string _ _ _ (⟨#[115, 116, 114, 111, 110, 103]⟩ : ByteArray) [.string (⟨#[115, 116, 114, 111, 110, 103]⟩ : ByteArray)] from rfl) (Reps.none _ _)))); intro v205 w99 ho100 hb hg_ hnew_; clear hg_ hnew_; (first | rw [← Ny204.out] at ho100 | (simp only [Int.reduceToNat] at ho100; rw [← Ny204.out] at ho100)); have n0_ := Aside0.mk (Kd.R_below (by (with_reducible repeat (first | apply Kd.R_alloc | apply Kd.R_drewN | apply Kd.R_drew)); exact (Kd.R_mono (Kd.R_far (p := ⟨gb193, 4, none⟩) (Kd.R_far (p := ⟨gb193, 3, none⟩) (Kd.R_far (p := ⟨gb193, 2, none⟩) (Kd.R_far (p := ⟨gb193, 1, none⟩) (Kd.R_far (p := ⟨gb193, 0, none⟩) (Kd.R_types HO200.out BK193.out (by decide)) (fun _ hk => hk.2) (.int .i64 t195)) (fun _ hk => hk.2) (.string t196)) (fun _ hk => hk.2) (.string t197)) (fun _ hk => hk.2) (.slice Ao97 t198.length co97)) (fun _ hk => hk.2) (.slice Ao98 t201.length co98)) (fun _ h_ => h_.1))) hb); have n1_ := Aside0.mk (Kd.N_elder' (by (with_reducible repeat (first | apply Kd.N_alloc | apply Kd.N_drewN | apply Kd.N_drew)); exact (Kd.N_mono (Kd.N_far (p := ⟨gb193, 4, none⟩) (Kd.N_far (p := ⟨gb193, 3, none⟩) (Kd.N_far (p := ⟨gb193, 2, none⟩) (Kd.N_far (p := ⟨gb193, 1, none⟩) (Kd.N_far (p := ⟨gb193, 0, none⟩) (Kd.N_mono HO203.out (fun k_ hk => (⟨hk, hk.2⟩ : _ ∧ k_ ≠ gb193))) (fun _ hk => hk.2) (.int .i64 t195)) (fun _ hk => hk.2) (.string t196)) (fun _ hk => hk.2) (.string t197)) (fun _ hk => hk.2) (.slice Ao97 t198.length co97)) (fun _ hk => hk.2) (.slice Ao98 t201.length co98)) (fun _ h_ => h_.1))) (Kd.R_base ho100) hb); have n2_ := Aside0.mk (Kd.R_lower ho100 (below_size (by repeat (first | (with_reducible first | exact HB.out | apply below_alloc | apply pw_below_drewN | apply below_drew1 | refine below_set ?_ GE193.out) | exact HB.out)))); have n3_ := Aside0.mk (blk_below (g := gb193) (o := .cells #[.int .i64 t195, .string t196, .string t197, .slice Ao97 t198.length co97, .slice Ao98 t201.length co98] 25 (0, 0)) (by (with_reducible repeat (first | refine blk_drewN ?_ _ | refine blk_drew ?_ | refine blk_alloc ?_ _)); refine blk_put (cs := #[.int .i64 t195, .string t196, .string t197, .slice Ao97 t198.length co97, .slice A0_4 l0_4.length c0_4]) ?_ 4 _ rfl; (with_reducible repeat (first | refine blk_drewN ?_ _ | refine blk_drew ?_ | refine blk_alloc ?_ _)); refine blk_put (cs := #[.int .i64 t195, .string t196, .string t197, .slice A0_3 l0_3.length c0_3, .slice A0_4 l0_4.length c0_4]) ?_ 3 _ rfl; (with_reducible repeat (first | refine blk_drewN ?_ _ | refine blk_drew ?_ | refine blk_alloc ?_ _)); refine blk_put (cs := #[.int .i64 t195, .string t196, .string a0_2, .slice A0_3 l0_3.length c0_3, .slice A0_4 l0_4.length c0_4]) ?_ 2 _ rfl; (with_reducible repeat (first | refine blk_drewN ?_ _ | refine blk_drew ?_ | refine blk_alloc ?_ _)); refine blk_put (cs := #[.int .i64 t195, .string a0_1, .string a0_2, .slice A0_3 l0_3.length c0_3, .slice A0_4 l0_4.length c0_4]) ?_ 1 _ rfl; (with_reducible repeat (first | refine blk_drewN ?_ _ | refine blk_drew ?_ | refine blk_alloc ?_ _)); refine blk_put (cs := #[.int .i64 a0_0, .string a0_1, .string a0_2, .slice A0_3 l0_3.length c0_3, .slice A0_4 l0_4.length c0_4]) ?_ 0 _ rfl; (with_reducible repeat (first | refine blk_drewN ?_ _ | refine blk_drew ?_ | refine blk_alloc ?_ _)); exact BK193.out) hb); have n4_ := Aside0.mk (below_step (by repeat (first | (with_reducible first | exact HB.out | apply below_alloc | apply pw_below_drewN | apply below_drew1 | refine below_set ?_ GE193.out) | exact HB.out)) hb); clear HO200; clear HO203; clear BK193; clear HB; have HO200 := n0_; have HO203 := n1_; have HO206 := n2_; have BK193 := n3_; have HB := n4_; clear n0_ n1_ n2_ n3_ n4_; clear hb ho100; have hcz101_0 : w99.cell? ⟨gb193, 0, none⟩ = some (.int .i64 t195) := (blk_cell BK193.out 0).trans rfl; have hcz101_1 : w99.cell? ⟨gb193, 1, none⟩ = some (.string t196) := (blk_cell BK193.out 1).trans rfl; have hcz101_2 : w99.cell? ⟨gb193, 2, none⟩ = some (.string t197) := (blk_cell BK193.out 2).trans rfl; have hcz101_3 : w99.cell? ⟨gb193, 3, none⟩ = some (.slice Ao97 t198.length co97) := (blk_cell BK193.out 3).trans rfl; have hcz101_4 : w99.cell? ⟨gb193, 4, none⟩ = some (.slice Ao98 t201.length co98) := (blk_cell BK193.out 4).trans rfl; have hfz101_0 := blk_frozen BK193.out 0; have hfz101_1 := blk_frozen BK193.out 1; have hfz101_2 := blk_frozen BK193.out 2; have hfz101_3 := blk_frozen BK193.out 3; have hfz101_4 := blk_frozen BK193.out 4; obtain ⟨Ao102, co102, eo102⟩ := Kd.R_slice HO206.out; subst eo102) | ((with_reducible refine gate_callee (f := 11) rfl ?_); refine goesL_ (some 13) rfl rfl Try.func11 (by kernel_rfl) rfl #[.agg #[.int .i64 t195, .string t196, .string t197, .slice Ao97 t198.length co97, .slice Ao98 t201.length co98], .slice Ao102 y204.length co102] rfl (by (try simp only [List.map_toArray, List.map_cons, List.map_nil]); first | done | rfl | (simp only [List.length_drop, List.length_take]; rfl)) ?_; (with_reducible refine (impl_Redundant.calls k t195 t196 t197 _ _ t198 _ _ t201 _ _ y204 t207 t208 t209 t210 t213 _ ?side1 ?side2 ?side3 ?side4 ?side5 ?side6 A5.out).mono ?_); (case side1 => repeat (first | exact (Kd.R_reads' HO200.out).2.2 | (with_reducible refine Kd.C_alloc ?_ _) | (with_reducible refine Kd.C_drewN ?_ _) | (with_reducible refine Kd.C_drew ?_))); (case side2 => exact (Kd.R_reads' HO200.out).2.1); (case side3 => repeat (first | exact (Kd.N_reads' HO203.out).2.2 | (with_reducible refine Kd.C_alloc ?_ _) | (with_reducible refine Kd.C_drewN ?_ _) | (with_reducible refine Kd.C_drew ?_))); (case side4 => exact (Kd.N_reads' HO203.out).2.1); (case side5 => repeat (first | exact (Kd.R_reads' HO206.out).2.2 | (with_reducible refine Kd.C_alloc ?_ _) | (with_reducible refine Kd.C_drewN ?_ _) | (with_reducible refine Kd.C_drew ?_))); (case side6 => exact (Kd.R_reads' HO206.out).2.1); rintro e w103 ⟨v211, v214, rfl, ho0, ho1, hb⟩; refine ⟨_, rfl, ?_⟩; have n0_ := Aside0.mk (Kd.R_elder' (by (with_reducible repeat (first | apply Kd.R_alloc | apply Kd.R_drewN | apply Kd.R_drew)); exact HO200.out) (Kd.R_base ho0) hb); have n1_ := Aside0.mk (Kd.N_mono (Kd.N_told (Kd.N_told (Kd.N_old (by (with_reducible repeat (first | apply Kd.N_alloc | apply Kd.N_drewN | apply Kd.N_drew)); exact HO203.out) hb) (Kd.R_base ho0)) (Kd.N_base ho1)) (fun _ h_ => h_.1)); have n2_ := Aside0.mk (Kd.R_below (by (with_reducible repeat (first | apply Kd.R_alloc | apply Kd.R_drewN | apply Kd.R_drew)); exact HO206.out) hb); have n3_ := Aside0.mk (Kd.R_lower (Kd.R_new' (Kd.R_mono (ok' := fun k_ => True) ho0 (fun _ hk_ => trivial)) (Kd.R_lt (by (with_reducible repeat (first | apply Kd.R_alloc | apply Kd.R_drewN | apply Kd.R_drew)); exact HO200.out))) (below_size (by repeat (first | (with_reducible first | exact HB.out | apply below_alloc | apply pw_below_drewN | apply below_drew1 | refine below_set ?_ GE193.out) | exact HB.out)))); have n4_ := Aside0.mk (Kd.N_lower (Kd.N_mono (ok' := fun k_ => some k_ ≠ (v211 : Value).ownBlock ∧ some k_ ≠ (.slice Ao97 t198.length co97 : Value).ownBlock ∧ some k_ ≠ (.slice Ao98 t201.length co98 : Value).ownBlock ∧ some k_ ≠ (.slice Ao102 y204.length co102 : Value).ownBlock ∧ k_ ≠ gb193) ho1 (fun k_ hk_ => ⟨hk_.2, (Kd.fresh' (Kd.R_lt (by (with_reducible repeat (first | apply Kd.R_alloc | apply Kd.R_drewN | apply Kd.R_drew)); exact HO200.out)) k_ hk_.1), (Kd.fresh' (Kd.N_lt (by (with_reducible repeat (first | apply Kd.N_alloc | apply Kd.N_drewN | apply Kd.N_drew)); exact HO203.out)) k_ hk_.1), (Kd.fresh' (Kd.R_lt (by (with_reducible repeat (first | apply Kd.R_alloc | apply Kd.R_drewN | apply Kd.R_drew)); exact HO206.out)) k_ hk_.1), (Kd.freshB (g := gb193) (o := .cells #[.int .i64 t195, .string t196, .string t197, .slice Ao97 t198.length co97, .slice Ao98 t201.length co98] 25 (0, 0)) (by (with_reducible repeat (first | refine blk_drewN ?_ _ | refine blk_drew ?_ | refine blk_alloc ?_ _)); exact BK193.out) k_ hk_.1)⟩)) (below_size (by repeat (first | (with_reducible first | exact HB.out | apply below_alloc | apply pw_below_drewN | apply below_drew1 | refine below_set ?_ GE193.out) | exact HB.out)))); have n5_ := Aside0.mk (blk_below (g := gb193) (o := .cells #[.int .i64 t195, .string t196, .string t197, .slice Ao97 t198.length co97, .slice Ao98 t201.length co98] 25 (0, 0)) (by (with_reducible repeat (first | refine blk_drewN ?_ _ | refine blk_drew ?_ | refine blk_alloc ?_ _)); exact BK193.out) hb); have n6_ := Aside0.mk (below_step (by repeat (first | (with_reducible first | exact HB.out | apply below_alloc | apply pw_below_drewN | apply below_drew1 | refine below_set ?_ GE193.out) | exact HB.out)) hb); clear HO200; clear HO203; clear HO206; clear BK193; clear HB; have HO200 := n0_; have HO203 := n1_; have HO206 := n2_; have HO212 := n3_; have HO215 := n4_; have BK193 := n5_; have HB := n6_; clear n0_ n1_ n2_ n3_ n4_ n5_ n6_; (try clear hb); (try clear hb2); (try clear hk); (try clear hi); (try clear ho0); (try clear ho1)) | ((with_reducible refine gate_dst (N := 4) rfl ?_); refine box_event ?hg (N := 4) ?hd (cs := #[.int .i64 0, .string (⟨#[]⟩ : ByteArray), .string (⟨#[]⟩ : ByteArray), .slice none 0 0, .slice none 0 0]) (t := 25) ?hr ?_; (case hd => rfl); (case hg => rfl); (case hr => first | (go_simp; done) | (go_simp; rfl)); intro gb216 hg w104 hbox hb; have n0_ := Aside0.mk (Kd.R_below (by (with_reducible repeat (first | apply Kd.R_alloc | apply Kd.R_drewN | apply Kd.R_drew)); exact HO200.out) hb); have n1_ := Aside0.mk (Kd.N_below (Kd.N_elderB (by (with_reducible repeat (first | apply Kd.N_alloc | apply Kd.N_drewN | apply Kd.N_drew)); exact HO203.out) gb216 (Nat.le_of_eq hg.symm)) hb); have n2_ := Aside0.mk (Kd.R_below (by (with_reducible repeat (first | apply Kd.R_alloc | apply Kd.R_drewN | apply Kd.R_drew)); exact HO206.out) hb); have n3_ := Aside0.mk (Kd.R_below (by (with_reducible repeat (first | apply Kd.R_alloc | apply Kd.R_drewN | apply Kd.R_drew)); exact HO212.out) hb); have n4_ := Aside0.mk (Kd.N_below (Kd.N_elderB (by (with_reducible repeat (first | apply Kd.N_alloc | apply Kd.N_drewN | apply Kd.N_drew)); exact HO215.out) gb216 (Nat.le_of_eq hg.symm)) hb); have n5_ := Aside0.mk (blk_below (g := gb193) (o := .cells #[.int .i64 t195, .string t196, .string t197, .slice Ao97 t198.length co97, .slice Ao98 t201.length co98] 25 (0, 0)) (by (with_reducible repeat (first | refine blk_drewN ?_ _ | refine blk_drew ?_ | refine blk_alloc ?_ _)); exact BK193.out) hb); have n6_ := Aside0.mk (below_step (by repeat (first | (with_reducible first | exact HB.out | apply below_alloc | apply pw_below_drewN | apply below_drew1 | refine below_set ?_ GE193.out) | exact HB.out)) hb); have n7_ := Aside0.mk (hbox); have n8_ := Aside0.mk ((by rw [hg]; exact (below_size (by repeat (first | (with_reducible first | exact HB.out | apply below_alloc | apply pw_below_drewN | apply below_drew1 | refine below_set ?_ GE193.out) | exact HB.out))) : w.heap.size ≤ gb216)); have n9_ := Aside0.mk ((by rw [hg]; exact (below_size (by repeat (first | (with_reducible first | exact HB.out | apply below_alloc | apply pw_below_drewN | apply below_drew1 | refine below_set ?_ GE193.out) | exact HB.out))) : w.heap.size ≤ gb216)); have n10_ := Aside0.mk ((by rw [hg]; exact Nat.ne_of_lt (blk_lt (g := gb193) (o := .cells #[.int .i64 t195, .string t196, .string t197, .slice Ao97 t198.length co97, .slice Ao98 t201.length co98] 25 (0, 0)) (by (with_reducible repeat (first | refine blk_drewN ?_ _ | refine blk_drew ?_ | refine blk_alloc ?_ _)); exact BK193.out)) : gb193 ≠ gb216)); have n11_ := Aside0.mk ((by rw [hg]; exact Nat.ne_of_gt (blk_lt (g := gb193) (o := .cells #[.int .i64 t195, .string t196, .string t197, .slice Ao97 t198.length co97, .slice Ao98 t201.length co98] 25 (0, 0)) (by (with_reducible repeat (first | refine blk_drewN ?_ _ | refine blk_drew ?_ | refine blk_alloc ?_ _)); exact BK193.out)) : gb216 ≠ gb193)); clear HO200; clear HO203; clear HO206; clear HO212; clear HO215; clear BK193; clear HB; have HO200 := n0_; have HO203 := n1_; have HO206 := n2_; have HO212 := n3_; have HO215 := n4_; have BK193 := n5_; have HB := n6_; have BK216 := n7_; have GW216 := n8_; have GE216 := n9_; have NB193_216 := n10_; have NB216_193 := n11_; clear n0_ n1_ n2_ n3_ n4_ n5_ n6_ n7_ n8_ n9_ n10_ n11_; clear hb hbox hg; have hnb105 := NB216_193.out; have hnc105 := NB193_216.out; have hcz106_0 : w104.cell? ⟨gb216, 0, none⟩ = some (.int .i64 0) := (blk_cell BK216.out 0).trans rfl; have hcz106_1 : w104.cell? ⟨gb216, 1, none⟩ = some (.string (⟨#[]⟩ : ByteArray)) := (blk_cell BK216.out 1).trans rfl; have hcz106_2 : w104.cell? ⟨gb216, 2, none⟩ = some (.string (⟨#[]⟩ : ByteArray)) := (blk_cell BK216.out 2).trans rfl; have hcz106_3 : w104.cell? ⟨gb216, 3, none⟩ = some (.slice none 0 0) := (blk_cell BK216.out 3).trans rfl; have hcz106_4 : w104.cell? ⟨gb216, 4, none⟩ = some (.slice none 0 0) := (blk_cell BK216.out 4).trans rfl; have hfz106_0 := blk_frozen BK216.out 0; have hfz106_1 := blk_frozen BK216.out 1; have hfz106_2 := blk_frozen BK216.out 2; have hfz106_3 := blk_frozen BK216.out 3; have hfz106_4 := blk_frozen BK216.out 4; obtain ⟨Ao107, co107, eo107⟩ := Kd.R_slice HO212.out; subst eo107; obtain ⟨Ao108, co108, eo108⟩ := Kd.N_slice HO215.out; subst eo108))
        have n0_ : Aside0 (Kd.R k53 53 (((((w104.setCell ⟨gb216, 0, none⟩ (.int .i64 t207)).setCell ⟨gb216, 1, none⟩ (.string t208)).setCell ⟨gb216, 2, none⟩ (.string t209)).setCell ⟨gb216, 3, none⟩ (.slice Ao107 t210.length co107)).setCell ⟨gb216, 4, none⟩ (.slice Ao108 t213.length co108)) w.heap.size (fun k_ => some k_ ≠ (.slice Ao107 t210.length co107 : Value).ownBlock) (.slice Ao97 t198.length co97) t198) := ⟨by (with_reducible repeat (first | apply Kd.R_alloc | apply Kd.R_drewN | apply Kd.R_drew)); exact Kd.R_mono (Kd.R_far (p := ⟨gb216, 4, none⟩) (Kd.R_far (p := ⟨gb216, 3, none⟩) (Kd.R_far (p := ⟨gb216, 2, none⟩) (Kd.R_far (p := ⟨gb216, 1, none⟩) (Kd.R_far (p := ⟨gb216, 0, none⟩) (Kd.R_types HO200.out BK216.out (by decide)) (fun _ hk => hk.2) (.int .i64 t207)) (fun _ hk => hk.2) (.string t208)) (fun _ hk => hk.2) (.string t209)) (fun _ hk => hk.2) (.slice Ao107 t210.length co107)) (fun _ hk => hk.2) (.slice Ao108 t213.length co108)) (fun _ hk => hk.1.2)⟩
        have n1_ : Aside0 (Kd.N k25 25 (((((w104.setCell ⟨gb216, 0, none⟩ (.int .i64 t207)).setCell ⟨gb216, 1, none⟩ (.string t208)).setCell ⟨gb216, 2, none⟩ (.string t209)).setCell ⟨gb216, 3, none⟩ (.slice Ao107 t210.length co107)).setCell ⟨gb216, 4, none⟩ (.slice Ao108 t213.length co108)) w.heap.size (fun k_ => some k_ ≠ (.slice Ao97 t198.length co97 : Value).ownBlock ∧ some k_ ≠ (.slice Ao102 y204.length co102 : Value).ownBlock ∧ some k_ ≠ (.slice Ao107 t210.length co107 : Value).ownBlock ∧ some k_ ≠ (.slice Ao108 t213.length co108 : Value).ownBlock ∧ k_ ≠ gb193 ∧ k_ ≠ gb216) (.slice Ao98 t201.length co98) t201) := ⟨by (with_reducible repeat (first | apply Kd.N_alloc | apply Kd.N_drewN | apply Kd.N_drew)); exact Kd.N_mono (Kd.N_far (p := ⟨gb216, 4, none⟩) (Kd.N_far (p := ⟨gb216, 3, none⟩) (Kd.N_far (p := ⟨gb216, 2, none⟩) (Kd.N_far (p := ⟨gb216, 1, none⟩) (Kd.N_far (p := ⟨gb216, 0, none⟩) (Kd.N_mono HO203.out (fun k_ hk => (⟨hk, hk.2⟩ : _ ∧ k_ ≠ gb216))) (fun _ hk => hk.2) (.int .i64 t207)) (fun _ hk => hk.2) (.string t208)) (fun _ hk => hk.2) (.string t209)) (fun _ hk => hk.2) (.slice Ao107 t210.length co107)) (fun _ hk => hk.2) (.slice Ao108 t213.length co108)) (fun _ hk => ⟨hk.1.1.1.1.1.1, ⟨hk.1.1.1.1.2, ⟨hk.1.1.1.2, ⟨hk.1.1.2, ⟨hk.1.1.1.1.1.2, hk.1.2⟩⟩⟩⟩⟩)⟩
        have n2_ : Aside0 (Kd.R Kd.string 9 (((((w104.setCell ⟨gb216, 0, none⟩ (.int .i64 t207)).setCell ⟨gb216, 1, none⟩ (.string t208)).setCell ⟨gb216, 2, none⟩ (.string t209)).setCell ⟨gb216, 3, none⟩ (.slice Ao107 t210.length co107)).setCell ⟨gb216, 4, none⟩ (.slice Ao108 t213.length co108)) w.heap.size (fun _ => True) (.slice Ao102 y204.length co102) y204) := ⟨by (with_reducible repeat (first | apply Kd.R_alloc | apply Kd.R_drewN | apply Kd.R_drew)); exact Kd.R_mono (Kd.R_far (p := ⟨gb216, 4, none⟩) (Kd.R_far (p := ⟨gb216, 3, none⟩) (Kd.R_far (p := ⟨gb216, 2, none⟩) (Kd.R_far (p := ⟨gb216, 1, none⟩) (Kd.R_far (p := ⟨gb216, 0, none⟩) (Kd.R_types HO206.out BK216.out (by decide)) (fun _ hk => hk.2) (.int .i64 t207)) (fun _ hk => hk.2) (.string t208)) (fun _ hk => hk.2) (.string t209)) (fun _ hk => hk.2) (.slice Ao107 t210.length co107)) (fun _ hk => hk.2) (.slice Ao108 t213.length co108)) (fun _ hk => trivial)⟩
        have n3_ : Aside0 (Kd.R k53 53 (((((w104.setCell ⟨gb216, 0, none⟩ (.int .i64 t207)).setCell ⟨gb216, 1, none⟩ (.string t208)).setCell ⟨gb216, 2, none⟩ (.string t209)).setCell ⟨gb216, 3, none⟩ (.slice Ao107 t210.length co107)).setCell ⟨gb216, 4, none⟩ (.slice Ao108 t213.length co108)) w.heap.size (fun k_ => some k_ ≠ (.slice Ao97 t198.length co97 : Value).ownBlock) (.slice Ao107 t210.length co107) t210) := ⟨by (with_reducible repeat (first | apply Kd.R_alloc | apply Kd.R_drewN | apply Kd.R_drew)); exact Kd.R_mono (Kd.R_far (p := ⟨gb216, 4, none⟩) (Kd.R_far (p := ⟨gb216, 3, none⟩) (Kd.R_far (p := ⟨gb216, 2, none⟩) (Kd.R_far (p := ⟨gb216, 1, none⟩) (Kd.R_far (p := ⟨gb216, 0, none⟩) (Kd.R_types HO212.out BK216.out (by decide)) (fun _ hk => hk.2) (.int .i64 t207)) (fun _ hk => hk.2) (.string t208)) (fun _ hk => hk.2) (.string t209)) (fun _ hk => hk.2) (.slice Ao107 t210.length co107)) (fun _ hk => hk.2) (.slice Ao108 t213.length co108)) (fun _ hk => hk.1.2)⟩
        have n4_ : Aside0 (Kd.N k25 25 (((((w104.setCell ⟨gb216, 0, none⟩ (.int .i64 t207)).setCell ⟨gb216, 1, none⟩ (.string t208)).setCell ⟨gb216, 2, none⟩ (.string t209)).setCell ⟨gb216, 3, none⟩ (.slice Ao107 t210.length co107)).setCell ⟨gb216, 4, none⟩ (.slice Ao108 t213.length co108)) w.heap.size (fun k_ => some k_ ≠ (.slice Ao97 t198.length co97 : Value).ownBlock ∧ some k_ ≠ (.slice Ao98 t201.length co98 : Value).ownBlock ∧ some k_ ≠ (.slice Ao102 y204.length co102 : Value).ownBlock ∧ some k_ ≠ (.slice Ao107 t210.length co107 : Value).ownBlock ∧ k_ ≠ gb193 ∧ k_ ≠ gb216) (.slice Ao108 t213.length co108) t213) := ⟨by (with_reducible repeat (first | apply Kd.N_alloc | apply Kd.N_drewN | apply Kd.N_drew)); exact Kd.N_mono (Kd.N_far (p := ⟨gb216, 4, none⟩) (Kd.N_far (p := ⟨gb216, 3, none⟩) (Kd.N_far (p := ⟨gb216, 2, none⟩) (Kd.N_far (p := ⟨gb216, 1, none⟩) (Kd.N_far (p := ⟨gb216, 0, none⟩) (Kd.N_mono HO215.out (fun k_ hk => (⟨hk, hk.2⟩ : _ ∧ k_ ≠ gb216))) (fun _ hk => hk.2) (.int .i64 t207)) (fun _ hk => hk.2) (.string t208)) (fun _ hk => hk.2) (.string t209)) (fun _ hk => hk.2) (.slice Ao107 t210.length co107)) (fun _ hk => hk.2) (.slice Ao108 t213.length co108)) (fun _ hk => ⟨hk.1.1.2.1, ⟨hk.1.1.2.2.1, ⟨hk.1.1.2.2.2.1, ⟨hk.1.1.1, ⟨hk.1.1.2.2.2.2, hk.1.2⟩⟩⟩⟩⟩)⟩
        have n5_ : Aside0 ((((((w104.setCell ⟨gb216, 0, none⟩ (.int .i64 t207)).setCell ⟨gb216, 1, none⟩ (.string t208)).setCell ⟨gb216, 2, none⟩ (.string t209)).setCell ⟨gb216, 3, none⟩ (.slice Ao107 t210.length co107)).setCell ⟨gb216, 4, none⟩ (.slice Ao108 t213.length co108)).heap[gb193]? = some (.cells #[.int .i64 t195, .string t196, .string t197, .slice Ao97 t198.length co97, .slice Ao98 t201.length co98] 25 (0, 0))) := ⟨by (with_reducible repeat (first | refine blk_drewN ?_ _ | refine blk_drew ?_ | refine blk_alloc ?_ _)); refine blk_far ?_ NB193_216.out _; (with_reducible repeat (first | refine blk_drewN ?_ _ | refine blk_drew ?_ | refine blk_alloc ?_ _)); refine blk_far ?_ NB193_216.out _; (with_reducible repeat (first | refine blk_drewN ?_ _ | refine blk_drew ?_ | refine blk_alloc ?_ _)); refine blk_far ?_ NB193_216.out _; (with_reducible repeat (first | refine blk_drewN ?_ _ | refine blk_drew ?_ | refine blk_alloc ?_ _)); refine blk_far ?_ NB193_216.out _; (with_reducible repeat (first | refine blk_drewN ?_ _ | refine blk_drew ?_ | refine blk_alloc ?_ _)); refine blk_far ?_ NB193_216.out _; (with_reducible repeat (first | refine blk_drewN ?_ _ | refine blk_drew ?_ | refine blk_alloc ?_ _)); exact BK193.out⟩
        have n6_ : Aside0 ((((((w104.setCell ⟨gb216, 0, none⟩ (.int .i64 t207)).setCell ⟨gb216, 1, none⟩ (.string t208)).setCell ⟨gb216, 2, none⟩ (.string t209)).setCell ⟨gb216, 3, none⟩ (.slice Ao107 t210.length co107)).setCell ⟨gb216, 4, none⟩ (.slice Ao108 t213.length co108)).heap[gb216]? = some (.cells #[.int .i64 t207, .string t208, .string t209, .slice Ao107 t210.length co107, .slice Ao108 t213.length co108] 25 (0, 0))) := ⟨by (with_reducible repeat (first | refine blk_drewN ?_ _ | refine blk_drew ?_ | refine blk_alloc ?_ _)); refine blk_put (cs := #[.int .i64 t207, .string t208, .string t209, .slice Ao107 t210.length co107, .slice none 0 0]) ?_ 4 _ rfl; (with_reducible repeat (first | refine blk_drewN ?_ _ | refine blk_drew ?_ | refine blk_alloc ?_ _)); refine blk_put (cs := #[.int .i64 t207, .string t208, .string t209, .slice none 0 0, .slice none 0 0]) ?_ 3 _ rfl; (with_reducible repeat (first | refine blk_drewN ?_ _ | refine blk_drew ?_ | refine blk_alloc ?_ _)); refine blk_put (cs := #[.int .i64 t207, .string t208, .string (⟨#[]⟩ : ByteArray), .slice none 0 0, .slice none 0 0]) ?_ 2 _ rfl; (with_reducible repeat (first | refine blk_drewN ?_ _ | refine blk_drew ?_ | refine blk_alloc ?_ _)); refine blk_put (cs := #[.int .i64 t207, .string (⟨#[]⟩ : ByteArray), .string (⟨#[]⟩ : ByteArray), .slice none 0 0, .slice none 0 0]) ?_ 1 _ rfl; (with_reducible repeat (first | refine blk_drewN ?_ _ | refine blk_drew ?_ | refine blk_alloc ?_ _)); refine blk_put (cs := #[.int .i64 0, .string (⟨#[]⟩ : ByteArray), .string (⟨#[]⟩ : ByteArray), .slice none 0 0, .slice none 0 0]) ?_ 0 _ rfl; (with_reducible repeat (first | refine blk_drewN ?_ _ | refine blk_drew ?_ | refine blk_alloc ?_ _)); exact BK216.out⟩
        have n7_ : Aside0 (Below w.heap.size w (((((w104.setCell ⟨gb216, 0, none⟩ (.int .i64 t207)).setCell ⟨gb216, 1, none⟩ (.string t208)).setCell ⟨gb216, 2, none⟩ (.string t209)).setCell ⟨gb216, 3, none⟩ (.slice Ao107 t210.length co107)).setCell ⟨gb216, 4, none⟩ (.slice Ao108 t213.length co108))) := ⟨by repeat (first | (with_reducible first | exact HB.out | apply below_alloc | apply pw_below_drewN | apply below_drew1 | refine below_set ?_ GE193.out | refine below_set ?_ GE216.out) | exact HB.out)⟩
        (try clear HO200)
        (try clear HO203)
        (try clear HO206)
        (try clear HO212)
        (try clear HO215)
        (try clear BK193)
        (try clear BK216)
        (try clear HB)
        generalize (((((w104.setCell ⟨gb216, 0, none⟩ (.int .i64 t207)).setCell ⟨gb216, 1, none⟩ (.string t208)).setCell ⟨gb216, 2, none⟩ (.string t209)).setCell ⟨gb216, 3, none⟩ (.slice Ao107 t210.length co107)).setCell ⟨gb216, 4, none⟩ (.slice Ao108 t213.length co108)) = w109 at n0_ n1_ n2_ n3_ n4_ n5_ n6_ n7_ ⊢
        have HO200 := n0_
        have HO203 := n1_
        have HO206 := n2_
        have HO212 := n3_
        have HO215 := n4_
        have BK193 := n5_
        have BK216 := n6_
        have HB := n7_
        clear n0_ n1_ n2_ n3_ n4_ n5_ n6_ n7_
        have n0_ := Aside0.mk (Kd.R_drew HO200.out)
        have n1_ := Aside0.mk (Kd.N_drew HO203.out)
        have n2_ := Aside0.mk (Kd.R_drew HO206.out)
        have n3_ := Aside0.mk (Kd.R_drew HO212.out)
        have n4_ := Aside0.mk (Kd.N_drew HO215.out)
        have n5_ := Aside0.mk (blk_drew BK193.out)
        have n6_ := Aside0.mk (blk_drew BK216.out)
        have n7_ := Aside0.mk (below_drew1 HB.out)
        clear HO200
        clear HO203
        clear HO206
        clear HO212
        clear HO215
        clear BK193
        clear BK216
        clear HB
        have HO200 := n0_
        have HO203 := n1_
        have HO206 := n2_
        have HO212 := n3_
        have HO215 := n4_
        have BK193 := n5_
        have BK216 := n6_
        have HB := n7_
        clear n0_ n1_ n2_ n3_ n4_ n5_ n6_ n7_
        refine start_ (n := 22) (S := fun w' => w'.cell? ⟨gb216, 0, none⟩ = some (.int .i64 t207) ∧ w'.cell? ⟨gb216, 1, none⟩ = some (.string t208) ∧ w'.cell? ⟨gb216, 2, none⟩ = some (.string t209) ∧ w'.cell? ⟨gb216, 3, none⟩ = some (.slice Ao107 t210.length co107) ∧ w'.cell? ⟨gb216, 4, none⟩ = some (.slice Ao108 t213.length co108) ∧ w'.cell? ⟨gb193, 0, none⟩ = some (.int .i64 t195) ∧ w'.cell? ⟨gb193, 1, none⟩ = some (.string t196) ∧ w'.cell? ⟨gb193, 2, none⟩ = some (.string t197) ∧ w'.cell? ⟨gb193, 3, none⟩ = some (.slice Ao97 t198.length co97) ∧ w'.cell? ⟨gb193, 4, none⟩ = some (.slice Ao98 t201.length co98)) (ds := []) #[false, false, false, false, false, false, false, false, false, false, false, false, false, false, false, false, false, false, false, false, false, false] (by kernel_rfl) rfl rfl ⟨(blk_cell BK216.out 0).trans rfl, (blk_cell BK216.out 1).trans rfl, (blk_cell BK216.out 2).trans rfl, (blk_cell BK216.out 3).trans rfl, (blk_cell BK216.out 4).trans rfl, (blk_cell BK193.out 0).trans rfl, (blk_cell BK193.out 1).trans rfl, (blk_cell BK193.out 2).trans rfl, (blk_cell BK193.out 3).trans rfl, (blk_cell BK193.out 4).trans rfl⟩ (fun hHeld => ?_); refine with_tabW laws_FnRedundant.tab6 laws_FnRedundant.bits6 (fun HT_ HW_ => ?_)
        generalize w109.drew = w110 at HO200 HO203 HO206 HO212 HO215 BK193 BK216 HB hHeld ⊢
        refine pure_ (i := 1) (N := some 15) (v := ?_) (a' := ?_) #[false, true, false, false, false, false, false, false, false, false, false, false, false, false, false, false, false, false, false, false, false, false] rfl rfl (any_of HT_.out (by kernel_rfl)) (fun _ _ _ h => h) (Or.inl ⟨by rfl, ?_⟩) ?_ ?_
        rotate_left
        · intro w'
          go_simp
          with_reducible rfl
        rotate_left
        · simp only [Act.put, List.setIfInBounds_toArray, List.set_cons_zero, List.set_cons_succ, i64_w, i32_w]
          rfl
        refine take_ (i := 0) (N := some 14) (v := ?_) (a' := ?_) #[true, true, false, false, false, false, false, false, false, false, false, false, false, false, false, false, false, false, false, false, false, false] rfl rfl (take_ofW HT_.out HW_.out (by kernel_rfl)) (fun _ _ _ h => h) (Or.inl ⟨by rfl, ?_⟩) hHeld ?_ ?_
        rotate_left
        · rintro w' ⟨s0, s1, s2, s3, s4, s5, s6, s7, s8, s9⟩
          go_simp
          with_reducible rfl
        rotate_left
        · simp only [Act.put, List.setIfInBounds_toArray, List.set_cons_zero, List.set_cons_succ, i64_w, i32_w]
          rfl
        refine one_ (i := 2) (N := some 16) #[true, true, true, false, false, false, false, false, false, false, false, false, false, false, false, false, false, false, false, false, false, false] rfl rfl (one_of HT_.out (by kernel_rfl)) (by decide) (fun K hK => ?_)
        refine goes_ Try.func12 (by kernel_rfl) rfl #[.agg #[.int .i64 t207, .string t208, .string t209, .slice Ao107 t210.length co107, .slice Ao108 t213.length co108], .slice Ao102 y204.length co102, .bool false] (by rfl) rfl rfl (by (try simp only [List.map_toArray, List.map_cons, List.map_nil]); first | done | rfl | (simp only [List.length_drop, List.length_take]; rfl)) ?_
        with_reducible refine (laws_inlineWithin.calls k t207 t208 t209 _ _ t210 _ _ t213 _ _ y204 false false _ ?side1 ?side2 ?side3 ?side4 ?side5 ?side6 A6.out).mono ?_
        (case side1 => repeat (first | exact (Kd.R_reads' HO212.out).2.2 | (with_reducible refine Kd.C_alloc ?_ _) | (with_reducible refine Kd.C_drewN ?_ _) | (with_reducible refine Kd.C_drew ?_)))
        (case side2 => exact (Kd.R_reads' HO212.out).2.1)
        (case side3 => repeat (first | exact (Kd.N_reads' HO215.out).2.2 | (with_reducible refine Kd.C_alloc ?_ _) | (with_reducible refine Kd.C_drewN ?_ _) | (with_reducible refine Kd.C_drew ?_)))
        (case side4 => exact (Kd.N_reads' HO215.out).2.1)
        (case side5 => repeat (first | exact (Kd.R_reads' HO206.out).2.2 | (with_reducible refine Kd.C_alloc ?_ _) | (with_reducible refine Kd.C_drewN ?_ _) | (with_reducible refine Kd.C_drew ?_)))
        (case side6 => exact (Kd.R_reads' HO206.out).2.1)
        rintro e w111 ⟨rfl, hb⟩
        refine ⟨_, rfl, ?_⟩
        have n0_ := Aside0.mk (Kd.R_below (by (with_reducible repeat (first | apply Kd.R_alloc | apply Kd.R_drewN | apply Kd.R_drew)); exact HO200.out) hb)
        have n1_ := Aside0.mk (Kd.N_below (by (with_reducible repeat (first | apply Kd.N_alloc | apply Kd.N_drewN | apply Kd.N_drew)); exact HO203.out) hb)
        have n2_ := Aside0.mk (Kd.R_below (by (with_reducible repeat (first | apply Kd.R_alloc | apply Kd.R_drewN | apply Kd.R_drew)); exact HO206.out) hb)
        have n3_ := Aside0.mk (Kd.R_below (by (with_reducible repeat (first | apply Kd.R_alloc | apply Kd.R_drewN | apply Kd.R_drew)); exact HO212.out) hb)
        have n4_ := Aside0.mk (Kd.N_below (by (with_reducible repeat (first | apply Kd.N_alloc | apply Kd.N_drewN | apply Kd.N_drew)); exact HO215.out) hb)
        have n5_ := Aside0.mk (blk_below (g := gb193) (o := .cells #[.int .i64 t195, .string t196, .string t197, .slice Ao97 t198.length co97, .slice Ao98 t201.length co98] 25 (0, 0)) (by (with_reducible repeat (first | refine blk_drewN ?_ _ | refine blk_drew ?_ | refine blk_alloc ?_ _)); exact BK193.out) hb)
        have n6_ := Aside0.mk (blk_below (g := gb216) (o := .cells #[.int .i64 t207, .string t208, .string t209, .slice Ao107 t210.length co107, .slice Ao108 t213.length co108] 25 (0, 0)) (by (with_reducible repeat (first | refine blk_drewN ?_ _ | refine blk_drew ?_ | refine blk_alloc ?_ _)); exact BK216.out) hb)
        have n7_ := Aside0.mk (below_step (by repeat (first | (with_reducible first | exact HB.out | apply below_alloc | apply pw_below_drewN | apply below_drew1 | refine below_set ?_ GE193.out | refine below_set ?_ GE216.out) | exact HB.out)) hb)
        clear HO200
        clear HO203
        clear HO206
        clear HO212
        clear HO215
        clear BK193
        clear BK216
        clear HB
        have HO200 := n0_
        have HO203 := n1_
        have HO206 := n2_
        have HO212 := n3_
        have HO215 := n4_
        have BK193 := n5_
        have BK216 := n6_
        have HB := n7_
        clear n0_ n1_ n2_ n3_ n4_ n5_ n6_ n7_
        (try clear hb)
        (try clear hb2)
        (try clear hk)
        (try clear hi)
        refine hK.out _ _ ⟨(blk_cell BK216.out 0).trans rfl, (blk_cell BK216.out 1).trans rfl, (blk_cell BK216.out 2).trans rfl, (blk_cell BK216.out 3).trans rfl, (blk_cell BK216.out 4).trans rfl, (blk_cell BK193.out 0).trans rfl, (blk_cell BK193.out 1).trans rfl, (blk_cell BK193.out 2).trans rfl, (blk_cell BK193.out 3).trans rfl, (blk_cell BK193.out 4).trans rfl⟩ (fun hHeld => ?_)
        clear hK K
        refine norm_ (a' := ?_) ?_ ?_
        rotate_left
        · show Act.put _ (some 16) _ = _
          simp only [Act.put, List.setIfInBounds_toArray, List.set_cons_zero, List.set_cons_succ, i64_w, i32_w]
          rfl
        refine pure_ (i := 3) (N := some 17) (v := ?_) (a' := ?_) #[true, true, true, true, false, false, false, false, false, false, false, false, false, false, false, false, false, false, false, false, false, false] rfl rfl (any_of HT_.out (by kernel_rfl)) (fun _ _ _ h => h) (Or.inl ⟨by rfl, ?_⟩) ?_ ?_
        rotate_left
        · intro w'
          go_simp
          with_reducible rfl
        rotate_left
        · simp only [Act.put, List.setIfInBounds_toArray, List.set_cons_zero, List.set_cons_succ, i64_w, i32_w]
          rfl
        refine pure_ (i := 4) (N := some 18) (v := ?_) (a' := ?_) #[true, true, true, true, true, false, false, false, false, false, false, false, false, false, false, false, false, false, false, false, false, false] rfl rfl (any_of HT_.out (by kernel_rfl)) (fun _ _ _ h => h) (Or.inl ⟨by rfl, ?_⟩) ?_ ?_
        rotate_left
        · intro w'
          go_simp
          with_reducible rfl
        rotate_left
        · simp only [Act.put, List.setIfInBounds_toArray, List.set_cons_zero, List.set_cons_succ, i64_w, i32_w]
          rfl
        refine take_ (i := 5) (N := some 19) (v := ?_) (a' := ?_) #[true, true, true, true, true, true, false, false, false, false, false, false, false, false, false, false, false, false, false, false, false, false] rfl rfl (take_ofW HT_.out HW_.out (by kernel_rfl)) (fun _ _ _ h => h) (Or.inl ⟨by rfl, ?_⟩) hHeld ?_ ?_
        rotate_left
        · rintro w' ⟨s0, s1, s2, s3, s4, s5, s6, s7, s8, s9⟩
          go_simp
          with_reducible rfl
        rotate_left
        · simp only [Act.put, List.setIfInBounds_toArray, List.set_cons_zero, List.set_cons_succ, i64_w, i32_w]
          rfl
        refine take_ (i := 7) (N := some 21) (v := ?_) (a' := ?_) #[true, true, true, true, true, true, false, true, false, false, false, false, false, false, false, false, false, false, false, false, false, false] rfl rfl (take_ofW HT_.out HW_.out (by kernel_rfl)) (fun _ _ _ h => h) (Or.inl ⟨by rfl, ?_⟩) hHeld ?_ ?_
        rotate_left
        · rintro w' ⟨s0, s1, s2, s3, s4, s5, s6, s7, s8, s9⟩
          go_simp
          with_reducible rfl
        rotate_left
        · simp only [Act.put, List.setIfInBounds_toArray, List.set_cons_zero, List.set_cons_succ, i64_w, i32_w]
          rfl
        refine one_ (i := 6) (N := some 20) #[true, true, true, true, true, true, true, true, false, false, false, false, false, false, false, false, false, false, false, false, false, false] rfl rfl (one_of HT_.out (by kernel_rfl)) (by decide) (fun K hK => ?_)
        refine goes_ Try.func13 (by kernel_rfl) rfl #[.agg #[.int .i64 t207, .string t208, .string t209, .slice Ao107 t210.length co107, .slice Ao108 t213.length co108]] (by rfl) rfl rfl (by (try simp only [List.map_toArray, List.map_cons, List.map_nil]); first | done | rfl | (simp only [List.length_drop, List.length_take]; rfl)) ?_
        with_reducible refine (spec_TextOf.calls k t207 t208 t209 _ _ t210 _ _ t213 t218 _ ?side1 ?side2 ?side3 ?side4 A29.out).mono ?_
        (case side1 => repeat (first | exact (Kd.R_reads' HO212.out).2.2 | (with_reducible refine Kd.C_alloc ?_ _) | (with_reducible refine Kd.C_drewN ?_ _) | (with_reducible refine Kd.C_drew ?_)))
        (case side2 => exact (Kd.R_reads' HO212.out).2.1)
        (case side3 => repeat (first | exact (Kd.N_reads' HO215.out).2.2 | (with_reducible refine Kd.C_alloc ?_ _) | (with_reducible refine Kd.C_drewN ?_ _) | (with_reducible refine Kd.C_drew ?_)))
        (case side4 => exact (Kd.N_reads' HO215.out).2.1)
        rintro e w112 ⟨rfl, hb⟩
        refine ⟨_, rfl, ?_⟩
        have n0_ := Aside0.mk (Kd.R_below (by (with_reducible repeat (first | apply Kd.R_alloc | apply Kd.R_drewN | apply Kd.R_drew)); exact HO200.out) hb)
        have n1_ := Aside0.mk (Kd.N_below (by (with_reducible repeat (first | apply Kd.N_alloc | apply Kd.N_drewN | apply Kd.N_drew)); exact HO203.out) hb)
        have n2_ := Aside0.mk (Kd.R_below (by (with_reducible repeat (first | apply Kd.R_alloc | apply Kd.R_drewN | apply Kd.R_drew)); exact HO206.out) hb)
        have n3_ := Aside0.mk (Kd.R_below (by (with_reducible repeat (first | apply Kd.R_alloc | apply Kd.R_drewN | apply Kd.R_drew)); exact HO212.out) hb)
        have n4_ := Aside0.mk (Kd.N_below (by (with_reducible repeat (first | apply Kd.N_alloc | apply Kd.N_drewN | apply Kd.N_drew)); exact HO215.out) hb)
        have n5_ := Aside0.mk (blk_below (g := gb193) (o := .cells #[.int .i64 t195, .string t196, .string t197, .slice Ao97 t198.length co97, .slice Ao98 t201.length co98] 25 (0, 0)) (by (with_reducible repeat (first | refine blk_drewN ?_ _ | refine blk_drew ?_ | refine blk_alloc ?_ _)); exact BK193.out) hb)
        have n6_ := Aside0.mk (blk_below (g := gb216) (o := .cells #[.int .i64 t207, .string t208, .string t209, .slice Ao107 t210.length co107, .slice Ao108 t213.length co108] 25 (0, 0)) (by (with_reducible repeat (first | refine blk_drewN ?_ _ | refine blk_drew ?_ | refine blk_alloc ?_ _)); exact BK216.out) hb)
        have n7_ := Aside0.mk (below_step (by repeat (first | (with_reducible first | exact HB.out | apply below_alloc | apply pw_below_drewN | apply below_drew1 | refine below_set ?_ GE193.out | refine below_set ?_ GE216.out) | exact HB.out)) hb)
        clear HO200
        clear HO203
        clear HO206
        clear HO212
        clear HO215
        clear BK193
        clear BK216
        clear HB
        have HO200 := n0_
        have HO203 := n1_
        have HO206 := n2_
        have HO212 := n3_
        have HO215 := n4_
        have BK193 := n5_
        have BK216 := n6_
        have HB := n7_
        clear n0_ n1_ n2_ n3_ n4_ n5_ n6_ n7_
        (try clear hb)
        (try clear hb2)
        (try clear hk)
        (try clear hi)
        refine hK.out _ _ ⟨(blk_cell BK216.out 0).trans rfl, (blk_cell BK216.out 1).trans rfl, (blk_cell BK216.out 2).trans rfl, (blk_cell BK216.out 3).trans rfl, (blk_cell BK216.out 4).trans rfl, (blk_cell BK193.out 0).trans rfl, (blk_cell BK193.out 1).trans rfl, (blk_cell BK193.out 2).trans rfl, (blk_cell BK193.out 3).trans rfl, (blk_cell BK193.out 4).trans rfl⟩ (fun hHeld => ?_)
        clear hK K
        refine norm_ (a' := ?_) ?_ ?_
        rotate_left
        · show Act.put _ (some 20) _ = _
          simp only [Act.put, List.setIfInBounds_toArray, List.set_cons_zero, List.set_cons_succ, i64_w, i32_w]
          rfl
        refine one_ (i := 8) (N := some 22) #[true, true, true, true, true, true, true, true, true, false, false, false, false, false, false, false, false, false, false, false, false, false] rfl rfl (one_of HT_.out (by kernel_rfl)) (by decide) (fun K hK => ?_)
        refine goes_ Try.func13 (by kernel_rfl) rfl #[.agg #[.int .i64 t195, .string t196, .string t197, .slice Ao97 t198.length co97, .slice Ao98 t201.length co98]] (by rfl) rfl rfl (by (try simp only [List.map_toArray, List.map_cons, List.map_nil]); first | done | rfl | (simp only [List.length_drop, List.length_take]; rfl)) ?_
        with_reducible refine (spec_TextOf.calls k t195 t196 t197 _ _ t198 _ _ t201 t219 _ ?side1 ?side2 ?side3 ?side4 A30.out).mono ?_
        (case side1 => repeat (first | exact (Kd.R_reads' HO200.out).2.2 | (with_reducible refine Kd.C_alloc ?_ _) | (with_reducible refine Kd.C_drewN ?_ _) | (with_reducible refine Kd.C_drew ?_)))
        (case side2 => exact (Kd.R_reads' HO200.out).2.1)
        (case side3 => repeat (first | exact (Kd.N_reads' HO203.out).2.2 | (with_reducible refine Kd.C_alloc ?_ _) | (with_reducible refine Kd.C_drewN ?_ _) | (with_reducible refine Kd.C_drew ?_)))
        (case side4 => exact (Kd.N_reads' HO203.out).2.1)
        rintro e w113 ⟨rfl, hb⟩
        refine ⟨_, rfl, ?_⟩
        have n0_ := Aside0.mk (Kd.R_below (by (with_reducible repeat (first | apply Kd.R_alloc | apply Kd.R_drewN | apply Kd.R_drew)); exact HO200.out) hb)
        have n1_ := Aside0.mk (Kd.N_below (by (with_reducible repeat (first | apply Kd.N_alloc | apply Kd.N_drewN | apply Kd.N_drew)); exact HO203.out) hb)
        have n2_ := Aside0.mk (Kd.R_below (by (with_reducible repeat (first | apply Kd.R_alloc | apply Kd.R_drewN | apply Kd.R_drew)); exact HO206.out) hb)
        have n3_ := Aside0.mk (Kd.R_below (by (with_reducible repeat (first | apply Kd.R_alloc | apply Kd.R_drewN | apply Kd.R_drew)); exact HO212.out) hb)
        have n4_ := Aside0.mk (Kd.N_below (by (with_reducible repeat (first | apply Kd.N_alloc | apply Kd.N_drewN | apply Kd.N_drew)); exact HO215.out) hb)
        have n5_ := Aside0.mk (blk_below (g := gb193) (o := .cells #[.int .i64 t195, .string t196, .string t197, .slice Ao97 t198.length co97, .slice Ao98 t201.length co98] 25 (0, 0)) (by (with_reducible repeat (first | refine blk_drewN ?_ _ | refine blk_drew ?_ | refine blk_alloc ?_ _)); exact BK193.out) hb)
        have n6_ := Aside0.mk (blk_below (g := gb216) (o := .cells #[.int .i64 t207, .string t208, .string t209, .slice Ao107 t210.length co107, .slice Ao108 t213.length co108] 25 (0, 0)) (by (with_reducible repeat (first | refine blk_drewN ?_ _ | refine blk_drew ?_ | refine blk_alloc ?_ _)); exact BK216.out) hb)
        have n7_ := Aside0.mk (below_step (by repeat (first | (with_reducible first | exact HB.out | apply below_alloc | apply pw_below_drewN | apply below_drew1 | refine below_set ?_ GE193.out | refine below_set ?_ GE216.out) | exact HB.out)) hb)
        clear HO200
        clear HO203
        clear HO206
        clear HO212
        clear HO215
        clear BK193
        clear BK216
        clear HB
        have HO200 := n0_
        have HO203 := n1_
        have HO206 := n2_
        have HO212 := n3_
        have HO215 := n4_
        have BK193 := n5_
        have BK216 := n6_
        have HB := n7_
        clear n0_ n1_ n2_ n3_ n4_ n5_ n6_ n7_
        (try clear hb)
        (try clear hb2)
        (try clear hk)
        (try clear hi)
        refine hK.out _ _ ⟨(blk_cell BK216.out 0).trans rfl, (blk_cell BK216.out 1).trans rfl, (blk_cell BK216.out 2).trans rfl, (blk_cell BK216.out 3).trans rfl, (blk_cell BK216.out 4).trans rfl, (blk_cell BK193.out 0).trans rfl, (blk_cell BK193.out 1).trans rfl, (blk_cell BK193.out 2).trans rfl, (blk_cell BK193.out 3).trans rfl, (blk_cell BK193.out 4).trans rfl⟩ (fun hHeld => ?_)
        clear hK K
        refine norm_ (a' := ?_) ?_ ?_
        rotate_left
        · show Act.put _ (some 22) _ = _
          simp only [Act.put, List.setIfInBounds_toArray, List.set_cons_zero, List.set_cons_succ, i64_w, i32_w]
          rfl
        refine pure_ (i := 9) (N := some 23) (v := ?_) (a' := ?_) #[true, true, true, true, true, true, true, true, true, true, false, false, false, false, false, false, false, false, false, false, false, false] rfl rfl (any_of HT_.out (by kernel_rfl)) (fun _ _ _ h => h) (Or.inl ⟨by rfl, ?_⟩) ?_ ?_
        rotate_left
        · intro w'
          go_simp
          with_reducible rfl
        rotate_left
        · simp only [Act.put, List.setIfInBounds_toArray, List.set_cons_zero, List.set_cons_succ, i64_w, i32_w]
          rfl
        refine pure_ (i := 10) (N := some 24) (v := ?_) (a' := ?_) #[true, true, true, true, true, true, true, true, true, true, true, false, false, false, false, false, false, false, false, false, false, false] rfl rfl (any_of HT_.out (by kernel_rfl)) (fun _ _ _ h => h) (Or.inl ⟨by rfl, ?_⟩) ?_ ?_
        rotate_left
        · intro w'
          go_simp
          with_reducible rfl
        rotate_left
        · simp only [Act.put, List.setIfInBounds_toArray, List.set_cons_zero, List.set_cons_succ, i64_w, i32_w]
          rfl
        refine pure_ (i := 11) (N := some 25) (v := ?_) (a' := ?_) #[true, true, true, true, true, true, true, true, true, true, true, true, false, false, false, false, false, false, false, false, false, false] rfl rfl (any_of HT_.out (by kernel_rfl)) (fun _ _ _ h => h) (Or.inl ⟨by rfl, ?_⟩) ?_ ?_
        rotate_left
        · intro w'
          go_simp
          with_reducible rfl
        rotate_left
        · simp only [Act.put, List.setIfInBounds_toArray, List.set_cons_zero, List.set_cons_succ, i64_w, i32_w]
          rfl
        refine pure_ (i := 12) (N := some 26) (v := undef) (a' := ?_) #[true, true, true, true, true, true, true, true, true, true, true, true, true, false, false, false, false, false, false, false, false, false] rfl rfl (any_of HT_.out (by kernel_rfl)) (fun _ _ _ h => h) (Or.inr ⟨by rfl, rfl⟩) ?_ ?_
        rotate_left
        · simp only [Act.put, List.setIfInBounds_toArray, List.set_cons_zero, List.set_cons_succ, i64_w, i32_w]
          rfl
        refine pure_ (i := 13) (N := some 27) (v := undef) (a' := ?_) #[true, true, true, true, true, true, true, true, true, true, true, true, true, true, false, false, false, false, false, false, false, false] rfl rfl (any_of HT_.out (by kernel_rfl)) (fun _ _ _ h => h) (Or.inr ⟨by rfl, rfl⟩) ?_ ?_
        rotate_left
        · simp only [Act.put, List.setIfInBounds_toArray, List.set_cons_zero, List.set_cons_succ, i64_w, i32_w]
          rfl
        refine pure_ (i := 14) (N := some 28) (v := undef) (a' := ?_) #[true, true, true, true, true, true, true, true, true, true, true, true, true, true, true, false, false, false, false, false, false, false] rfl rfl (any_of HT_.out (by kernel_rfl)) (fun _ _ _ h => h) (Or.inr ⟨by rfl, rfl⟩) ?_ ?_
        rotate_left
        · simp only [Act.put, List.setIfInBounds_toArray, List.set_cons_zero, List.set_cons_succ, i64_w, i32_w]
          rfl
        refine pure_ (i := 15) (N := some 29) (v := undef) (a' := ?_) #[true, true, true, true, true, true, true, true, true, true, true, true, true, true, true, true, false, false, false, false, false, false] rfl rfl (any_of HT_.out (by kernel_rfl)) (fun _ _ _ h => h) (Or.inr ⟨by rfl, rfl⟩) ?_ ?_
        rotate_left
        · simp only [Act.put, List.setIfInBounds_toArray, List.set_cons_zero, List.set_cons_succ, i64_w, i32_w]
          rfl
        refine pure_ (i := 16) (N := some 30) (v := undef) (a' := ?_) #[true, true, true, true, true, true, true, true, true, true, true, true, true, true, true, true, true, false, false, false, false, false] rfl rfl (any_of HT_.out (by kernel_rfl)) (fun _ _ _ h => h) (Or.inr ⟨by rfl, rfl⟩) ?_ ?_
        rotate_left
        · simp only [Act.put, List.setIfInBounds_toArray, List.set_cons_zero, List.set_cons_succ, i64_w, i32_w]
          rfl
        refine pure_ (i := 17) (N := some 31) (v := ?_) (a' := ?_) #[true, true, true, true, true, true, true, true, true, true, true, true, true, true, true, true, true, true, false, false, false, false] rfl rfl (any_of HT_.out (by kernel_rfl)) (fun _ _ _ h => h) (Or.inl ⟨by rfl, ?_⟩) ?_ ?_
        rotate_left
        · intro w'
          go_simp
          with_reducible rfl
        rotate_left
        · simp only [Act.put, List.setIfInBounds_toArray, List.set_cons_zero, List.set_cons_succ, i64_w, i32_w]
          rfl
        refine pure_ (i := 18) (N := some 32) (v := ?_) (a' := ?_) #[true, true, true, true, true, true, true, true, true, true, true, true, true, true, true, true, true, true, true, false, false, false] rfl rfl (any_of HT_.out (by kernel_rfl)) (fun _ _ _ h => h) (Or.inl ⟨by rfl, ?_⟩) ?_ ?_
        rotate_left
        · intro w'
          go_simp
          with_reducible rfl
        rotate_left
        · simp only [Act.put, List.setIfInBounds_toArray, List.set_cons_zero, List.set_cons_succ, i64_w, i32_w]
          rfl
        refine pure_ (i := 19) (N := some 33) (v := undef) (a' := ?_) #[true, true, true, true, true, true, true, true, true, true, true, true, true, true, true, true, true, true, true, true, false, false] rfl rfl (any_of HT_.out (by kernel_rfl)) (fun _ _ _ h => h) (Or.inr ⟨by rfl, rfl⟩) ?_ ?_
        rotate_left
        · simp only [Act.put, List.setIfInBounds_toArray, List.set_cons_zero, List.set_cons_succ, i64_w, i32_w]
          rfl
        refine pure_ (i := 20) (N := some 34) (v := ?_) (a' := ?_) #[true, true, true, true, true, true, true, true, true, true, true, true, true, true, true, true, true, true, true, true, true, false] rfl rfl (any_of HT_.out (by kernel_rfl)) (fun _ _ _ h => h) (Or.inl ⟨by rfl, ?_⟩) ?_ ?_
        rotate_left
        · intro w'
          go_simp
          with_reducible rfl
        rotate_left
        · simp only [Act.put, List.setIfInBounds_toArray, List.set_cons_zero, List.set_cons_succ, i64_w, i32_w]
          rfl
        refine pure_ (i := 21) (N := some 2) (v := ?_) (a' := ?_) #[true, true, true, true, true, true, true, true, true, true, true, true, true, true, true, true, true, true, true, true, true, true] rfl rfl (any_of HT_.out (by kernel_rfl)) (fun _ _ _ h => h) (Or.inl ⟨by rfl, ?_⟩) ?_ ?_
        rotate_left
        · intro w'
          go_simp
          with_reducible rfl
        rotate_left
        · simp only [Act.put, List.setIfInBounds_toArray, List.set_cons_zero, List.set_cons_succ, i64_w, i32_w]
          rfl
        refine done_ (done_of HT_.out (by kernel_rfl)) ?_
        try go_wp2
        go_ret
        exact ⟨by first | rfl | (simp [errW_none, errW_some] <;> rfl) | (simp [*, errW_none, errW_some] <;> rfl), by repeat (first | (with_reducible first | exact HB.out | apply below_alloc | apply pw_below_drewN | apply below_drew1 | refine below_set ?_ GE193.out | refine below_set ?_ GE216.out) | exact HB.out)⟩
  · replace c3 := Bool.eq_false_iff.mpr c3
    subst c3
    have H1 : (some true) = some r := by rw [if_neg (show ¬ (false = true) by decide)] at H; exact H
    clear H
    have H := H1
    clear H1
    obtain rfl := Option.some.inj H
    go_enter Try.func3, Try.ntmps3
    go_wp2_with (first | ((with_reducible refine gate_dst (N := 1) rfl ?_); refine box_event ?hg (N := 1) ?hd (cs := #[.int .i64 a0_0, .string a0_1, .string a0_2, .slice A0_3 l0_3.length c0_3, .slice A0_4 l0_4.length c0_4]) (t := 25) ?hr ?_; (case hd => rfl); (case hg => rfl); (case hr => first | (go_simp; done) | (go_simp; rfl)); intro gb193 hg w114 hbox hb; have n0_ := Aside0.mk (below_step (by repeat (first | (with_reducible first | exact HB.out | apply below_alloc | apply pw_below_drewN | apply below_drew1) | exact HB.out)) hb); have n1_ := Aside0.mk (hbox); have n2_ := Aside0.mk ((by rw [hg]; exact (below_size (by repeat (first | (with_reducible first | exact HB.out | apply below_alloc | apply pw_below_drewN | apply below_drew1) | exact HB.out))) : w.heap.size ≤ gb193)); have n3_ := Aside0.mk ((by rw [hg]; exact (below_size (by repeat (first | (with_reducible first | exact HB.out | apply below_alloc | apply pw_below_drewN | apply below_drew1) | exact HB.out))) : w.heap.size ≤ gb193)); clear HB; have HB := n0_; have BK193 := n1_; have GW193 := n2_; have GE193 := n3_; clear n0_ n1_ n2_ n3_; clear hb hbox hg; have hcz115_0 : w114.cell? ⟨gb193, 0, none⟩ = some (.int .i64 a0_0) := (blk_cell BK193.out 0).trans rfl; have hcz115_1 : w114.cell? ⟨gb193, 1, none⟩ = some (.string a0_1) := (blk_cell BK193.out 1).trans rfl; have hcz115_2 : w114.cell? ⟨gb193, 2, none⟩ = some (.string a0_2) := (blk_cell BK193.out 2).trans rfl; have hcz115_3 : w114.cell? ⟨gb193, 3, none⟩ = some (.slice A0_3 l0_3.length c0_3) := (blk_cell BK193.out 3).trans rfl; have hcz115_4 : w114.cell? ⟨gb193, 4, none⟩ = some (.slice A0_4 l0_4.length c0_4) := (blk_cell BK193.out 4).trans rfl; have hfz115_0 := blk_frozen BK193.out 0; have hfz115_1 := blk_frozen BK193.out 1; have hfz115_2 := blk_frozen BK193.out 2; have hfz115_3 := blk_frozen BK193.out 3; have hfz115_4 := blk_frozen BK193.out 4) | ((with_reducible refine gate_callee (f := 9) rfl ?_); refine goesL_ (some 6) rfl rfl Try.func9 (by kernel_rfl) rfl #[.agg #[.int .i64 a0_0, .string a0_1, .string a0_2, .slice A0_3 l0_3.length c0_3, .slice A0_4 l0_4.length c0_4]] rfl (by (try simp only [List.map_toArray, List.map_cons, List.map_nil]); first | done | rfl | (simp only [List.length_drop, List.length_take]; rfl)) ?_; (with_reducible refine (laws_zzFits2.calls k a0_0 a0_1 a0_2 _ _ l0_3 _ _ l0_4 false _ ?side1 ?side2 ?side3 ?side4 A2.out).mono ?_); (case side1 => repeat (first | exact (Kd.C_below HR0_3.out HB.out) | (with_reducible refine Kd.C_alloc ?_ _) | (with_reducible refine Kd.C_drewN ?_ _) | (with_reducible refine Kd.C_drew ?_))); (case side2 => exact HC0_3.out); (case side3 => repeat (first | exact (Kd.C_below HR0_4.out HB.out) | (with_reducible refine Kd.C_alloc ?_ _) | (with_reducible refine Kd.C_drewN ?_ _) | (with_reducible refine Kd.C_drew ?_))); (case side4 => exact HC0_4.out); rintro e w116 ⟨rfl, hb⟩; refine ⟨_, rfl, ?_⟩; have n0_ := Aside0.mk (blk_below (g := gb193) (o := .cells #[.int .i64 a0_0, .string a0_1, .string a0_2, .slice A0_3 l0_3.length c0_3, .slice A0_4 l0_4.length c0_4] 25 (0, 0)) (by (with_reducible repeat (first | refine blk_drewN ?_ _ | refine blk_drew ?_ | refine blk_alloc ?_ _)); exact BK193.out) hb); have n1_ := Aside0.mk (below_step (by repeat (first | (with_reducible first | exact HB.out | apply below_alloc | apply pw_below_drewN | apply below_drew1 | refine below_set ?_ GE193.out) | exact HB.out)) hb); clear BK193; clear HB; have BK193 := n0_; have HB := n1_; clear n0_ n1_; (try clear hb); (try clear hb2); (try clear hk); (try clear hi)))
    go_ret
    exact ⟨by first | rfl | (simp [errW_none, errW_some] <;> rfl) | (simp [*, errW_none, errW_some] <;> rfl), by repeat (first | (with_reducible first | exact HB.out | apply below_alloc | apply pw_below_drewN | apply below_drew1 | refine below_set ?_ GE193.out) | exact HB.out)⟩
end Go.Proofs.Ytmfjbljdbkmkgaa.PDom
