/- A part of the proof of FnEmptyCode: EDomx4, EvT, BlankL, BlankX, BlankS, BlankY, Keep, EDomx5, QuotX, Lives, CutF, one behind the other. -/
import Derived.Test.YtmfjbljdbkmkgaaMFnEmptyCode2
import Derived.Test.YtmfjbljdbkmkgaaMFnEmptyCode3
import Derived.Test.YtmfjbljdbkmkgaaMFnEmptyCode1
import Derived.Test.YtmfjbljdbkmkgaaProg
import Derived.Deep.DeepMust
import Derived.Tactics2
import Derived.Lib.SliceRun
import Derived.Deep.DeepCutAuto
import Derived.StillTailTactics
/- Printed by the program extprint.py of this session, out of the kit's print and contracts of this session's own; Lean checks it. -/
namespace Go.Proofs.Ytmfjbljdbkmkgaa.PDom
open Go.RowKit Go.Proofs.YtmfjbljdbkmkgaaW.PrintWords Go.Proofs.YtmfjbljdbkmkgaaW.PrintLast Go.Proofs.YtmfjbljdbkmkgaaW.PrintMore
attribute [local go_sem] max2_int min2_int max_two min_two max_three min_three max_four min_four   -- for this text's walks alone
set_option linter.unusedVariables false
set_option linter.unusedSimpArgs false

attribute [local go_sem high] eqA53

/-! ### spec_SameTree: function 14 -/
mutual
def spec_SameTree.j0 : Nat → Bool → Int → ByteArray → ByteArray → List (S53) → List (S25) → Int → ByteArray → ByteArray → List (S53) → List (S25) → Option (Bool)
  | 0, _, _, _, _, _, _, _, _, _, _, _ => none
  | k + 1, x43, x152000, x152001, x152002, x152003, x152004, x153000, x153001, x153002, x153003, x153004 => if x43 = true then (some false) else (spec_SameTree.l0 k (x152003.length : Int) 0 x152000 x152001 x152002 x152003 x152004 x153000 x153001 x153002 x153003 x153004)
def spec_SameTree.l0 : Nat → Int → Int → Int → ByteArray → ByteArray → List (S53) → List (S25) → Int → ByteArray → ByteArray → List (S53) → List (S25) → Option (Bool)
  | 0, _, _, _, _, _, _, _, _, _, _, _, _ => none
  | k + 1, x46, x47, x152000, x152001, x152002, x152003, x152004, x153000, x153001, x153002, x153003, x153004 => if x47 < x46 then (if 0 ≤ x47 then (if x47 < (x152003.length : Int) then (if x47 < (x153003.length : Int) then (if (!((((rd_T53 x152003 x47).f0).toList) == (((rd_T53 x153003 x47).f0).toList)) || (!((((rd_T53 x152003 x47).f1).toList) == (((rd_T53 x153003 x47).f1).toList)))) = true then (some false) else (spec_SameTree.l0 k x46 (wrap64 (x47 + 1)) x152000 x152001 x152002 x152003 x152004 x153000 x153001 x153002 x153003 x153004)) else (none)) else (none)) else (none)) else (spec_SameTree.l1 k (x152004.length : Int) 0 x152000 x152001 x152002 x152003 x152004 x153000 x153001 x153002 x153003 x153004)
def spec_SameTree.l1 : Nat → Int → Int → Int → ByteArray → ByteArray → List (S53) → List (S25) → Int → ByteArray → ByteArray → List (S53) → List (S25) → Option (Bool)
  | 0, _, _, _, _, _, _, _, _, _, _, _, _ => none
  | k + 1, x64, x65, x152000, x152001, x152002, x152003, x152004, x153000, x153001, x153002, x153003, x153004 => if x65 < x64 then (if 0 ≤ x65 then (if x65 < (x152004.length : Int) then (if x65 < (x153004.length : Int) then ((spec_SameTree.f k ((rd_T25 x152004 x65).f0) ((rd_T25 x152004 x65).f1) ((rd_T25 x152004 x65).f2) ((rd_T25 x152004 x65).f3) ((rd_T25 x152004 x65).f4) ((rd_T25 x153004 x65).f0) ((rd_T25 x153004 x65).f1) ((rd_T25 x153004 x65).f2) ((rd_T25 x153004 x65).f3) ((rd_T25 x153004 x65).f4)).bind fun t157 => (if t157 = true then (spec_SameTree.l1 k x64 (wrap64 (x65 + 1)) x152000 x152001 x152002 x152003 x152004 x153000 x153001 x153002 x153003 x153004) else (some false))) else (none)) else (none)) else (none)) else (some true)
def spec_SameTree.f : Nat → Int → ByteArray → ByteArray → List (S53) → List (S25) → Int → ByteArray → ByteArray → List (S53) → List (S25) → Option (Bool)
  | 0, _, _, _, _, _, _, _, _, _, _ => none
  | k + 1, a0_0, a0_1, a0_2, l0_3, l0_4, a1_0, a1_1, a1_2, l1_3, l1_4 => if a0_0 = a1_0 then (if a0_1.toList = a1_1.toList then (if a0_2.toList = a1_2.toList then (if (l0_3.length : Int) = (l1_3.length : Int) then (spec_SameTree.j0 k ((l0_4.length : Int) != (l1_4.length : Int)) a0_0 a0_1 a0_2 l0_3 l0_4 a1_0 a1_1 a1_2 l1_3 l1_4) else (spec_SameTree.j0 k true a0_0 a0_1 a0_2 l0_3 l0_4 a1_0 a1_1 a1_2 l1_3 l1_4)) else (spec_SameTree.j0 k true a0_0 a0_1 a0_2 l0_3 l0_4 a1_0 a1_1 a1_2 l1_3 l1_4)) else (spec_SameTree.j0 k true a0_0 a0_1 a0_2 l0_3 l0_4 a1_0 a1_1 a1_2 l1_3 l1_4)) else (spec_SameTree.j0 k true a0_0 a0_1 a0_2 l0_3 l0_4 a1_0 a1_1 a1_2 l1_3 l1_4)
end
theorem spec_SameTree.mono_l : ∀ k, (∀ y0 y1 y2 y3 y4 y5 y6 y7 y8 y9, LeO (spec_SameTree.f k y0 y1 y2 y3 y4 y5 y6 y7 y8 y9) (spec_SameTree.f (k + 1) y0 y1 y2 y3 y4 y5 y6 y7 y8 y9)) ∧ (∀ y0 y1 y2 y3 y4 y5 y6 y7 y8 y9 y10, LeO (spec_SameTree.j0 k y0 y1 y2 y3 y4 y5 y6 y7 y8 y9 y10) (spec_SameTree.j0 (k + 1) y0 y1 y2 y3 y4 y5 y6 y7 y8 y9 y10)) ∧ (∀ y0 y1 y2 y3 y4 y5 y6 y7 y8 y9 y10 y11, LeO (spec_SameTree.l0 k y0 y1 y2 y3 y4 y5 y6 y7 y8 y9 y10 y11) (spec_SameTree.l0 (k + 1) y0 y1 y2 y3 y4 y5 y6 y7 y8 y9 y10 y11)) ∧ (∀ y0 y1 y2 y3 y4 y5 y6 y7 y8 y9 y10 y11, LeO (spec_SameTree.l1 k y0 y1 y2 y3 y4 y5 y6 y7 y8 y9 y10 y11) (spec_SameTree.l1 (k + 1) y0 y1 y2 y3 y4 y5 y6 y7 y8 y9 y10 y11))
  | 0 => ⟨fun _ _ _ _ _ _ _ _ _ _ r h => by simp [spec_SameTree.f] at h, fun _ _ _ _ _ _ _ _ _ _ _ r h => by simp [spec_SameTree.j0] at h, fun _ _ _ _ _ _ _ _ _ _ _ _ r h => by simp [spec_SameTree.l0] at h, fun _ _ _ _ _ _ _ _ _ _ _ _ r h => by simp [spec_SameTree.l1] at h⟩
  | k + 1 => by
    obtain ⟨ih0, ih1, ih2, ih3⟩ := spec_SameTree.mono_l k
    refine ⟨?_, ?_, ?_, ?_⟩
    · intro y0 y1 y2 y3 y4 y5 y6 y7 y8 y9
      unfold spec_SameTree.f
      repeat' first
      | (with_reducible exact ih0 _ _ _ _ _ _ _ _ _ _)
      | (with_reducible exact ih1 _ _ _ _ _ _ _ _ _ _ _)
      | (with_reducible exact ih2 _ _ _ _ _ _ _ _ _ _ _ _)
      | (with_reducible exact ih3 _ _ _ _ _ _ _ _ _ _ _ _)
      | (with_reducible exact LeO.refl _)
      | (with_reducible exact LeO.none _)
      | (with_reducible refine LeO.ite ?_ ?_)
      | (with_reducible refine LeO.bind ?_ (fun _ => ?_))
      | exact ih0 _ _ _ _ _ _ _ _ _ _
      | exact ih1 _ _ _ _ _ _ _ _ _ _ _
      | exact ih2 _ _ _ _ _ _ _ _ _ _ _ _
      | exact ih3 _ _ _ _ _ _ _ _ _ _ _ _
      | exact LeO.none _
      | refine LeO.ite ?_ ?_
      | refine LeO.bind ?_ (fun _ => ?_)
    · intro y0 y1 y2 y3 y4 y5 y6 y7 y8 y9 y10
      unfold spec_SameTree.j0
      repeat' first
      | (with_reducible exact ih0 _ _ _ _ _ _ _ _ _ _)
      | (with_reducible exact ih1 _ _ _ _ _ _ _ _ _ _ _)
      | (with_reducible exact ih2 _ _ _ _ _ _ _ _ _ _ _ _)
      | (with_reducible exact ih3 _ _ _ _ _ _ _ _ _ _ _ _)
      | (with_reducible exact LeO.refl _)
      | (with_reducible exact LeO.none _)
      | (with_reducible refine LeO.ite ?_ ?_)
      | (with_reducible refine LeO.bind ?_ (fun _ => ?_))
      | exact ih0 _ _ _ _ _ _ _ _ _ _
      | exact ih1 _ _ _ _ _ _ _ _ _ _ _
      | exact ih2 _ _ _ _ _ _ _ _ _ _ _ _
      | exact ih3 _ _ _ _ _ _ _ _ _ _ _ _
      | exact LeO.none _
      | refine LeO.ite ?_ ?_
      | refine LeO.bind ?_ (fun _ => ?_)
    · intro y0 y1 y2 y3 y4 y5 y6 y7 y8 y9 y10 y11
      unfold spec_SameTree.l0
      repeat' first
      | (with_reducible exact ih0 _ _ _ _ _ _ _ _ _ _)
      | (with_reducible exact ih1 _ _ _ _ _ _ _ _ _ _ _)
      | (with_reducible exact ih2 _ _ _ _ _ _ _ _ _ _ _ _)
      | (with_reducible exact ih3 _ _ _ _ _ _ _ _ _ _ _ _)
      | (with_reducible exact LeO.refl _)
      | (with_reducible exact LeO.none _)
      | (with_reducible refine LeO.ite ?_ ?_)
      | (with_reducible refine LeO.bind ?_ (fun _ => ?_))
      | exact ih0 _ _ _ _ _ _ _ _ _ _
      | exact ih1 _ _ _ _ _ _ _ _ _ _ _
      | exact ih2 _ _ _ _ _ _ _ _ _ _ _ _
      | exact ih3 _ _ _ _ _ _ _ _ _ _ _ _
      | exact LeO.none _
      | refine LeO.ite ?_ ?_
      | refine LeO.bind ?_ (fun _ => ?_)
    · intro y0 y1 y2 y3 y4 y5 y6 y7 y8 y9 y10 y11
      unfold spec_SameTree.l1
      repeat' first
      | (with_reducible exact ih0 _ _ _ _ _ _ _ _ _ _)
      | (with_reducible exact ih1 _ _ _ _ _ _ _ _ _ _ _)
      | (with_reducible exact ih2 _ _ _ _ _ _ _ _ _ _ _ _)
      | (with_reducible exact ih3 _ _ _ _ _ _ _ _ _ _ _ _)
      | (with_reducible exact LeO.refl _)
      | (with_reducible exact LeO.none _)
      | (with_reducible refine LeO.ite ?_ ?_)
      | (with_reducible refine LeO.bind ?_ (fun _ => ?_))
      | exact ih0 _ _ _ _ _ _ _ _ _ _
      | exact ih1 _ _ _ _ _ _ _ _ _ _ _
      | exact ih2 _ _ _ _ _ _ _ _ _ _ _ _
      | exact ih3 _ _ _ _ _ _ _ _ _ _ _ _
      | exact LeO.none _
      | refine LeO.ite ?_ ?_
      | refine LeO.bind ?_ (fun _ => ?_)
theorem spec_SameTree.mono : ∀ a0 a1 a2 a3 a4 a5 a6 a7 a8 a9 k, LeO (spec_SameTree.f k a0 a1 a2 a3 a4 a5 a6 a7 a8 a9) (spec_SameTree.f (k + 1) a0 a1 a2 a3 a4 a5 a6 a7 a8 a9) := by
  intro a0 a1 a2 a3 a4 a5 a6 a7 a8 a9 k
  obtain ⟨ih0, ih1, ih2, ih3⟩ := spec_SameTree.mono_l k
  exact ih0 a0 a1 a2 a3 a4 a5 a6 a7 a8 a9
def spec_SameTree.T6 : Bool × List (List Nat × List Nat) := (true, [([], []), ([0], [0]), ([], []), ([1, 2], [1, 2]), ([3], [3]), ([], []), ([5], [5]), ([], []), ([6, 7], [6, 7]), ([8], [8]), ([4, 9], [4, 9])])
def spec_SameTree.B6 : List Nat := [0, 1, 0, 7, 15, 0, 32, 0, 224, 480, 1023]
theorem spec_SameTree.tab6 : rtab .any (opsOf Try.f14 6) = spec_SameTree.T6 := by kernel_rfl
theorem spec_SameTree.bits6 : waitsOk spec_SameTree.T6.2 spec_SameTree.B6 = true := by kernel_rfl
def spec_SameTree.T12 : Bool × List (List Nat × List Nat) := (true, [([], []), ([0], [0]), ([], []), ([1, 2], [1, 2]), ([3], [3]), ([], []), ([5], [5]), ([], []), ([6, 7], [6, 7]), ([8], [8]), ([4, 9], [4, 9]), ([10], [10])])
def spec_SameTree.B12 : List Nat := [0, 1, 0, 7, 15, 0, 32, 0, 224, 480, 1023, 2047]
theorem spec_SameTree.tab12 : rtab .any (opsOf Try.f14 12) = spec_SameTree.T12 := by kernel_rfl
theorem spec_SameTree.bits12 : waitsOk spec_SameTree.T12.2 spec_SameTree.B12 = true := by kernel_rfl
set_option maxHeartbeats 8000000 in
set_option maxRecDepth 100000 in
theorem spec_SameTree.calls (k : Nat) : ∀ (a0_0 : Int) (a0_1 : ByteArray) (a0_2 : ByteArray) (A0_3 : Option Addr) (c0_3 : Nat) (l0_3 : List (S53)) (A0_4 : Option Addr) (c0_4 : Nat) (l0_4 : List (S25)) (a1_0 : Int) (a1_1 : ByteArray) (a1_2 : ByteArray) (A1_3 : Option Addr) (c1_3 : Nat) (l1_3 : List (S53)) (A1_4 : Option Addr) (c1_4 : Nat) (l1_4 : List (S25)) (r : Bool) (w : World) (hr0_3 : Kd.C k53 w A0_3 l0_3.length l0_3) (hc0_3 : l0_3.length ≤ c0_3) (hr0_4 : Kd.C k25 w A0_4 l0_4.length l0_4) (hc0_4 : l0_4.length ≤ c0_4) (hr1_3 : Kd.C k53 w A1_3 l1_3.length l1_3) (hc1_3 : l1_3.length ≤ c1_3) (hr1_4 : Kd.C k25 w A1_4 l1_4.length l1_4) (hc1_4 : l1_4.length ≤ c1_4) (h : spec_SameTree.f k a0_0 a0_1 a0_2 l0_3 l0_4 a1_0 a1_1 a1_2 l1_3 l1_4 = some r),
    Calls Try.prog 14 #[.agg #[.int .i64 a0_0, .string a0_1, .string a0_2, .slice A0_3 l0_3.length c0_3, .slice A0_4 l0_4.length c0_4], .agg #[.int .i64 a1_0, .string a1_1, .string a1_2, .slice A1_3 l1_3.length c1_3, .slice A1_4 l1_4.length c1_4]] w fun e w' => e = .returned (.bool r) ∧ Below w.heap.size w w' := by
  induction k using Nat.strongRecOn with
  | _ k ih =>
  intro a0_0 a0_1 a0_2 A0_3 c0_3 l0_3 A0_4 c0_4 l0_4 a1_0 a1_1 a1_2 A1_3 c1_3 l1_3 A1_4 c1_4 l1_4 r w hr0_3 hc0_3 hr0_4 hc0_4 hr1_3 hc1_3 hr1_4 hc1_4 h
  cases k with
  | zero => exact absurd h (by simp [spec_SameTree.f])
  | succ k =>
  simp only [spec_SameTree.f] at h
  have hu25 := Try.underlying25
  have hu53 := Try.underlying53
  have HR0_3 := Aside0.mk hr0_3
  have HC0_3 := Aside0.mk hc0_3
  clear hr0_3 hc0_3
  have HR0_4 := Aside0.mk hr0_4
  have HC0_4 := Aside0.mk hc0_4
  clear hr0_4 hc0_4
  have HR1_3 := Aside0.mk hr1_3
  have HC1_3 := Aside0.mk hc1_3
  clear hr1_3 hc1_3
  have HR1_4 := Aside0.mk hr1_4
  have HC1_4 := Aside0.mk hc1_4
  clear hr1_4 hc1_4
  have HB := Aside0.mk (Below.refl w.heap.size w)
  have H : (if a0_0 = a1_0 then (if a0_1.toList = a1_1.toList then (if a0_2.toList = a1_2.toList then (if (l0_3.length : Int) = (l1_3.length : Int) then (spec_SameTree.j0 k ((l0_4.length : Int) != (l1_4.length : Int)) a0_0 a0_1 a0_2 l0_3 l0_4 a1_0 a1_1 a1_2 l1_3 l1_4) else (spec_SameTree.j0 k true a0_0 a0_1 a0_2 l0_3 l0_4 a1_0 a1_1 a1_2 l1_3 l1_4)) else (spec_SameTree.j0 k true a0_0 a0_1 a0_2 l0_3 l0_4 a1_0 a1_1 a1_2 l1_3 l1_4)) else (spec_SameTree.j0 k true a0_0 a0_1 a0_2 l0_3 l0_4 a1_0 a1_1 a1_2 l1_3 l1_4)) else (spec_SameTree.j0 k true a0_0 a0_1 a0_2 l0_3 l0_4 a1_0 a1_1 a1_2 l1_3 l1_4)) = some r := h
  clear h
  have HC3 := Aside0.mk H
  clear H
  go_enter Try.func14, Try.ntmps14
  go_upto_region 1 with (first | ((with_reducible refine gate_dst (N := 2) rfl ?_); (try (refine gate_guard (by rfl) ?_; dsimp only)); refine box_event ?hg (N := 2) ?hd (cs := #[.int .i64 a0_0, .string a0_1, .string a0_2, .slice A0_3 l0_3.length c0_3, .slice A0_4 l0_4.length c0_4]) (t := 25) ?hr ?_; (case hd => rfl); (case hg => rfl); (case hr => first | (go_simp; done) | (go_simp; rfl)); intro gb151 hg w4 hbox hb; have n0_ := Aside0.mk (below_step (by repeat (first | (with_reducible first | exact HB.out | apply below_alloc | apply pw_below_drewN | apply below_drew1) | exact HB.out)) hb); have n1_ := Aside0.mk (hbox); have n2_ := Aside0.mk ((by rw [hg]; exact (below_size (by repeat (first | (with_reducible first | exact HB.out | apply below_alloc | apply pw_below_drewN | apply below_drew1) | exact HB.out))) : w.heap.size ≤ gb151)); have n3_ := Aside0.mk ((by rw [hg]; exact (below_size (by repeat (first | (with_reducible first | exact HB.out | apply below_alloc | apply pw_below_drewN | apply below_drew1) | exact HB.out))) : w.heap.size ≤ gb151)); clear HB; have HB := n0_; have BK151 := n1_; have GW151 := n2_; have GE151 := n3_; clear n0_ n1_ n2_ n3_; clear hb hbox hg) | ((with_reducible refine gate_dst (N := 3) rfl ?_); (try (refine gate_guard (by rfl) ?_; dsimp only)); refine box_event ?hg (N := 3) ?hd (cs := #[.int .i64 a1_0, .string a1_1, .string a1_2, .slice A1_3 l1_3.length c1_3, .slice A1_4 l1_4.length c1_4]) (t := 25) ?hr ?_; (case hd => rfl); (case hg => rfl); (case hr => first | (go_simp; done) | (go_simp; rfl)); intro gb152 hg w5 hbox hb; have n0_ := Aside0.mk (blk_below (g := gb151) (o := .cells #[.int .i64 a0_0, .string a0_1, .string a0_2, .slice A0_3 l0_3.length c0_3, .slice A0_4 l0_4.length c0_4] 25 (0, 0)) (by (with_reducible repeat (first | refine blk_drewN ?_ _ | refine blk_drew ?_ | refine blk_alloc ?_ _)); exact BK151.out) hb); have n1_ := Aside0.mk (below_step (by repeat (first | (with_reducible first | exact HB.out | apply below_alloc | apply pw_below_drewN | apply below_drew1 | refine below_set ?_ GE151.out) | exact HB.out)) hb); have n2_ := Aside0.mk (hbox); have n3_ := Aside0.mk ((by rw [hg]; exact (below_size (by repeat (first | (with_reducible first | exact HB.out | apply below_alloc | apply pw_below_drewN | apply below_drew1 | refine below_set ?_ GE151.out) | exact HB.out))) : w.heap.size ≤ gb152)); have n4_ := Aside0.mk ((by rw [hg]; exact (below_size (by repeat (first | (with_reducible first | exact HB.out | apply below_alloc | apply pw_below_drewN | apply below_drew1 | refine below_set ?_ GE151.out) | exact HB.out))) : w.heap.size ≤ gb152)); have n5_ := Aside0.mk ((by rw [hg]; exact Nat.ne_of_lt (blk_lt (g := gb151) (o := .cells #[.int .i64 a0_0, .string a0_1, .string a0_2, .slice A0_3 l0_3.length c0_3, .slice A0_4 l0_4.length c0_4] 25 (0, 0)) (by (with_reducible repeat (first | refine blk_drewN ?_ _ | refine blk_drew ?_ | refine blk_alloc ?_ _)); exact BK151.out)) : gb151 ≠ gb152)); have n6_ := Aside0.mk ((by rw [hg]; exact Nat.ne_of_gt (blk_lt (g := gb151) (o := .cells #[.int .i64 a0_0, .string a0_1, .string a0_2, .slice A0_3 l0_3.length c0_3, .slice A0_4 l0_4.length c0_4] 25 (0, 0)) (by (with_reducible repeat (first | refine blk_drewN ?_ _ | refine blk_drew ?_ | refine blk_alloc ?_ _)); exact BK151.out)) : gb152 ≠ gb151)); clear BK151; clear HB; have BK151 := n0_; have HB := n1_; have BK152 := n2_; have GW152 := n3_; have GE152 := n4_; have NB151_152 := n5_; have NB152_151 := n6_; clear n0_ n1_ n2_ n3_ n4_ n5_ n6_; clear hb hbox hg))
  (try simp only [Act.put, List.setIfInBounds_toArray, List.set_cons_zero, List.set_cons_succ])
  go_cut [43] (fun v43 wc => ∃ (kq : Nat) (x43_2 : Bool), v43 = .bool x43_2 ∧ Aside0 (spec_SameTree.j0 kq x43_2 a0_0 a0_1 a0_2 l0_3 l0_4 a1_0 a1_1 a1_2 l1_3 l1_4 = some r) ∧ Aside0 (kq ≤ k) ∧ Aside0 (wc.heap[gb151]? = some (.cells #[.int .i64 a0_0, .string a0_1, .string a0_2, (.slice A0_3 l0_3.length c0_3), (.slice A0_4 l0_4.length c0_4)] 25 (0, 0))) ∧ Aside0 (wc.heap[gb152]? = some (.cells #[.int .i64 a1_0, .string a1_1, .string a1_2, (.slice A1_3 l1_3.length c1_3), (.slice A1_4 l1_4.length c1_4)] 25 (0, 0))) ∧ Aside0 (Below w.heap.size w wc))
  case first =>
    have H := HC3.out
    clear HC3
    by_cases c6 : a0_0 = a1_0
    · rw [if_pos c6] at H
      have c6b0 : (a0_0 == a1_0) = true := beq_iff_eq.mpr c6
      have c6b1 : (a0_0 != a1_0) = false := bne_eq_false_iff_eq.mpr c6
      clear c6
      (first | rw [c6b0] | (simp only [i64_w, i32_w]; rw [c6b0]) | skip)
      by_cases c7 : a0_1.toList = a1_1.toList
      · rw [if_pos c7] at H
        have c7b0 : (a0_1.toList == a1_1.toList) = true := beq_iff_eq.mpr c7
        have c7b1 : (a0_1.toList != a1_1.toList) = false := bne_eq_false_iff_eq.mpr c7
        clear c7
        by_cases c8 : a0_2.toList = a1_2.toList
        · rw [if_pos c8] at H
          have c8b0 : (a0_2.toList == a1_2.toList) = true := beq_iff_eq.mpr c8
          have c8b1 : (a0_2.toList != a1_2.toList) = false := bne_eq_false_iff_eq.mpr c8
          clear c8
          by_cases c9 : (l0_3.length : Int) = (l1_3.length : Int)
          · rw [if_pos c9] at H
            have c9b0 : ((l0_3.length : Int) == (l1_3.length : Int)) = true := beq_iff_eq.mpr c9
            have c9b1 : ((l0_3.length : Int) != (l1_3.length : Int)) = false := bne_eq_false_iff_eq.mpr c9
            have c9b2 : (l0_3.length == l1_3.length) = true := by first | simpa using c9 | (simp at c9 ⊢; omega)
            clear c9
            have H' := Aside0.mk H
            clear H
            have hnb10 := NB151_152.out
            have hnc10 := NB152_151.out
            have hcz11_0 : w5.cell? ⟨gb151, 0, none⟩ = some (.int .i64 a0_0) := (blk_cell BK151.out 0).trans rfl
            have hcz11_1 : w5.cell? ⟨gb151, 1, none⟩ = some (.string a0_1) := (blk_cell BK151.out 1).trans rfl
            have hcz11_2 : w5.cell? ⟨gb151, 2, none⟩ = some (.string a0_2) := (blk_cell BK151.out 2).trans rfl
            have hcz11_3 : w5.cell? ⟨gb151, 3, none⟩ = some (.slice A0_3 l0_3.length c0_3) := (blk_cell BK151.out 3).trans rfl
            have hcz11_4 : w5.cell? ⟨gb151, 4, none⟩ = some (.slice A0_4 l0_4.length c0_4) := (blk_cell BK151.out 4).trans rfl
            have hfz11_0 := blk_frozen BK151.out 0
            have hfz11_1 := blk_frozen BK151.out 1
            have hfz11_2 := blk_frozen BK151.out 2
            have hfz11_3 := blk_frozen BK151.out 3
            have hfz11_4 := blk_frozen BK151.out 4
            have hcz12_0 : w5.cell? ⟨gb152, 0, none⟩ = some (.int .i64 a1_0) := (blk_cell BK152.out 0).trans rfl
            have hcz12_1 : w5.cell? ⟨gb152, 1, none⟩ = some (.string a1_1) := (blk_cell BK152.out 1).trans rfl
            have hcz12_2 : w5.cell? ⟨gb152, 2, none⟩ = some (.string a1_2) := (blk_cell BK152.out 2).trans rfl
            have hcz12_3 : w5.cell? ⟨gb152, 3, none⟩ = some (.slice A1_3 l1_3.length c1_3) := (blk_cell BK152.out 3).trans rfl
            have hcz12_4 : w5.cell? ⟨gb152, 4, none⟩ = some (.slice A1_4 l1_4.length c1_4) := (blk_cell BK152.out 4).trans rfl
            have hfz12_0 := blk_frozen BK152.out 0
            have hfz12_1 := blk_frozen BK152.out 1
            have hfz12_2 := blk_frozen BK152.out 2
            have hfz12_3 := blk_frozen BK152.out 3
            have hfz12_4 := blk_frozen BK152.out 4
            go_wp2
            go_meet
            case rel => exact ⟨_, (((l0_4.length : Int) != (l1_4.length : Int))), (by first | rfl | (simp; done) | (simp [*]; done)), H', ⟨by first | omega | exact Nat.le_refl _⟩, ⟨by (with_reducible repeat (first | refine blk_drewN ?_ _ | refine blk_drew ?_ | refine blk_alloc ?_ _)); exact BK151.out⟩, ⟨by (with_reducible repeat (first | refine blk_drewN ?_ _ | refine blk_drew ?_ | refine blk_alloc ?_ _)); exact BK152.out⟩, ⟨by repeat (first | (with_reducible first | exact HB.out | apply below_alloc | apply pw_below_drewN | apply below_drew1 | refine below_set ?_ GE151.out | refine below_set ?_ GE152.out) | exact HB.out)⟩⟩
          · rw [if_neg c9] at H
            have c9b0 : ((l0_3.length : Int) == (l1_3.length : Int)) = false := beq_eq_false_iff_ne.mpr c9
            have c9b1 : ((l0_3.length : Int) != (l1_3.length : Int)) = true := bne_iff_ne.mpr c9
            have c9b2 : (l0_3.length == l1_3.length) = false := by first | simpa using c9 | (simp at c9 ⊢; omega)
            have H' := Aside0.mk H
            clear H
            have hnb13 := NB151_152.out
            have hnc13 := NB152_151.out
            have hcz14_0 : w5.cell? ⟨gb151, 0, none⟩ = some (.int .i64 a0_0) := (blk_cell BK151.out 0).trans rfl
            have hcz14_1 : w5.cell? ⟨gb151, 1, none⟩ = some (.string a0_1) := (blk_cell BK151.out 1).trans rfl
            have hcz14_2 : w5.cell? ⟨gb151, 2, none⟩ = some (.string a0_2) := (blk_cell BK151.out 2).trans rfl
            have hcz14_3 : w5.cell? ⟨gb151, 3, none⟩ = some (.slice A0_3 l0_3.length c0_3) := (blk_cell BK151.out 3).trans rfl
            have hcz14_4 : w5.cell? ⟨gb151, 4, none⟩ = some (.slice A0_4 l0_4.length c0_4) := (blk_cell BK151.out 4).trans rfl
            have hfz14_0 := blk_frozen BK151.out 0
            have hfz14_1 := blk_frozen BK151.out 1
            have hfz14_2 := blk_frozen BK151.out 2
            have hfz14_3 := blk_frozen BK151.out 3
            have hfz14_4 := blk_frozen BK151.out 4
            have hcz15_0 : w5.cell? ⟨gb152, 0, none⟩ = some (.int .i64 a1_0) := (blk_cell BK152.out 0).trans rfl
            have hcz15_1 : w5.cell? ⟨gb152, 1, none⟩ = some (.string a1_1) := (blk_cell BK152.out 1).trans rfl
            have hcz15_2 : w5.cell? ⟨gb152, 2, none⟩ = some (.string a1_2) := (blk_cell BK152.out 2).trans rfl
            have hcz15_3 : w5.cell? ⟨gb152, 3, none⟩ = some (.slice A1_3 l1_3.length c1_3) := (blk_cell BK152.out 3).trans rfl
            have hcz15_4 : w5.cell? ⟨gb152, 4, none⟩ = some (.slice A1_4 l1_4.length c1_4) := (blk_cell BK152.out 4).trans rfl
            have hfz15_0 := blk_frozen BK152.out 0
            have hfz15_1 := blk_frozen BK152.out 1
            have hfz15_2 := blk_frozen BK152.out 2
            have hfz15_3 := blk_frozen BK152.out 3
            have hfz15_4 := blk_frozen BK152.out 4
            go_wp2
            go_meet
            case rel => exact ⟨_, (true), (by first | rfl | (simp; done) | (simp [*]; done)), H', ⟨by first | omega | exact Nat.le_refl _⟩, ⟨by (with_reducible repeat (first | refine blk_drewN ?_ _ | refine blk_drew ?_ | refine blk_alloc ?_ _)); exact BK151.out⟩, ⟨by (with_reducible repeat (first | refine blk_drewN ?_ _ | refine blk_drew ?_ | refine blk_alloc ?_ _)); exact BK152.out⟩, ⟨by repeat (first | (with_reducible first | exact HB.out | apply below_alloc | apply pw_below_drewN | apply below_drew1 | refine below_set ?_ GE151.out | refine below_set ?_ GE152.out) | exact HB.out)⟩⟩
        · rw [if_neg c8] at H
          have c8b0 : (a0_2.toList == a1_2.toList) = false := beq_eq_false_iff_ne.mpr c8
          have c8b1 : (a0_2.toList != a1_2.toList) = true := bne_iff_ne.mpr c8
          have H' := Aside0.mk H
          clear H
          have hnb16 := NB151_152.out
          have hnc16 := NB152_151.out
          have hcz17_0 : w5.cell? ⟨gb151, 0, none⟩ = some (.int .i64 a0_0) := (blk_cell BK151.out 0).trans rfl
          have hcz17_1 : w5.cell? ⟨gb151, 1, none⟩ = some (.string a0_1) := (blk_cell BK151.out 1).trans rfl
          have hcz17_2 : w5.cell? ⟨gb151, 2, none⟩ = some (.string a0_2) := (blk_cell BK151.out 2).trans rfl
          have hcz17_3 : w5.cell? ⟨gb151, 3, none⟩ = some (.slice A0_3 l0_3.length c0_3) := (blk_cell BK151.out 3).trans rfl
          have hcz17_4 : w5.cell? ⟨gb151, 4, none⟩ = some (.slice A0_4 l0_4.length c0_4) := (blk_cell BK151.out 4).trans rfl
          have hfz17_0 := blk_frozen BK151.out 0
          have hfz17_1 := blk_frozen BK151.out 1
          have hfz17_2 := blk_frozen BK151.out 2
          have hfz17_3 := blk_frozen BK151.out 3
          have hfz17_4 := blk_frozen BK151.out 4
          have hcz18_0 : w5.cell? ⟨gb152, 0, none⟩ = some (.int .i64 a1_0) := (blk_cell BK152.out 0).trans rfl
          have hcz18_1 : w5.cell? ⟨gb152, 1, none⟩ = some (.string a1_1) := (blk_cell BK152.out 1).trans rfl
          have hcz18_2 : w5.cell? ⟨gb152, 2, none⟩ = some (.string a1_2) := (blk_cell BK152.out 2).trans rfl
          have hcz18_3 : w5.cell? ⟨gb152, 3, none⟩ = some (.slice A1_3 l1_3.length c1_3) := (blk_cell BK152.out 3).trans rfl
          have hcz18_4 : w5.cell? ⟨gb152, 4, none⟩ = some (.slice A1_4 l1_4.length c1_4) := (blk_cell BK152.out 4).trans rfl
          have hfz18_0 := blk_frozen BK152.out 0
          have hfz18_1 := blk_frozen BK152.out 1
          have hfz18_2 := blk_frozen BK152.out 2
          have hfz18_3 := blk_frozen BK152.out 3
          have hfz18_4 := blk_frozen BK152.out 4
          go_wp2
          go_meet
          case rel => exact ⟨_, (true), (by first | rfl | (simp; done) | (simp [*]; done)), H', ⟨by first | omega | exact Nat.le_refl _⟩, ⟨by (with_reducible repeat (first | refine blk_drewN ?_ _ | refine blk_drew ?_ | refine blk_alloc ?_ _)); exact BK151.out⟩, ⟨by (with_reducible repeat (first | refine blk_drewN ?_ _ | refine blk_drew ?_ | refine blk_alloc ?_ _)); exact BK152.out⟩, ⟨by repeat (first | (with_reducible first | exact HB.out | apply below_alloc | apply pw_below_drewN | apply below_drew1 | refine below_set ?_ GE151.out | refine below_set ?_ GE152.out) | exact HB.out)⟩⟩
      · rw [if_neg c7] at H
        have c7b0 : (a0_1.toList == a1_1.toList) = false := beq_eq_false_iff_ne.mpr c7
        have c7b1 : (a0_1.toList != a1_1.toList) = true := bne_iff_ne.mpr c7
        have H' := Aside0.mk H
        clear H
        have hnb19 := NB151_152.out
        have hnc19 := NB152_151.out
        have hcz20_0 : w5.cell? ⟨gb151, 0, none⟩ = some (.int .i64 a0_0) := (blk_cell BK151.out 0).trans rfl
        have hcz20_1 : w5.cell? ⟨gb151, 1, none⟩ = some (.string a0_1) := (blk_cell BK151.out 1).trans rfl
        have hcz20_2 : w5.cell? ⟨gb151, 2, none⟩ = some (.string a0_2) := (blk_cell BK151.out 2).trans rfl
        have hcz20_3 : w5.cell? ⟨gb151, 3, none⟩ = some (.slice A0_3 l0_3.length c0_3) := (blk_cell BK151.out 3).trans rfl
        have hcz20_4 : w5.cell? ⟨gb151, 4, none⟩ = some (.slice A0_4 l0_4.length c0_4) := (blk_cell BK151.out 4).trans rfl
        have hfz20_0 := blk_frozen BK151.out 0
        have hfz20_1 := blk_frozen BK151.out 1
        have hfz20_2 := blk_frozen BK151.out 2
        have hfz20_3 := blk_frozen BK151.out 3
        have hfz20_4 := blk_frozen BK151.out 4
        have hcz21_0 : w5.cell? ⟨gb152, 0, none⟩ = some (.int .i64 a1_0) := (blk_cell BK152.out 0).trans rfl
        have hcz21_1 : w5.cell? ⟨gb152, 1, none⟩ = some (.string a1_1) := (blk_cell BK152.out 1).trans rfl
        have hcz21_2 : w5.cell? ⟨gb152, 2, none⟩ = some (.string a1_2) := (blk_cell BK152.out 2).trans rfl
        have hcz21_3 : w5.cell? ⟨gb152, 3, none⟩ = some (.slice A1_3 l1_3.length c1_3) := (blk_cell BK152.out 3).trans rfl
        have hcz21_4 : w5.cell? ⟨gb152, 4, none⟩ = some (.slice A1_4 l1_4.length c1_4) := (blk_cell BK152.out 4).trans rfl
        have hfz21_0 := blk_frozen BK152.out 0
        have hfz21_1 := blk_frozen BK152.out 1
        have hfz21_2 := blk_frozen BK152.out 2
        have hfz21_3 := blk_frozen BK152.out 3
        have hfz21_4 := blk_frozen BK152.out 4
        go_wp2
        go_meet
        case rel => exact ⟨_, (true), (by first | rfl | (simp; done) | (simp [*]; done)), H', ⟨by first | omega | exact Nat.le_refl _⟩, ⟨by (with_reducible repeat (first | refine blk_drewN ?_ _ | refine blk_drew ?_ | refine blk_alloc ?_ _)); exact BK151.out⟩, ⟨by (with_reducible repeat (first | refine blk_drewN ?_ _ | refine blk_drew ?_ | refine blk_alloc ?_ _)); exact BK152.out⟩, ⟨by repeat (first | (with_reducible first | exact HB.out | apply below_alloc | apply pw_below_drewN | apply below_drew1 | refine below_set ?_ GE151.out | refine below_set ?_ GE152.out) | exact HB.out)⟩⟩
    · rw [if_neg c6] at H
      have c6b0 : (a0_0 == a1_0) = false := beq_eq_false_iff_ne.mpr c6
      have c6b1 : (a0_0 != a1_0) = true := bne_iff_ne.mpr c6
      (first | rw [c6b0] | (simp only [i64_w, i32_w]; rw [c6b0]) | skip)
      have H' := Aside0.mk H
      clear H
      have hnb22 := NB151_152.out
      have hnc22 := NB152_151.out
      have hcz23_0 : w5.cell? ⟨gb151, 0, none⟩ = some (.int .i64 a0_0) := (blk_cell BK151.out 0).trans rfl
      have hcz23_1 : w5.cell? ⟨gb151, 1, none⟩ = some (.string a0_1) := (blk_cell BK151.out 1).trans rfl
      have hcz23_2 : w5.cell? ⟨gb151, 2, none⟩ = some (.string a0_2) := (blk_cell BK151.out 2).trans rfl
      have hcz23_3 : w5.cell? ⟨gb151, 3, none⟩ = some (.slice A0_3 l0_3.length c0_3) := (blk_cell BK151.out 3).trans rfl
      have hcz23_4 : w5.cell? ⟨gb151, 4, none⟩ = some (.slice A0_4 l0_4.length c0_4) := (blk_cell BK151.out 4).trans rfl
      have hfz23_0 := blk_frozen BK151.out 0
      have hfz23_1 := blk_frozen BK151.out 1
      have hfz23_2 := blk_frozen BK151.out 2
      have hfz23_3 := blk_frozen BK151.out 3
      have hfz23_4 := blk_frozen BK151.out 4
      have hcz24_0 : w5.cell? ⟨gb152, 0, none⟩ = some (.int .i64 a1_0) := (blk_cell BK152.out 0).trans rfl
      have hcz24_1 : w5.cell? ⟨gb152, 1, none⟩ = some (.string a1_1) := (blk_cell BK152.out 1).trans rfl
      have hcz24_2 : w5.cell? ⟨gb152, 2, none⟩ = some (.string a1_2) := (blk_cell BK152.out 2).trans rfl
      have hcz24_3 : w5.cell? ⟨gb152, 3, none⟩ = some (.slice A1_3 l1_3.length c1_3) := (blk_cell BK152.out 3).trans rfl
      have hcz24_4 : w5.cell? ⟨gb152, 4, none⟩ = some (.slice A1_4 l1_4.length c1_4) := (blk_cell BK152.out 4).trans rfl
      have hfz24_0 := blk_frozen BK152.out 0
      have hfz24_1 := blk_frozen BK152.out 1
      have hfz24_2 := blk_frozen BK152.out 2
      have hfz24_3 := blk_frozen BK152.out 3
      have hfz24_4 := blk_frozen BK152.out 4
      go_wp2
      go_meet
      case rel => exact ⟨_, (true), (by first | rfl | (simp; done) | (simp [*]; done)), H', ⟨by first | omega | exact Nat.le_refl _⟩, ⟨by (with_reducible repeat (first | refine blk_drewN ?_ _ | refine blk_drew ?_ | refine blk_alloc ?_ _)); exact BK151.out⟩, ⟨by (with_reducible repeat (first | refine blk_drewN ?_ _ | refine blk_drew ?_ | refine blk_alloc ?_ _)); exact BK152.out⟩, ⟨by repeat (first | (with_reducible first | exact HB.out | apply below_alloc | apply pw_below_drewN | apply below_drew1 | refine below_set ?_ GE151.out | refine below_set ?_ GE152.out) | exact HB.out)⟩⟩
  case rest =>
    clear HC3
    try clear c1
    try clear c2
    try clear p2
    try clear c6
    try clear c6b0
    try clear c6b1
    try clear c7
    try clear c7b0
    try clear c7b1
    try clear c8
    try clear c8b0
    try clear c8b1
    try clear c9
    try clear c9b0
    try clear c9b1
    try clear c9b2
    try clear c10
    try clear c13
    try clear c14
    try clear c16
    try clear c19
    try clear c22
    try clear hcz11_0
    try clear hcz11_1
    try clear hcz11_2
    try clear hcz11_3
    try clear hcz11_4
    try clear hcz12_0
    try clear hcz12_1
    try clear hcz12_2
    try clear hcz12_3
    try clear hcz12_4
    try clear hcz14_0
    try clear hcz14_1
    try clear hcz14_2
    try clear hcz14_3
    try clear hcz14_4
    try clear hcz15_0
    try clear hcz15_1
    try clear hcz15_2
    try clear hcz15_3
    try clear hcz15_4
    try clear hcz17_0
    try clear hcz17_1
    try clear hcz17_2
    try clear hcz17_3
    try clear hcz17_4
    try clear hcz18_0
    try clear hcz18_1
    try clear hcz18_2
    try clear hcz18_3
    try clear hcz18_4
    try clear hcz20_0
    try clear hcz20_1
    try clear hcz20_2
    try clear hcz20_3
    try clear hcz20_4
    try clear hcz21_0
    try clear hcz21_1
    try clear hcz21_2
    try clear hcz21_3
    try clear hcz21_4
    try clear hcz23_0
    try clear hcz23_1
    try clear hcz23_2
    try clear hcz23_3
    try clear hcz23_4
    try clear hcz24_0
    try clear hcz24_1
    try clear hcz24_2
    try clear hcz24_3
    try clear hcz24_4
    try clear hfz11_0
    try clear hfz11_1
    try clear hfz11_2
    try clear hfz11_3
    try clear hfz11_4
    try clear hfz12_0
    try clear hfz12_1
    try clear hfz12_2
    try clear hfz12_3
    try clear hfz12_4
    try clear hfz14_0
    try clear hfz14_1
    try clear hfz14_2
    try clear hfz14_3
    try clear hfz14_4
    try clear hfz15_0
    try clear hfz15_1
    try clear hfz15_2
    try clear hfz15_3
    try clear hfz15_4
    try clear hfz17_0
    try clear hfz17_1
    try clear hfz17_2
    try clear hfz17_3
    try clear hfz17_4
    try clear hfz18_0
    try clear hfz18_1
    try clear hfz18_2
    try clear hfz18_3
    try clear hfz18_4
    try clear hfz20_0
    try clear hfz20_1
    try clear hfz20_2
    try clear hfz20_3
    try clear hfz20_4
    try clear hfz21_0
    try clear hfz21_1
    try clear hfz21_2
    try clear hfz21_3
    try clear hfz21_4
    try clear hfz23_0
    try clear hfz23_1
    try clear hfz23_2
    try clear hfz23_3
    try clear hfz23_4
    try clear hfz24_0
    try clear hfz24_1
    try clear hfz24_2
    try clear hfz24_3
    try clear hfz24_4
    obtain ⟨kq, x43_2, rfl, HA, HJ2, BK151, BK152, HB⟩ := hcut
    cases kq with
    | zero => exact absurd HA.out (by simp [spec_SameTree.j0])
    | succ kj2 =>
      have H := HA.out
      clear HA
      simp only [spec_SameTree.j0] at H
      by_cases c25 : x43_2 = true
      · subst c25
        have H1 : (some false) = some r := by rw [if_pos rfl] at H; exact H
        clear H
        have H := H1
        clear H1
        obtain rfl := Option.some.inj H
        go_wp2
        go_ret
        exact ⟨by first | rfl | (simp [errW_none, errW_some] <;> rfl) | (simp [*, errW_none, errW_some] <;> rfl), by repeat (first | (with_reducible first | exact HB.out | apply below_alloc | apply pw_below_drewN | apply below_drew1 | refine below_set ?_ GE151.out | refine below_set ?_ GE152.out) | exact HB.out)⟩
      · replace c25 := Bool.eq_false_iff.mpr c25
        subst c25
        have H1 : (spec_SameTree.l0 kj2 (l0_3.length : Int) 0 a0_0 a0_1 a0_2 l0_3 l0_4 a1_0 a1_1 a1_2 l1_3 l1_4) = some r := by rw [if_neg (show ¬ (false = true) by decide)] at H; exact H
        clear H
        have H := H1
        clear H1
        have H' := Aside0.mk H
        clear H
        have hnb26 := NB151_152.out
        have hnc26 := NB152_151.out
        have hcz27_0 : wc.cell? ⟨gb151, 0, none⟩ = some (.int .i64 a0_0) := (blk_cell BK151.out 0).trans rfl
        have hcz27_1 : wc.cell? ⟨gb151, 1, none⟩ = some (.string a0_1) := (blk_cell BK151.out 1).trans rfl
        have hcz27_2 : wc.cell? ⟨gb151, 2, none⟩ = some (.string a0_2) := (blk_cell BK151.out 2).trans rfl
        have hcz27_3 : wc.cell? ⟨gb151, 3, none⟩ = some (.slice A0_3 l0_3.length c0_3) := (blk_cell BK151.out 3).trans rfl
        have hcz27_4 : wc.cell? ⟨gb151, 4, none⟩ = some (.slice A0_4 l0_4.length c0_4) := (blk_cell BK151.out 4).trans rfl
        have hfz27_0 := blk_frozen BK151.out 0
        have hfz27_1 := blk_frozen BK151.out 1
        have hfz27_2 := blk_frozen BK151.out 2
        have hfz27_3 := blk_frozen BK151.out 3
        have hfz27_4 := blk_frozen BK151.out 4
        go_wp2
        go_loopg [47] kj2 (fun kq v47 w' => ∃ (x47_2 : Int), v47 = .int .i64 x47_2 ∧ Aside0 (spec_SameTree.l0 kq (l0_3.length : Int) x47_2 a0_0 a0_1 a0_2 l0_3 l0_4 a1_0 a1_1 a1_2 l1_3 l1_4 = some r) ∧ Aside0 (kq ≤ kj2) ∧ Aside0 (w'.heap[gb151]? = some (.cells #[.int .i64 a0_0, .string a0_1, .string a0_2, (.slice A0_3 l0_3.length c0_3), (.slice A0_4 l0_4.length c0_4)] 25 (0, 0))) ∧ Aside0 (w'.heap[gb152]? = some (.cells #[.int .i64 a1_0, .string a1_1, .string a1_2, (.slice A1_3 l1_3.length c1_3), (.slice A1_4 l1_4.length c1_4)] 25 (0, 0))) ∧ Aside0 (Below w.heap.size w w'))
        case atStart => exact ⟨(0), (by first | rfl | (simp; done) | (simp [*]; done)), H', ⟨Nat.le_refl _⟩, ⟨by (with_reducible repeat (first | refine blk_drewN ?_ _ | refine blk_drew ?_ | refine blk_alloc ?_ _)); exact BK151.out⟩, ⟨by (with_reducible repeat (first | refine blk_drewN ?_ _ | refine blk_drew ?_ | refine blk_alloc ?_ _)); exact BK152.out⟩, ⟨by repeat (first | (with_reducible first | exact HB.out | apply below_alloc | apply pw_below_drewN | apply below_drew1 | refine below_set ?_ GE151.out | refine below_set ?_ GE152.out) | exact HB.out)⟩⟩
        case round =>
          clear H'
          try clear c1
          try clear c2
          try clear p2
          try clear c6
          try clear c6b0
          try clear c6b1
          try clear c7
          try clear c7b0
          try clear c7b1
          try clear c8
          try clear c8b0
          try clear c8b1
          try clear c9
          try clear c9b0
          try clear c9b1
          try clear c9b2
          try clear c10
          try clear c13
          try clear c14
          try clear c16
          try clear c19
          try clear c22
          try clear c25
          try clear c26
          try clear hcz11_0
          try clear hcz11_1
          try clear hcz11_2
          try clear hcz11_3
          try clear hcz11_4
          try clear hcz12_0
          try clear hcz12_1
          try clear hcz12_2
          try clear hcz12_3
          try clear hcz12_4
          try clear hcz14_0
          try clear hcz14_1
          try clear hcz14_2
          try clear hcz14_3
          try clear hcz14_4
          try clear hcz15_0
          try clear hcz15_1
          try clear hcz15_2
          try clear hcz15_3
          try clear hcz15_4
          try clear hcz17_0
          try clear hcz17_1
          try clear hcz17_2
          try clear hcz17_3
          try clear hcz17_4
          try clear hcz18_0
          try clear hcz18_1
          try clear hcz18_2
          try clear hcz18_3
          try clear hcz18_4
          try clear hcz20_0
          try clear hcz20_1
          try clear hcz20_2
          try clear hcz20_3
          try clear hcz20_4
          try clear hcz21_0
          try clear hcz21_1
          try clear hcz21_2
          try clear hcz21_3
          try clear hcz21_4
          try clear hcz23_0
          try clear hcz23_1
          try clear hcz23_2
          try clear hcz23_3
          try clear hcz23_4
          try clear hcz24_0
          try clear hcz24_1
          try clear hcz24_2
          try clear hcz24_3
          try clear hcz24_4
          try clear hcz27_0
          try clear hcz27_1
          try clear hcz27_2
          try clear hcz27_3
          try clear hcz27_4
          try clear hfz11_0
          try clear hfz11_1
          try clear hfz11_2
          try clear hfz11_3
          try clear hfz11_4
          try clear hfz12_0
          try clear hfz12_1
          try clear hfz12_2
          try clear hfz12_3
          try clear hfz12_4
          try clear hfz14_0
          try clear hfz14_1
          try clear hfz14_2
          try clear hfz14_3
          try clear hfz14_4
          try clear hfz15_0
          try clear hfz15_1
          try clear hfz15_2
          try clear hfz15_3
          try clear hfz15_4
          try clear hfz17_0
          try clear hfz17_1
          try clear hfz17_2
          try clear hfz17_3
          try clear hfz17_4
          try clear hfz18_0
          try clear hfz18_1
          try clear hfz18_2
          try clear hfz18_3
          try clear hfz18_4
          try clear hfz20_0
          try clear hfz20_1
          try clear hfz20_2
          try clear hfz20_3
          try clear hfz20_4
          try clear hfz21_0
          try clear hfz21_1
          try clear hfz21_2
          try clear hfz21_3
          try clear hfz21_4
          try clear hfz23_0
          try clear hfz23_1
          try clear hfz23_2
          try clear hfz23_3
          try clear hfz23_4
          try clear hfz24_0
          try clear hfz24_1
          try clear hfz24_2
          try clear hfz24_3
          try clear hfz24_4
          try clear hfz27_0
          try clear hfz27_1
          try clear hfz27_2
          try clear hfz27_3
          try clear hfz27_4
          try clear p2
          obtain ⟨x47_2, rfl, HA, HK2, BK151, BK152, HB⟩ := hrel
          cases gk with
          | zero => exact absurd HA.out (by simp [spec_SameTree.l0])
          | succ k2 =>
            have H := HA.out
            clear HA
            simp only [spec_SameTree.l0] at H
            by_cases c28 : x47_2 < (l0_3.length : Int)
            · rw [if_pos c28] at H
              have c28b0 : decide (x47_2 < (l0_3.length : Int)) = true := decide_eq_true c28
              clear c28
              by_cases c29 : 0 ≤ x47_2
              · rw [if_pos c29] at H
                have c29b0 : decide (0 ≤ x47_2) = true := decide_eq_true c29
                clear c29
                by_cases c30 : x47_2 < (l0_3.length : Int)
                · rw [if_pos c30] at H
                  have c30b0 : decide (x47_2 < (l0_3.length : Int)) = true := decide_eq_true c30
                  clear c30
                  by_cases c31 : x47_2 < (l1_3.length : Int)
                  · rw [if_pos c31] at H
                    have c31b0 : decide (x47_2 < (l1_3.length : Int)) = true := decide_eq_true c31
                    clear c31
                    by_cases c32 : (!((((rd_T53 l0_3 x47_2).f0).toList) == (((rd_T53 l1_3 x47_2).f0).toList)) || (!((((rd_T53 l0_3 x47_2).f1).toList) == (((rd_T53 l1_3 x47_2).f1).toList)))) = true
                    · rw [if_pos c32] at H
                      have c32b0 : (!((((rd_T53 l0_3 x47_2).f0).toList) == (((rd_T53 l1_3 x47_2).f0).toList)) || (!((((rd_T53 l0_3 x47_2).f1).toList) == (((rd_T53 l1_3 x47_2).f1).toList)))) = true := c32
                      clear c32
                      obtain rfl := Option.some.inj H
                      try go_wp2
                      have n0_ := Aside0.mk (blk_drew BK151.out)
                      have n1_ := Aside0.mk (blk_drew BK152.out)
                      have n2_ := Aside0.mk (below_drew1 HB.out)
                      clear BK151
                      clear BK152
                      clear HB
                      have BK151 := n0_
                      have BK152 := n1_
                      have HB := n2_
                      clear n0_ n1_ n2_
                      have p153 : 0 ≤ (x47_2 : Int) := of_decide_eq_true (by first | (with_reducible assumption) | assumption)
                      have q153 : x47_2 < (l0_3.length : Int) := of_decide_eq_true (by first | (with_reducible assumption) | assumption)
                      obtain ⟨ad153, e153, hx153_0, hx153_1⟩ := at_T53 HR0_3.out x47_2 p153 q153
                      have hw153_1 := hx153_1
                      have hw153_0 := hx153_0
                      cases e153
                      replace hx153_0 := (HB.out.cell (World.block_lt_of_cell? w _ hx153_0)).trans hx153_0
                      replace hx153_1 := (HB.out.cell (World.block_lt_of_cell? w _ hx153_1)).trans hx153_1
                      replace p153 := eq_true p153
                      replace q153 := eq_true q153
                      have p154 : 0 ≤ (x47_2 : Int) := of_decide_eq_true (by first | (with_reducible assumption) | assumption)
                      have q154 : x47_2 < (l1_3.length : Int) := of_decide_eq_true (by first | (with_reducible assumption) | assumption)
                      obtain ⟨ad154, e154, hx154_0, hx154_1⟩ := at_T53 HR1_3.out x47_2 p154 q154
                      have hw154_1 := hx154_1
                      have hw154_0 := hx154_0
                      cases e154
                      replace hx154_0 := (HB.out.cell (World.block_lt_of_cell? w _ hx154_0)).trans hx154_0
                      replace hx154_1 := (HB.out.cell (World.block_lt_of_cell? w _ hx154_1)).trans hx154_1
                      replace p154 := eq_true p154
                      replace q154 := eq_true q154
                      refine start_ (n := 11) (S := fun w' => w'.cell? ⟨gb151, 0, none⟩ = some (.int .i64 a0_0) ∧ w'.cell? ⟨gb151, 1, none⟩ = some (.string a0_1) ∧ w'.cell? ⟨gb151, 2, none⟩ = some (.string a0_2) ∧ w'.cell? ⟨gb151, 3, none⟩ = some (.slice (some ad153) l0_3.length c0_3) ∧ w'.cell? ⟨gb151, 4, none⟩ = some (.slice A0_4 l0_4.length c0_4) ∧ w'.cell? ⟨gb152, 0, none⟩ = some (.int .i64 a1_0) ∧ w'.cell? ⟨gb152, 1, none⟩ = some (.string a1_1) ∧ w'.cell? ⟨gb152, 2, none⟩ = some (.string a1_2) ∧ w'.cell? ⟨gb152, 3, none⟩ = some (.slice (some ad154) l1_3.length c1_3) ∧ w'.cell? ⟨gb152, 4, none⟩ = some (.slice A1_4 l1_4.length c1_4) ∧ w'.cell? (ad153.add ((x47_2).toNat * 2)) = some (.string ((rd_T53 l0_3 x47_2).f0)) ∧ w'.cell? ⟨(ad153.add ((x47_2).toNat * 2)).block, (ad153.add ((x47_2).toNat * 2)).off + 1, none⟩ = some (.string ((rd_T53 l0_3 x47_2).f1)) ∧ w'.cell? (ad154.add ((x47_2).toNat * 2)) = some (.string ((rd_T53 l1_3 x47_2).f0)) ∧ w'.cell? ⟨(ad154.add ((x47_2).toNat * 2)).block, (ad154.add ((x47_2).toNat * 2)).off + 1, none⟩ = some (.string ((rd_T53 l1_3 x47_2).f1))) (ds := []) #[false, false, false, false, false, false, false, false, false, false, false] (by kernel_rfl) rfl rfl ⟨(blk_cell BK151.out 0).trans rfl, (blk_cell BK151.out 1).trans rfl, (blk_cell BK151.out 2).trans rfl, (blk_cell BK151.out 3).trans rfl, (blk_cell BK151.out 4).trans rfl, (blk_cell BK152.out 0).trans rfl, (blk_cell BK152.out 1).trans rfl, (blk_cell BK152.out 2).trans rfl, (blk_cell BK152.out 3).trans rfl, (blk_cell BK152.out 4).trans rfl, ((HB.out.cell (World.block_lt_of_cell? w _ hw153_0)).trans hw153_0), ((HB.out.cell (World.block_lt_of_cell? w _ hw153_1)).trans hw153_1), ((HB.out.cell (World.block_lt_of_cell? w _ hw154_0)).trans hw154_0), ((HB.out.cell (World.block_lt_of_cell? w _ hw154_1)).trans hw154_1)⟩ (fun hHeld => ?_); refine with_tabW spec_SameTree.tab6 spec_SameTree.bits6 (fun HT_ HW_ => ?_)
                      generalize wr.drew = w33 at BK151 BK152 HB hx153_0 hx153_1 hx154_0 hx154_1 hHeld ⊢
                      refine pure_ (i := 0) (N := some 50) (v := ?_) (a' := ?_) #[true, false, false, false, false, false, false, false, false, false, false] rfl rfl (any_of HT_.out (by kernel_rfl)) (fun _ _ _ h => h) (Or.inl ⟨by rfl, ?_⟩) ?_ ?_
                      rotate_left
                      · intro w'
                        go_simp
                        with_reducible rfl
                      rotate_left
                      · simp only [Act.put, List.setIfInBounds_toArray, List.set_cons_zero, List.set_cons_succ, i64_w, i32_w]
                        rfl
                      refine pure_ (i := 2) (N := some 52) (v := ?_) (a' := ?_) #[true, false, true, false, false, false, false, false, false, false, false] rfl rfl (any_of HT_.out (by kernel_rfl)) (fun _ _ _ h => h) (Or.inl ⟨by rfl, ?_⟩) ?_ ?_
                      rotate_left
                      · intro w'
                        go_simp
                        with_reducible rfl
                      rotate_left
                      · simp only [Act.put, List.setIfInBounds_toArray, List.set_cons_zero, List.set_cons_succ, i64_w, i32_w]
                        rfl
                      refine pure_ (i := 5) (N := some 55) (v := ?_) (a' := ?_) #[true, false, true, false, false, true, false, false, false, false, false] rfl rfl (any_of HT_.out (by kernel_rfl)) (fun _ _ _ h => h) (Or.inl ⟨by rfl, ?_⟩) ?_ ?_
                      rotate_left
                      · intro w'
                        go_simp
                        with_reducible rfl
                      rotate_left
                      · simp only [Act.put, List.setIfInBounds_toArray, List.set_cons_zero, List.set_cons_succ, i64_w, i32_w]
                        rfl
                      refine pure_ (i := 7) (N := some 57) (v := ?_) (a' := ?_) #[true, false, true, false, false, true, false, true, false, false, false] rfl rfl (any_of HT_.out (by kernel_rfl)) (fun _ _ _ h => h) (Or.inl ⟨by rfl, ?_⟩) ?_ ?_
                      rotate_left
                      · intro w'
                        go_simp
                        with_reducible rfl
                      rotate_left
                      · simp only [Act.put, List.setIfInBounds_toArray, List.set_cons_zero, List.set_cons_succ, i64_w, i32_w]
                        rfl
                      refine take_ (i := 1) (N := some 51) (v := ?_) (a' := ?_) #[true, true, true, false, false, true, false, true, false, false, false] rfl rfl (take_ofW HT_.out HW_.out (by kernel_rfl)) (fun _ _ _ h => h) (Or.inl ⟨by rfl, ?_⟩) hHeld ?_ ?_
                      rotate_left
                      · rintro w' ⟨s0, s1, s2, s3, s4, s5, s6, s7, s8, s9, s10, s11, s12, s13⟩
                        go_simp
                        with_reducible rfl
                      rotate_left
                      · simp only [Act.put, List.setIfInBounds_toArray, List.set_cons_zero, List.set_cons_succ, i64_w, i32_w]
                        rfl
                      refine pure_ (i := 3) (N := some 53) (v := ?_) (a' := ?_) #[true, true, true, true, false, true, false, true, false, false, false] rfl rfl (any_of HT_.out (by kernel_rfl)) (fun _ _ _ h => h) (Or.inl ⟨by rfl, ?_⟩) ?_ ?_
                      rotate_left
                      · intro w'
                        go_simp
                        with_reducible rfl
                      rotate_left
                      · simp only [Act.put, List.setIfInBounds_toArray, List.set_cons_zero, List.set_cons_succ, i64_w, i32_w]
                        rfl
                      refine take_ (i := 4) (N := some 54) (v := ?_) (a' := ?_) #[true, true, true, true, true, true, false, true, false, false, false] rfl rfl (take_ofW HT_.out HW_.out (by kernel_rfl)) (fun _ _ _ h => h) (Or.inl ⟨by rfl, ?_⟩) hHeld ?_ ?_
                      rotate_left
                      · rintro w' ⟨s0, s1, s2, s3, s4, s5, s6, s7, s8, s9, s10, s11, s12, s13⟩
                        go_simp
                        with_reducible rfl
                      rotate_left
                      · simp only [Act.put, List.setIfInBounds_toArray, List.set_cons_zero, List.set_cons_succ, i64_w, i32_w]
                        rfl
                      refine take_ (i := 6) (N := some 56) (v := ?_) (a' := ?_) #[true, true, true, true, true, true, true, true, false, false, false] rfl rfl (take_ofW HT_.out HW_.out (by kernel_rfl)) (fun _ _ _ h => h) (Or.inl ⟨by rfl, ?_⟩) hHeld ?_ ?_
                      rotate_left
                      · rintro w' ⟨s0, s1, s2, s3, s4, s5, s6, s7, s8, s9, s10, s11, s12, s13⟩
                        go_simp
                        with_reducible rfl
                      rotate_left
                      · simp only [Act.put, List.setIfInBounds_toArray, List.set_cons_zero, List.set_cons_succ, i64_w, i32_w]
                        rfl
                      refine pure_ (i := 8) (N := some 58) (v := ?_) (a' := ?_) #[true, true, true, true, true, true, true, true, true, false, false] rfl rfl (any_of HT_.out (by kernel_rfl)) (fun _ _ _ h => h) (Or.inl ⟨by rfl, ?_⟩) ?_ ?_
                      rotate_left
                      · intro w'
                        go_simp
                        with_reducible rfl
                      rotate_left
                      · simp only [Act.put, List.setIfInBounds_toArray, List.set_cons_zero, List.set_cons_succ, i64_w, i32_w]
                        rfl
                      refine take_ (i := 9) (N := some 59) (v := ?_) (a' := ?_) #[true, true, true, true, true, true, true, true, true, true, false] rfl rfl (take_ofW HT_.out HW_.out (by kernel_rfl)) (fun _ _ _ h => h) (Or.inl ⟨by rfl, ?_⟩) hHeld ?_ ?_
                      rotate_left
                      · rintro w' ⟨s0, s1, s2, s3, s4, s5, s6, s7, s8, s9, s10, s11, s12, s13⟩
                        go_simp
                        with_reducible rfl
                      rotate_left
                      · simp only [Act.put, List.setIfInBounds_toArray, List.set_cons_zero, List.set_cons_succ, i64_w, i32_w]
                        rfl
                      refine pure_ (i := 10) (N := some 60) (v := ?_) (a' := ?_) #[true, true, true, true, true, true, true, true, true, true, true] rfl rfl (any_of HT_.out (by kernel_rfl)) (fun _ _ _ h => h) (Or.inl ⟨by rfl, ?_⟩) ?_ ?_
                      rotate_left
                      · intro w'
                        go_simp
                        with_reducible rfl
                      rotate_left
                      · simp only [Act.put, List.setIfInBounds_toArray, List.set_cons_zero, List.set_cons_succ, i64_w, i32_w]
                        rfl
                      refine done_ (done_of HT_.out (by kernel_rfl)) ?_
                      try go_wp2
                      go_ret
                      exact ⟨by first | rfl | (simp [errW_none, errW_some] <;> rfl) | (simp [*, errW_none, errW_some] <;> rfl), by repeat (first | (with_reducible first | exact HB.out | apply below_alloc | apply pw_below_drewN | apply below_drew1 | refine below_set ?_ GE151.out | refine below_set ?_ GE152.out) | exact HB.out)⟩
                    · rw [if_neg c32] at H
                      have c32b0 : (!((((rd_T53 l0_3 x47_2).f0).toList) == (((rd_T53 l1_3 x47_2).f0).toList)) || (!((((rd_T53 l0_3 x47_2).f1).toList) == (((rd_T53 l1_3 x47_2).f1).toList)))) = false := by simpa using c32
                      clear c32
                      have H' := Aside0.mk H
                      clear H
                      try go_wp2
                      have n0_ := Aside0.mk (blk_drew BK151.out)
                      have n1_ := Aside0.mk (blk_drew BK152.out)
                      have n2_ := Aside0.mk (below_drew1 HB.out)
                      clear BK151
                      clear BK152
                      clear HB
                      have BK151 := n0_
                      have BK152 := n1_
                      have HB := n2_
                      clear n0_ n1_ n2_
                      have p153 : 0 ≤ (x47_2 : Int) := of_decide_eq_true (by first | (with_reducible assumption) | assumption)
                      have q153 : x47_2 < (l0_3.length : Int) := of_decide_eq_true (by first | (with_reducible assumption) | assumption)
                      obtain ⟨ad153, e153, hx153_0, hx153_1⟩ := at_T53 HR0_3.out x47_2 p153 q153
                      have hw153_1 := hx153_1
                      have hw153_0 := hx153_0
                      cases e153
                      replace hx153_0 := (HB.out.cell (World.block_lt_of_cell? w _ hx153_0)).trans hx153_0
                      replace hx153_1 := (HB.out.cell (World.block_lt_of_cell? w _ hx153_1)).trans hx153_1
                      replace p153 := eq_true p153
                      replace q153 := eq_true q153
                      have p154 : 0 ≤ (x47_2 : Int) := of_decide_eq_true (by first | (with_reducible assumption) | assumption)
                      have q154 : x47_2 < (l1_3.length : Int) := of_decide_eq_true (by first | (with_reducible assumption) | assumption)
                      obtain ⟨ad154, e154, hx154_0, hx154_1⟩ := at_T53 HR1_3.out x47_2 p154 q154
                      have hw154_1 := hx154_1
                      have hw154_0 := hx154_0
                      cases e154
                      replace hx154_0 := (HB.out.cell (World.block_lt_of_cell? w _ hx154_0)).trans hx154_0
                      replace hx154_1 := (HB.out.cell (World.block_lt_of_cell? w _ hx154_1)).trans hx154_1
                      replace p154 := eq_true p154
                      replace q154 := eq_true q154
                      refine start_ (n := 11) (S := fun w' => w'.cell? ⟨gb151, 0, none⟩ = some (.int .i64 a0_0) ∧ w'.cell? ⟨gb151, 1, none⟩ = some (.string a0_1) ∧ w'.cell? ⟨gb151, 2, none⟩ = some (.string a0_2) ∧ w'.cell? ⟨gb151, 3, none⟩ = some (.slice (some ad153) l0_3.length c0_3) ∧ w'.cell? ⟨gb151, 4, none⟩ = some (.slice A0_4 l0_4.length c0_4) ∧ w'.cell? ⟨gb152, 0, none⟩ = some (.int .i64 a1_0) ∧ w'.cell? ⟨gb152, 1, none⟩ = some (.string a1_1) ∧ w'.cell? ⟨gb152, 2, none⟩ = some (.string a1_2) ∧ w'.cell? ⟨gb152, 3, none⟩ = some (.slice (some ad154) l1_3.length c1_3) ∧ w'.cell? ⟨gb152, 4, none⟩ = some (.slice A1_4 l1_4.length c1_4) ∧ w'.cell? (ad153.add ((x47_2).toNat * 2)) = some (.string ((rd_T53 l0_3 x47_2).f0)) ∧ w'.cell? ⟨(ad153.add ((x47_2).toNat * 2)).block, (ad153.add ((x47_2).toNat * 2)).off + 1, none⟩ = some (.string ((rd_T53 l0_3 x47_2).f1)) ∧ w'.cell? (ad154.add ((x47_2).toNat * 2)) = some (.string ((rd_T53 l1_3 x47_2).f0)) ∧ w'.cell? ⟨(ad154.add ((x47_2).toNat * 2)).block, (ad154.add ((x47_2).toNat * 2)).off + 1, none⟩ = some (.string ((rd_T53 l1_3 x47_2).f1))) (ds := []) #[false, false, false, false, false, false, false, false, false, false, false] (by kernel_rfl) rfl rfl ⟨(blk_cell BK151.out 0).trans rfl, (blk_cell BK151.out 1).trans rfl, (blk_cell BK151.out 2).trans rfl, (blk_cell BK151.out 3).trans rfl, (blk_cell BK151.out 4).trans rfl, (blk_cell BK152.out 0).trans rfl, (blk_cell BK152.out 1).trans rfl, (blk_cell BK152.out 2).trans rfl, (blk_cell BK152.out 3).trans rfl, (blk_cell BK152.out 4).trans rfl, ((HB.out.cell (World.block_lt_of_cell? w _ hw153_0)).trans hw153_0), ((HB.out.cell (World.block_lt_of_cell? w _ hw153_1)).trans hw153_1), ((HB.out.cell (World.block_lt_of_cell? w _ hw154_0)).trans hw154_0), ((HB.out.cell (World.block_lt_of_cell? w _ hw154_1)).trans hw154_1)⟩ (fun hHeld => ?_); refine with_tabW spec_SameTree.tab6 spec_SameTree.bits6 (fun HT_ HW_ => ?_)
                      generalize wr.drew = w34 at BK151 BK152 HB hx153_0 hx153_1 hx154_0 hx154_1 hHeld ⊢
                      refine pure_ (i := 0) (N := some 50) (v := ?_) (a' := ?_) #[true, false, false, false, false, false, false, false, false, false, false] rfl rfl (any_of HT_.out (by kernel_rfl)) (fun _ _ _ h => h) (Or.inl ⟨by rfl, ?_⟩) ?_ ?_
                      rotate_left
                      · intro w'
                        go_simp
                        with_reducible rfl
                      rotate_left
                      · simp only [Act.put, List.setIfInBounds_toArray, List.set_cons_zero, List.set_cons_succ, i64_w, i32_w]
                        rfl
                      refine pure_ (i := 2) (N := some 52) (v := ?_) (a' := ?_) #[true, false, true, false, false, false, false, false, false, false, false] rfl rfl (any_of HT_.out (by kernel_rfl)) (fun _ _ _ h => h) (Or.inl ⟨by rfl, ?_⟩) ?_ ?_
                      rotate_left
                      · intro w'
                        go_simp
                        with_reducible rfl
                      rotate_left
                      · simp only [Act.put, List.setIfInBounds_toArray, List.set_cons_zero, List.set_cons_succ, i64_w, i32_w]
                        rfl
                      refine pure_ (i := 5) (N := some 55) (v := ?_) (a' := ?_) #[true, false, true, false, false, true, false, false, false, false, false] rfl rfl (any_of HT_.out (by kernel_rfl)) (fun _ _ _ h => h) (Or.inl ⟨by rfl, ?_⟩) ?_ ?_
                      rotate_left
                      · intro w'
                        go_simp
                        with_reducible rfl
                      rotate_left
                      · simp only [Act.put, List.setIfInBounds_toArray, List.set_cons_zero, List.set_cons_succ, i64_w, i32_w]
                        rfl
                      refine pure_ (i := 7) (N := some 57) (v := ?_) (a' := ?_) #[true, false, true, false, false, true, false, true, false, false, false] rfl rfl (any_of HT_.out (by kernel_rfl)) (fun _ _ _ h => h) (Or.inl ⟨by rfl, ?_⟩) ?_ ?_
                      rotate_left
                      · intro w'
                        go_simp
                        with_reducible rfl
                      rotate_left
                      · simp only [Act.put, List.setIfInBounds_toArray, List.set_cons_zero, List.set_cons_succ, i64_w, i32_w]
                        rfl
                      refine take_ (i := 1) (N := some 51) (v := ?_) (a' := ?_) #[true, true, true, false, false, true, false, true, false, false, false] rfl rfl (take_ofW HT_.out HW_.out (by kernel_rfl)) (fun _ _ _ h => h) (Or.inl ⟨by rfl, ?_⟩) hHeld ?_ ?_
                      rotate_left
                      · rintro w' ⟨s0, s1, s2, s3, s4, s5, s6, s7, s8, s9, s10, s11, s12, s13⟩
                        go_simp
                        with_reducible rfl
                      rotate_left
                      · simp only [Act.put, List.setIfInBounds_toArray, List.set_cons_zero, List.set_cons_succ, i64_w, i32_w]
                        rfl
                      refine pure_ (i := 3) (N := some 53) (v := ?_) (a' := ?_) #[true, true, true, true, false, true, false, true, false, false, false] rfl rfl (any_of HT_.out (by kernel_rfl)) (fun _ _ _ h => h) (Or.inl ⟨by rfl, ?_⟩) ?_ ?_
                      rotate_left
                      · intro w'
                        go_simp
                        with_reducible rfl
                      rotate_left
                      · simp only [Act.put, List.setIfInBounds_toArray, List.set_cons_zero, List.set_cons_succ, i64_w, i32_w]
                        rfl
                      refine take_ (i := 4) (N := some 54) (v := ?_) (a' := ?_) #[true, true, true, true, true, true, false, true, false, false, false] rfl rfl (take_ofW HT_.out HW_.out (by kernel_rfl)) (fun _ _ _ h => h) (Or.inl ⟨by rfl, ?_⟩) hHeld ?_ ?_
                      rotate_left
                      · rintro w' ⟨s0, s1, s2, s3, s4, s5, s6, s7, s8, s9, s10, s11, s12, s13⟩
                        go_simp
                        with_reducible rfl
                      rotate_left
                      · simp only [Act.put, List.setIfInBounds_toArray, List.set_cons_zero, List.set_cons_succ, i64_w, i32_w]
                        rfl
                      refine take_ (i := 6) (N := some 56) (v := ?_) (a' := ?_) #[true, true, true, true, true, true, true, true, false, false, false] rfl rfl (take_ofW HT_.out HW_.out (by kernel_rfl)) (fun _ _ _ h => h) (Or.inl ⟨by rfl, ?_⟩) hHeld ?_ ?_
                      rotate_left
                      · rintro w' ⟨s0, s1, s2, s3, s4, s5, s6, s7, s8, s9, s10, s11, s12, s13⟩
                        go_simp
                        with_reducible rfl
                      rotate_left
                      · simp only [Act.put, List.setIfInBounds_toArray, List.set_cons_zero, List.set_cons_succ, i64_w, i32_w]
                        rfl
                      refine pure_ (i := 8) (N := some 58) (v := ?_) (a' := ?_) #[true, true, true, true, true, true, true, true, true, false, false] rfl rfl (any_of HT_.out (by kernel_rfl)) (fun _ _ _ h => h) (Or.inl ⟨by rfl, ?_⟩) ?_ ?_
                      rotate_left
                      · intro w'
                        go_simp
                        with_reducible rfl
                      rotate_left
                      · simp only [Act.put, List.setIfInBounds_toArray, List.set_cons_zero, List.set_cons_succ, i64_w, i32_w]
                        rfl
                      refine take_ (i := 9) (N := some 59) (v := ?_) (a' := ?_) #[true, true, true, true, true, true, true, true, true, true, false] rfl rfl (take_ofW HT_.out HW_.out (by kernel_rfl)) (fun _ _ _ h => h) (Or.inl ⟨by rfl, ?_⟩) hHeld ?_ ?_
                      rotate_left
                      · rintro w' ⟨s0, s1, s2, s3, s4, s5, s6, s7, s8, s9, s10, s11, s12, s13⟩
                        go_simp
                        with_reducible rfl
                      rotate_left
                      · simp only [Act.put, List.setIfInBounds_toArray, List.set_cons_zero, List.set_cons_succ, i64_w, i32_w]
                        rfl
                      refine pure_ (i := 10) (N := some 60) (v := ?_) (a' := ?_) #[true, true, true, true, true, true, true, true, true, true, true] rfl rfl (any_of HT_.out (by kernel_rfl)) (fun _ _ _ h => h) (Or.inl ⟨by rfl, ?_⟩) ?_ ?_
                      rotate_left
                      · intro w'
                        go_simp
                        with_reducible rfl
                      rotate_left
                      · simp only [Act.put, List.setIfInBounds_toArray, List.set_cons_zero, List.set_cons_succ, i64_w, i32_w]
                        rfl
                      refine done_ (done_of HT_.out (by kernel_rfl)) ?_
                      try go_wp2
                      go_roundg k2
                      case measure => have := HJ2.out; have := HK2.out; omega
                      case rel => exact ⟨(wrap64 (x47_2 + 1)), (by first | rfl | (simp; done) | (simp [*]; done)), H', ⟨by have := HJ2.out; have := HK2.out; omega⟩, ⟨by (with_reducible repeat (first | refine blk_drewN ?_ _ | refine blk_drew ?_ | refine blk_alloc ?_ _)); exact BK151.out⟩, ⟨by (with_reducible repeat (first | refine blk_drewN ?_ _ | refine blk_drew ?_ | refine blk_alloc ?_ _)); exact BK152.out⟩, ⟨by repeat (first | (with_reducible first | exact HB.out | apply below_alloc | apply pw_below_drewN | apply below_drew1 | refine below_set ?_ GE151.out | refine below_set ?_ GE152.out) | exact HB.out)⟩⟩
                  · rw [if_neg c31] at H
                    exact absurd H (by simp)
                · rw [if_neg c30] at H
                  exact absurd H (by simp)
              · rw [if_neg c29] at H
                exact absurd H (by simp)
            · rw [if_neg c28] at H
              have c28b0 : decide (x47_2 < (l0_3.length : Int)) = false := decide_eq_false c28
              clear c28
              have H' := Aside0.mk H
              clear H
              have hnb35 := NB151_152.out
              have hnc35 := NB152_151.out
              have hcz36_0 : wr.cell? ⟨gb151, 0, none⟩ = some (.int .i64 a0_0) := (blk_cell BK151.out 0).trans rfl
              have hcz36_1 : wr.cell? ⟨gb151, 1, none⟩ = some (.string a0_1) := (blk_cell BK151.out 1).trans rfl
              have hcz36_2 : wr.cell? ⟨gb151, 2, none⟩ = some (.string a0_2) := (blk_cell BK151.out 2).trans rfl
              have hcz36_3 : wr.cell? ⟨gb151, 3, none⟩ = some (.slice A0_3 l0_3.length c0_3) := (blk_cell BK151.out 3).trans rfl
              have hcz36_4 : wr.cell? ⟨gb151, 4, none⟩ = some (.slice A0_4 l0_4.length c0_4) := (blk_cell BK151.out 4).trans rfl
              have hfz36_0 := blk_frozen BK151.out 0
              have hfz36_1 := blk_frozen BK151.out 1
              have hfz36_2 := blk_frozen BK151.out 2
              have hfz36_3 := blk_frozen BK151.out 3
              have hfz36_4 := blk_frozen BK151.out 4
              go_wp2
              go_loopg [65] k2 (fun kq v65 w' => ∃ (x65_3 : Int), v65 = .int .i64 x65_3 ∧ Aside0 (spec_SameTree.l1 kq (l0_4.length : Int) x65_3 a0_0 a0_1 a0_2 l0_3 l0_4 a1_0 a1_1 a1_2 l1_3 l1_4 = some r) ∧ Aside0 (kq ≤ k2) ∧ Aside0 (w'.heap[gb151]? = some (.cells #[.int .i64 a0_0, .string a0_1, .string a0_2, (.slice A0_3 l0_3.length c0_3), (.slice A0_4 l0_4.length c0_4)] 25 (0, 0))) ∧ Aside0 (w'.heap[gb152]? = some (.cells #[.int .i64 a1_0, .string a1_1, .string a1_2, (.slice A1_3 l1_3.length c1_3), (.slice A1_4 l1_4.length c1_4)] 25 (0, 0))) ∧ Aside0 (Below w.heap.size w w'))
              case atStart => exact ⟨(0), (by first | rfl | (simp; done) | (simp [*]; done)), H', ⟨Nat.le_refl _⟩, ⟨by (with_reducible repeat (first | refine blk_drewN ?_ _ | refine blk_drew ?_ | refine blk_alloc ?_ _)); exact BK151.out⟩, ⟨by (with_reducible repeat (first | refine blk_drewN ?_ _ | refine blk_drew ?_ | refine blk_alloc ?_ _)); exact BK152.out⟩, ⟨by repeat (first | (with_reducible first | exact HB.out | apply below_alloc | apply pw_below_drewN | apply below_drew1 | refine below_set ?_ GE151.out | refine below_set ?_ GE152.out) | exact HB.out)⟩⟩
              case round =>
                clear H'
                try clear c1
                try clear p1
                try clear q1
                try clear hx1
                try clear c2
                try clear p2
                try clear c3
                try clear c6
                try clear c6b0
                try clear c6b1
                try clear p6
                try clear c7
                try clear c7b0
                try clear c7b1
                try clear c8
                try clear c8b0
                try clear c8b1
                try clear c9
                try clear c9b0
                try clear c9b1
                try clear c9b2
                try clear c10
                try clear c13
                try clear c14
                try clear p15
                try clear q15
                try clear hx15
                try clear c16
                try clear c19
                try clear c22
                try clear c25
                try clear c26
                try clear c28
                try clear c28b0
                try clear c29
                try clear c29b0
                try clear c30
                try clear c30b0
                try clear c31
                try clear c31b0
                try clear c32
                try clear c32b0
                try clear c35
                try clear hcz11_0
                try clear hcz11_1
                try clear hcz11_2
                try clear hcz11_3
                try clear hcz11_4
                try clear hcz12_0
                try clear hcz12_1
                try clear hcz12_2
                try clear hcz12_3
                try clear hcz12_4
                try clear hcz14_0
                try clear hcz14_1
                try clear hcz14_2
                try clear hcz14_3
                try clear hcz14_4
                try clear hcz15_0
                try clear hcz15_1
                try clear hcz15_2
                try clear hcz15_3
                try clear hcz15_4
                try clear hcz17_0
                try clear hcz17_1
                try clear hcz17_2
                try clear hcz17_3
                try clear hcz17_4
                try clear hcz18_0
                try clear hcz18_1
                try clear hcz18_2
                try clear hcz18_3
                try clear hcz18_4
                try clear hcz20_0
                try clear hcz20_1
                try clear hcz20_2
                try clear hcz20_3
                try clear hcz20_4
                try clear hcz21_0
                try clear hcz21_1
                try clear hcz21_2
                try clear hcz21_3
                try clear hcz21_4
                try clear hcz23_0
                try clear hcz23_1
                try clear hcz23_2
                try clear hcz23_3
                try clear hcz23_4
                try clear hcz24_0
                try clear hcz24_1
                try clear hcz24_2
                try clear hcz24_3
                try clear hcz24_4
                try clear hcz27_0
                try clear hcz27_1
                try clear hcz27_2
                try clear hcz27_3
                try clear hcz27_4
                try clear hcz36_0
                try clear hcz36_1
                try clear hcz36_2
                try clear hcz36_3
                try clear hcz36_4
                try clear hfz11_0
                try clear hfz11_1
                try clear hfz11_2
                try clear hfz11_3
                try clear hfz11_4
                try clear hfz12_0
                try clear hfz12_1
                try clear hfz12_2
                try clear hfz12_3
                try clear hfz12_4
                try clear hfz14_0
                try clear hfz14_1
                try clear hfz14_2
                try clear hfz14_3
                try clear hfz14_4
                try clear hfz15_0
                try clear hfz15_1
                try clear hfz15_2
                try clear hfz15_3
                try clear hfz15_4
                try clear hfz17_0
                try clear hfz17_1
                try clear hfz17_2
                try clear hfz17_3
                try clear hfz17_4
                try clear hfz18_0
                try clear hfz18_1
                try clear hfz18_2
                try clear hfz18_3
                try clear hfz18_4
                try clear hfz20_0
                try clear hfz20_1
                try clear hfz20_2
                try clear hfz20_3
                try clear hfz20_4
                try clear hfz21_0
                try clear hfz21_1
                try clear hfz21_2
                try clear hfz21_3
                try clear hfz21_4
                try clear hfz23_0
                try clear hfz23_1
                try clear hfz23_2
                try clear hfz23_3
                try clear hfz23_4
                try clear hfz24_0
                try clear hfz24_1
                try clear hfz24_2
                try clear hfz24_3
                try clear hfz24_4
                try clear hfz27_0
                try clear hfz27_1
                try clear hfz27_2
                try clear hfz27_3
                try clear hfz27_4
                try clear hfz36_0
                try clear hfz36_1
                try clear hfz36_2
                try clear hfz36_3
                try clear hfz36_4
                try clear hx153_0
                try clear hx153_1
                try clear hx154_0
                try clear hx154_1
                try clear p153
                try clear p154
                try clear p2
                try clear q153
                try clear q154
                obtain ⟨x65_3, rfl, HA, HK3, BK151, BK152, HB⟩ := hrel
                cases gk with
                | zero => exact absurd HA.out (by simp [spec_SameTree.l1])
                | succ k3 =>
                  have H := HA.out
                  clear HA
                  simp only [spec_SameTree.l1] at H
                  by_cases c37 : x65_3 < (l0_4.length : Int)
                  · rw [if_pos c37] at H
                    have c37b0 : decide (x65_3 < (l0_4.length : Int)) = true := decide_eq_true c37
                    clear c37
                    by_cases c38 : 0 ≤ x65_3
                    · rw [if_pos c38] at H
                      have c38b0 : decide (0 ≤ x65_3) = true := decide_eq_true c38
                      clear c38
                      by_cases c39 : x65_3 < (l0_4.length : Int)
                      · rw [if_pos c39] at H
                        have c39b0 : decide (x65_3 < (l0_4.length : Int)) = true := decide_eq_true c39
                        clear c39
                        by_cases c40 : x65_3 < (l1_4.length : Int)
                        · rw [if_pos c40] at H
                          have c40b0 : decide (x65_3 < (l1_4.length : Int)) = true := decide_eq_true c40
                          clear c40
                          replace H := Option.bind_eq_some_iff.mp H
                          obtain ⟨t157, A410, H⟩ := H
                          replace H : (if t157 = true then (spec_SameTree.l1 k3 (l0_4.length : Int) (wrap64 (x65_3 + 1)) a0_0 a0_1 a0_2 l0_3 l0_4 a1_0 a1_1 a1_2 l1_3 l1_4) else (some false)) = some r := H
                          have A41 := Aside0.mk A410
                          clear A410
                          by_cases c42 : t157 = true
                          · subst c42
                            have H1 : (spec_SameTree.l1 k3 (l0_4.length : Int) (wrap64 (x65_3 + 1)) a0_0 a0_1 a0_2 l0_3 l0_4 a1_0 a1_1 a1_2 l1_3 l1_4) = some r := by rw [if_pos rfl] at H; exact H
                            clear H
                            have H := H1
                            clear H1
                            have H' := Aside0.mk H
                            clear H
                            try go_wp2
                            have n0_ := Aside0.mk (blk_drew BK151.out)
                            have n1_ := Aside0.mk (blk_drew BK152.out)
                            have n2_ := Aside0.mk (below_drew1 HB.out)
                            clear BK151
                            clear BK152
                            clear HB
                            have BK151 := n0_
                            have BK152 := n1_
                            have HB := n2_
                            clear n0_ n1_ n2_
                            have p155 : 0 ≤ (x65_3 : Int) := of_decide_eq_true (by first | (with_reducible assumption) | assumption)
                            have q155 : x65_3 < (l0_4.length : Int) := of_decide_eq_true (by first | (with_reducible assumption) | assumption)
                            obtain ⟨ad155, A155_3, c155_3, A155_4, c155_4, e155, hx155_0, hx155_1, hx155_2, hx155_3, hx155_4, hl155_3, hi155_3, hl155_4, hi155_4⟩ := at_T25 HR0_4.out x65_3 p155 q155
                            have hw155_4 := hx155_4
                            have hw155_3 := hx155_3
                            have hw155_2 := hx155_2
                            have hw155_1 := hx155_1
                            have hw155_0 := hx155_0
                            cases e155
                            replace hx155_0 := (HB.out.cell (World.block_lt_of_cell? w _ hx155_0)).trans hx155_0
                            replace hx155_1 := (HB.out.cell (World.block_lt_of_cell? w _ hx155_1)).trans hx155_1
                            replace hx155_2 := (HB.out.cell (World.block_lt_of_cell? w _ hx155_2)).trans hx155_2
                            replace hx155_3 := (HB.out.cell (World.block_lt_of_cell? w _ hx155_3)).trans hx155_3
                            replace hx155_4 := (HB.out.cell (World.block_lt_of_cell? w _ hx155_4)).trans hx155_4
                            have HR155_3 := Aside0.mk hi155_3
                            have HC155_3 := Aside0.mk hl155_3
                            clear hi155_3 hl155_3
                            have HR155_4 := Aside0.mk hi155_4
                            have HC155_4 := Aside0.mk hl155_4
                            clear hi155_4 hl155_4
                            replace p155 := eq_true p155
                            replace q155 := eq_true q155
                            have p156 : 0 ≤ (x65_3 : Int) := of_decide_eq_true (by first | (with_reducible assumption) | assumption)
                            have q156 : x65_3 < (l1_4.length : Int) := of_decide_eq_true (by first | (with_reducible assumption) | assumption)
                            obtain ⟨ad156, A156_3, c156_3, A156_4, c156_4, e156, hx156_0, hx156_1, hx156_2, hx156_3, hx156_4, hl156_3, hi156_3, hl156_4, hi156_4⟩ := at_T25 HR1_4.out x65_3 p156 q156
                            have hw156_4 := hx156_4
                            have hw156_3 := hx156_3
                            have hw156_2 := hx156_2
                            have hw156_1 := hx156_1
                            have hw156_0 := hx156_0
                            cases e156
                            replace hx156_0 := (HB.out.cell (World.block_lt_of_cell? w _ hx156_0)).trans hx156_0
                            replace hx156_1 := (HB.out.cell (World.block_lt_of_cell? w _ hx156_1)).trans hx156_1
                            replace hx156_2 := (HB.out.cell (World.block_lt_of_cell? w _ hx156_2)).trans hx156_2
                            replace hx156_3 := (HB.out.cell (World.block_lt_of_cell? w _ hx156_3)).trans hx156_3
                            replace hx156_4 := (HB.out.cell (World.block_lt_of_cell? w _ hx156_4)).trans hx156_4
                            have HR156_3 := Aside0.mk hi156_3
                            have HC156_3 := Aside0.mk hl156_3
                            clear hi156_3 hl156_3
                            have HR156_4 := Aside0.mk hi156_4
                            have HC156_4 := Aside0.mk hl156_4
                            clear hi156_4 hl156_4
                            replace p156 := eq_true p156
                            replace q156 := eq_true q156
                            refine start_ (n := 12) (S := fun w' => w'.cell? ⟨gb151, 0, none⟩ = some (.int .i64 a0_0) ∧ w'.cell? ⟨gb151, 1, none⟩ = some (.string a0_1) ∧ w'.cell? ⟨gb151, 2, none⟩ = some (.string a0_2) ∧ w'.cell? ⟨gb151, 3, none⟩ = some (.slice A0_3 l0_3.length c0_3) ∧ w'.cell? ⟨gb151, 4, none⟩ = some (.slice (some ad155) l0_4.length c0_4) ∧ w'.cell? ⟨gb152, 0, none⟩ = some (.int .i64 a1_0) ∧ w'.cell? ⟨gb152, 1, none⟩ = some (.string a1_1) ∧ w'.cell? ⟨gb152, 2, none⟩ = some (.string a1_2) ∧ w'.cell? ⟨gb152, 3, none⟩ = some (.slice A1_3 l1_3.length c1_3) ∧ w'.cell? ⟨gb152, 4, none⟩ = some (.slice (some ad156) l1_4.length c1_4) ∧ w'.cell? (ad155.add ((x65_3).toNat * 5)) = some (.int .i64 ((rd_T25 l0_4 x65_3).f0)) ∧ w'.cell? ⟨(ad155.add ((x65_3).toNat * 5)).block, (ad155.add ((x65_3).toNat * 5)).off + 1, none⟩ = some (.string ((rd_T25 l0_4 x65_3).f1)) ∧ w'.cell? ⟨(ad155.add ((x65_3).toNat * 5)).block, (ad155.add ((x65_3).toNat * 5)).off + 2, none⟩ = some (.string ((rd_T25 l0_4 x65_3).f2)) ∧ w'.cell? ⟨(ad155.add ((x65_3).toNat * 5)).block, (ad155.add ((x65_3).toNat * 5)).off + 3, none⟩ = some (.slice A155_3 ((rd_T25 l0_4 x65_3).f3).length c155_3) ∧ w'.cell? ⟨(ad155.add ((x65_3).toNat * 5)).block, (ad155.add ((x65_3).toNat * 5)).off + 4, none⟩ = some (.slice A155_4 ((rd_T25 l0_4 x65_3).f4).length c155_4) ∧ w'.cell? (ad156.add ((x65_3).toNat * 5)) = some (.int .i64 ((rd_T25 l1_4 x65_3).f0)) ∧ w'.cell? ⟨(ad156.add ((x65_3).toNat * 5)).block, (ad156.add ((x65_3).toNat * 5)).off + 1, none⟩ = some (.string ((rd_T25 l1_4 x65_3).f1)) ∧ w'.cell? ⟨(ad156.add ((x65_3).toNat * 5)).block, (ad156.add ((x65_3).toNat * 5)).off + 2, none⟩ = some (.string ((rd_T25 l1_4 x65_3).f2)) ∧ w'.cell? ⟨(ad156.add ((x65_3).toNat * 5)).block, (ad156.add ((x65_3).toNat * 5)).off + 3, none⟩ = some (.slice A156_3 ((rd_T25 l1_4 x65_3).f3).length c156_3) ∧ w'.cell? ⟨(ad156.add ((x65_3).toNat * 5)).block, (ad156.add ((x65_3).toNat * 5)).off + 4, none⟩ = some (.slice A156_4 ((rd_T25 l1_4 x65_3).f4).length c156_4)) (ds := []) #[false, false, false, false, false, false, false, false, false, false, false, false] (by kernel_rfl) rfl rfl ⟨(blk_cell BK151.out 0).trans rfl, (blk_cell BK151.out 1).trans rfl, (blk_cell BK151.out 2).trans rfl, (blk_cell BK151.out 3).trans rfl, (blk_cell BK151.out 4).trans rfl, (blk_cell BK152.out 0).trans rfl, (blk_cell BK152.out 1).trans rfl, (blk_cell BK152.out 2).trans rfl, (blk_cell BK152.out 3).trans rfl, (blk_cell BK152.out 4).trans rfl, ((HB.out.cell (World.block_lt_of_cell? w _ hw155_0)).trans hw155_0), ((HB.out.cell (World.block_lt_of_cell? w _ hw155_1)).trans hw155_1), ((HB.out.cell (World.block_lt_of_cell? w _ hw155_2)).trans hw155_2), ((HB.out.cell (World.block_lt_of_cell? w _ hw155_3)).trans hw155_3), ((HB.out.cell (World.block_lt_of_cell? w _ hw155_4)).trans hw155_4), ((HB.out.cell (World.block_lt_of_cell? w _ hw156_0)).trans hw156_0), ((HB.out.cell (World.block_lt_of_cell? w _ hw156_1)).trans hw156_1), ((HB.out.cell (World.block_lt_of_cell? w _ hw156_2)).trans hw156_2), ((HB.out.cell (World.block_lt_of_cell? w _ hw156_3)).trans hw156_3), ((HB.out.cell (World.block_lt_of_cell? w _ hw156_4)).trans hw156_4)⟩ (fun hHeld => ?_); refine with_tabW spec_SameTree.tab12 spec_SameTree.bits12 (fun HT_ HW_ => ?_)
                            generalize wr.drew = w43 at BK151 BK152 HB HR155_3 HR155_4 HR156_3 HR156_4 hx155_0 hx155_1 hx155_2 hx155_3 hx155_4 hx156_0 hx156_1 hx156_2 hx156_3 hx156_4 hHeld ⊢
                            refine pure_ (i := 0) (N := some 68) (v := ?_) (a' := ?_) #[true, false, false, false, false, false, false, false, false, false, false, false] rfl rfl (any_of HT_.out (by kernel_rfl)) (fun _ _ _ h => h) (Or.inl ⟨by rfl, ?_⟩) ?_ ?_
                            rotate_left
                            · intro w'
                              go_simp
                              with_reducible rfl
                            rotate_left
                            · simp only [Act.put, List.setIfInBounds_toArray, List.set_cons_zero, List.set_cons_succ, i64_w, i32_w]
                              rfl
                            refine pure_ (i := 2) (N := some 70) (v := ?_) (a' := ?_) #[true, false, true, false, false, false, false, false, false, false, false, false] rfl rfl (any_of HT_.out (by kernel_rfl)) (fun _ _ _ h => h) (Or.inl ⟨by rfl, ?_⟩) ?_ ?_
                            rotate_left
                            · intro w'
                              go_simp
                              with_reducible rfl
                            rotate_left
                            · simp only [Act.put, List.setIfInBounds_toArray, List.set_cons_zero, List.set_cons_succ, i64_w, i32_w]
                              rfl
                            refine pure_ (i := 5) (N := some 73) (v := ?_) (a' := ?_) #[true, false, true, false, false, true, false, false, false, false, false, false] rfl rfl (any_of HT_.out (by kernel_rfl)) (fun _ _ _ h => h) (Or.inl ⟨by rfl, ?_⟩) ?_ ?_
                            rotate_left
                            · intro w'
                              go_simp
                              with_reducible rfl
                            rotate_left
                            · simp only [Act.put, List.setIfInBounds_toArray, List.set_cons_zero, List.set_cons_succ, i64_w, i32_w]
                              rfl
                            refine pure_ (i := 7) (N := some 75) (v := ?_) (a' := ?_) #[true, false, true, false, false, true, false, true, false, false, false, false] rfl rfl (any_of HT_.out (by kernel_rfl)) (fun _ _ _ h => h) (Or.inl ⟨by rfl, ?_⟩) ?_ ?_
                            rotate_left
                            · intro w'
                              go_simp
                              with_reducible rfl
                            rotate_left
                            · simp only [Act.put, List.setIfInBounds_toArray, List.set_cons_zero, List.set_cons_succ, i64_w, i32_w]
                              rfl
                            refine take_ (i := 1) (N := some 69) (v := ?_) (a' := ?_) #[true, true, true, false, false, true, false, true, false, false, false, false] rfl rfl (take_ofW HT_.out HW_.out (by kernel_rfl)) (fun _ _ _ h => h) (Or.inl ⟨by rfl, ?_⟩) hHeld ?_ ?_
                            rotate_left
                            · rintro w' ⟨s0, s1, s2, s3, s4, s5, s6, s7, s8, s9, s10, s11, s12, s13, s14, s15, s16, s17, s18, s19⟩
                              go_simp
                              with_reducible rfl
                            rotate_left
                            · simp only [Act.put, List.setIfInBounds_toArray, List.set_cons_zero, List.set_cons_succ, i64_w, i32_w]
                              rfl
                            refine pure_ (i := 3) (N := some 71) (v := ?_) (a' := ?_) #[true, true, true, true, false, true, false, true, false, false, false, false] rfl rfl (any_of HT_.out (by kernel_rfl)) (fun _ _ _ h => h) (Or.inl ⟨by rfl, ?_⟩) ?_ ?_
                            rotate_left
                            · intro w'
                              go_simp
                              with_reducible rfl
                            rotate_left
                            · simp only [Act.put, List.setIfInBounds_toArray, List.set_cons_zero, List.set_cons_succ, i64_w, i32_w]
                              rfl
                            refine take_ (i := 4) (N := some 72) (v := ?_) (a' := ?_) #[true, true, true, true, true, true, false, true, false, false, false, false] rfl rfl (take_ofW HT_.out HW_.out (by kernel_rfl)) (fun _ _ _ h => h) (Or.inl ⟨by rfl, ?_⟩) hHeld ?_ ?_
                            rotate_left
                            · rintro w' ⟨s0, s1, s2, s3, s4, s5, s6, s7, s8, s9, s10, s11, s12, s13, s14, s15, s16, s17, s18, s19⟩
                              go_simp
                              with_reducible rfl
                            rotate_left
                            · simp only [Act.put, List.setIfInBounds_toArray, List.set_cons_zero, List.set_cons_succ, i64_w, i32_w]
                              rfl
                            refine take_ (i := 6) (N := some 74) (v := ?_) (a' := ?_) #[true, true, true, true, true, true, true, true, false, false, false, false] rfl rfl (take_ofW HT_.out HW_.out (by kernel_rfl)) (fun _ _ _ h => h) (Or.inl ⟨by rfl, ?_⟩) hHeld ?_ ?_
                            rotate_left
                            · rintro w' ⟨s0, s1, s2, s3, s4, s5, s6, s7, s8, s9, s10, s11, s12, s13, s14, s15, s16, s17, s18, s19⟩
                              go_simp
                              with_reducible rfl
                            rotate_left
                            · simp only [Act.put, List.setIfInBounds_toArray, List.set_cons_zero, List.set_cons_succ, i64_w, i32_w]
                              rfl
                            refine pure_ (i := 8) (N := some 76) (v := ?_) (a' := ?_) #[true, true, true, true, true, true, true, true, true, false, false, false] rfl rfl (any_of HT_.out (by kernel_rfl)) (fun _ _ _ h => h) (Or.inl ⟨by rfl, ?_⟩) ?_ ?_
                            rotate_left
                            · intro w'
                              go_simp
                              with_reducible rfl
                            rotate_left
                            · simp only [Act.put, List.setIfInBounds_toArray, List.set_cons_zero, List.set_cons_succ, i64_w, i32_w]
                              rfl
                            refine take_ (i := 9) (N := some 77) (v := ?_) (a' := ?_) #[true, true, true, true, true, true, true, true, true, true, false, false] rfl rfl (take_ofW HT_.out HW_.out (by kernel_rfl)) (fun _ _ _ h => h) (Or.inl ⟨by rfl, ?_⟩) hHeld ?_ ?_
                            rotate_left
                            · rintro w' ⟨s0, s1, s2, s3, s4, s5, s6, s7, s8, s9, s10, s11, s12, s13, s14, s15, s16, s17, s18, s19⟩
                              go_simp
                              with_reducible rfl
                            rotate_left
                            · simp only [Act.put, List.setIfInBounds_toArray, List.set_cons_zero, List.set_cons_succ, i64_w, i32_w]
                              rfl
                            refine one_ (i := 10) (N := some 78) #[true, true, true, true, true, true, true, true, true, true, true, false] rfl rfl (one_of HT_.out (by kernel_rfl)) (by decide) (fun K hK => ?_)
                            refine goes_ Try.func14 (by kernel_rfl) rfl #[.agg #[.int .i64 ((rd_T25 l0_4 x65_3).f0), .string ((rd_T25 l0_4 x65_3).f1), .string ((rd_T25 l0_4 x65_3).f2), .slice A155_3 ((rd_T25 l0_4 x65_3).f3).length c155_3, .slice A155_4 ((rd_T25 l0_4 x65_3).f4).length c155_4], .agg #[.int .i64 ((rd_T25 l1_4 x65_3).f0), .string ((rd_T25 l1_4 x65_3).f1), .string ((rd_T25 l1_4 x65_3).f2), .slice A156_3 ((rd_T25 l1_4 x65_3).f3).length c156_3, .slice A156_4 ((rd_T25 l1_4 x65_3).f4).length c156_4]] (by rfl) rfl rfl (by (try simp only [List.map_toArray, List.map_cons, List.map_nil]); first | done | rfl | (simp only [List.length_drop, List.length_take]; rfl)) ?_
                            with_reducible refine (ih k3 (by have := HJ2.out; have := HK2.out; have := HK3.out; omega) ((rd_T25 l0_4 x65_3).f0) ((rd_T25 l0_4 x65_3).f1) ((rd_T25 l0_4 x65_3).f2) _ _ ((rd_T25 l0_4 x65_3).f3) _ _ ((rd_T25 l0_4 x65_3).f4) ((rd_T25 l1_4 x65_3).f0) ((rd_T25 l1_4 x65_3).f1) ((rd_T25 l1_4 x65_3).f2) _ _ ((rd_T25 l1_4 x65_3).f3) _ _ ((rd_T25 l1_4 x65_3).f4) true _ ?side1 ?side2 ?side3 ?side4 ?side5 ?side6 ?side7 ?side8 A41.out).mono ?_
                            (case side1 => repeat (first | exact (Kd.C_below HR155_3.out HB.out) | (with_reducible refine Kd.C_alloc ?_ _) | (with_reducible refine Kd.C_drewN ?_ _) | (with_reducible refine Kd.C_drew ?_)))
                            (case side2 => exact HC155_3.out)
                            (case side3 => repeat (first | exact (Kd.C_below HR155_4.out HB.out) | (with_reducible refine Kd.C_alloc ?_ _) | (with_reducible refine Kd.C_drewN ?_ _) | (with_reducible refine Kd.C_drew ?_)))
                            (case side4 => exact HC155_4.out)
                            (case side5 => repeat (first | exact (Kd.C_below HR156_3.out HB.out) | (with_reducible refine Kd.C_alloc ?_ _) | (with_reducible refine Kd.C_drewN ?_ _) | (with_reducible refine Kd.C_drew ?_)))
                            (case side6 => exact HC156_3.out)
                            (case side7 => repeat (first | exact (Kd.C_below HR156_4.out HB.out) | (with_reducible refine Kd.C_alloc ?_ _) | (with_reducible refine Kd.C_drewN ?_ _) | (with_reducible refine Kd.C_drew ?_)))
                            (case side8 => exact HC156_4.out)
                            rintro e w44 ⟨rfl, hb⟩
                            refine ⟨_, rfl, ?_⟩
                            have n0_ := Aside0.mk (blk_below (g := gb151) (o := .cells #[.int .i64 a0_0, .string a0_1, .string a0_2, .slice A0_3 l0_3.length c0_3, .slice (some ad155) l0_4.length c0_4] 25 (0, 0)) (by (with_reducible repeat (first | refine blk_drewN ?_ _ | refine blk_drew ?_ | refine blk_alloc ?_ _)); exact BK151.out) hb)
                            have n1_ := Aside0.mk (blk_below (g := gb152) (o := .cells #[.int .i64 a1_0, .string a1_1, .string a1_2, .slice A1_3 l1_3.length c1_3, .slice (some ad156) l1_4.length c1_4] 25 (0, 0)) (by (with_reducible repeat (first | refine blk_drewN ?_ _ | refine blk_drew ?_ | refine blk_alloc ?_ _)); exact BK152.out) hb)
                            have n2_ := Aside0.mk (below_step (by repeat (first | (with_reducible first | exact HB.out | apply below_alloc | apply pw_below_drewN | apply below_drew1 | refine below_set ?_ GE151.out | refine below_set ?_ GE152.out) | exact HB.out)) hb)
                            clear BK151
                            clear BK152
                            clear HB
                            have BK151 := n0_
                            have BK152 := n1_
                            have HB := n2_
                            clear n0_ n1_ n2_
                            (try clear hb)
                            (try clear hb2)
                            (try clear hk)
                            (try clear hi)
                            refine hK.out _ _ ⟨(blk_cell BK151.out 0).trans rfl, (blk_cell BK151.out 1).trans rfl, (blk_cell BK151.out 2).trans rfl, (blk_cell BK151.out 3).trans rfl, (blk_cell BK151.out 4).trans rfl, (blk_cell BK152.out 0).trans rfl, (blk_cell BK152.out 1).trans rfl, (blk_cell BK152.out 2).trans rfl, (blk_cell BK152.out 3).trans rfl, (blk_cell BK152.out 4).trans rfl, ((HB.out.cell (World.block_lt_of_cell? w _ hw155_0)).trans hw155_0), ((HB.out.cell (World.block_lt_of_cell? w _ hw155_1)).trans hw155_1), ((HB.out.cell (World.block_lt_of_cell? w _ hw155_2)).trans hw155_2), ((HB.out.cell (World.block_lt_of_cell? w _ hw155_3)).trans hw155_3), ((HB.out.cell (World.block_lt_of_cell? w _ hw155_4)).trans hw155_4), ((HB.out.cell (World.block_lt_of_cell? w _ hw156_0)).trans hw156_0), ((HB.out.cell (World.block_lt_of_cell? w _ hw156_1)).trans hw156_1), ((HB.out.cell (World.block_lt_of_cell? w _ hw156_2)).trans hw156_2), ((HB.out.cell (World.block_lt_of_cell? w _ hw156_3)).trans hw156_3), ((HB.out.cell (World.block_lt_of_cell? w _ hw156_4)).trans hw156_4)⟩ (fun hHeld => ?_)
                            clear hK K
                            refine norm_ (a' := ?_) ?_ ?_
                            rotate_left
                            · show Act.put _ (some 78) _ = _
                              simp only [Act.put, List.setIfInBounds_toArray, List.set_cons_zero, List.set_cons_succ, i64_w, i32_w]
                              rfl
                            refine pure_ (i := 11) (N := some 79) (v := ?_) (a' := ?_) #[true, true, true, true, true, true, true, true, true, true, true, true] rfl rfl (any_of HT_.out (by kernel_rfl)) (fun _ _ _ h => h) (Or.inl ⟨by rfl, ?_⟩) ?_ ?_
                            rotate_left
                            · intro w'
                              go_simp
                              with_reducible rfl
                            rotate_left
                            · simp only [Act.put, List.setIfInBounds_toArray, List.set_cons_zero, List.set_cons_succ, i64_w, i32_w]
                              rfl
                            refine done_ (done_of HT_.out (by kernel_rfl)) ?_
                            try go_wp2
                            go_roundg k3
                            case measure => have := HJ2.out; have := HK2.out; have := HK3.out; omega
                            case rel => exact ⟨(wrap64 (x65_3 + 1)), (by first | rfl | (simp; done) | (simp [*]; done)), H', ⟨by have := HJ2.out; have := HK2.out; have := HK3.out; omega⟩, ⟨by (with_reducible repeat (first | refine blk_drewN ?_ _ | refine blk_drew ?_ | refine blk_alloc ?_ _)); exact BK151.out⟩, ⟨by (with_reducible repeat (first | refine blk_drewN ?_ _ | refine blk_drew ?_ | refine blk_alloc ?_ _)); exact BK152.out⟩, ⟨by repeat (first | (with_reducible first | exact HB.out | apply below_alloc | apply pw_below_drewN | apply below_drew1 | refine below_set ?_ GE151.out | refine below_set ?_ GE152.out) | exact HB.out)⟩⟩
                          · replace c42 := Bool.eq_false_iff.mpr c42
                            subst c42
                            have H1 : (some false) = some r := by rw [if_neg (show ¬ (false = true) by decide)] at H; exact H
                            clear H
                            have H := H1
                            clear H1
                            obtain rfl := Option.some.inj H
                            try go_wp2
                            have n0_ := Aside0.mk (blk_drew BK151.out)
                            have n1_ := Aside0.mk (blk_drew BK152.out)
                            have n2_ := Aside0.mk (below_drew1 HB.out)
                            clear BK151
                            clear BK152
                            clear HB
                            have BK151 := n0_
                            have BK152 := n1_
                            have HB := n2_
                            clear n0_ n1_ n2_
                            have p155 : 0 ≤ (x65_3 : Int) := of_decide_eq_true (by first | (with_reducible assumption) | assumption)
                            have q155 : x65_3 < (l0_4.length : Int) := of_decide_eq_true (by first | (with_reducible assumption) | assumption)
                            obtain ⟨ad155, A155_3, c155_3, A155_4, c155_4, e155, hx155_0, hx155_1, hx155_2, hx155_3, hx155_4, hl155_3, hi155_3, hl155_4, hi155_4⟩ := at_T25 HR0_4.out x65_3 p155 q155
                            have hw155_4 := hx155_4
                            have hw155_3 := hx155_3
                            have hw155_2 := hx155_2
                            have hw155_1 := hx155_1
                            have hw155_0 := hx155_0
                            cases e155
                            replace hx155_0 := (HB.out.cell (World.block_lt_of_cell? w _ hx155_0)).trans hx155_0
                            replace hx155_1 := (HB.out.cell (World.block_lt_of_cell? w _ hx155_1)).trans hx155_1
                            replace hx155_2 := (HB.out.cell (World.block_lt_of_cell? w _ hx155_2)).trans hx155_2
                            replace hx155_3 := (HB.out.cell (World.block_lt_of_cell? w _ hx155_3)).trans hx155_3
                            replace hx155_4 := (HB.out.cell (World.block_lt_of_cell? w _ hx155_4)).trans hx155_4
                            have HR155_3 := Aside0.mk hi155_3
                            have HC155_3 := Aside0.mk hl155_3
                            clear hi155_3 hl155_3
                            have HR155_4 := Aside0.mk hi155_4
                            have HC155_4 := Aside0.mk hl155_4
                            clear hi155_4 hl155_4
                            replace p155 := eq_true p155
                            replace q155 := eq_true q155
                            have p156 : 0 ≤ (x65_3 : Int) := of_decide_eq_true (by first | (with_reducible assumption) | assumption)
                            have q156 : x65_3 < (l1_4.length : Int) := of_decide_eq_true (by first | (with_reducible assumption) | assumption)
                            obtain ⟨ad156, A156_3, c156_3, A156_4, c156_4, e156, hx156_0, hx156_1, hx156_2, hx156_3, hx156_4, hl156_3, hi156_3, hl156_4, hi156_4⟩ := at_T25 HR1_4.out x65_3 p156 q156
                            have hw156_4 := hx156_4
                            have hw156_3 := hx156_3
                            have hw156_2 := hx156_2
                            have hw156_1 := hx156_1
                            have hw156_0 := hx156_0
                            cases e156
                            replace hx156_0 := (HB.out.cell (World.block_lt_of_cell? w _ hx156_0)).trans hx156_0
                            replace hx156_1 := (HB.out.cell (World.block_lt_of_cell? w _ hx156_1)).trans hx156_1
                            replace hx156_2 := (HB.out.cell (World.block_lt_of_cell? w _ hx156_2)).trans hx156_2
                            replace hx156_3 := (HB.out.cell (World.block_lt_of_cell? w _ hx156_3)).trans hx156_3
                            replace hx156_4 := (HB.out.cell (World.block_lt_of_cell? w _ hx156_4)).trans hx156_4
                            have HR156_3 := Aside0.mk hi156_3
                            have HC156_3 := Aside0.mk hl156_3
                            clear hi156_3 hl156_3
                            have HR156_4 := Aside0.mk hi156_4
                            have HC156_4 := Aside0.mk hl156_4
                            clear hi156_4 hl156_4
                            replace p156 := eq_true p156
                            replace q156 := eq_true q156
                            refine start_ (n := 12) (S := fun w' => w'.cell? ⟨gb151, 0, none⟩ = some (.int .i64 a0_0) ∧ w'.cell? ⟨gb151, 1, none⟩ = some (.string a0_1) ∧ w'.cell? ⟨gb151, 2, none⟩ = some (.string a0_2) ∧ w'.cell? ⟨gb151, 3, none⟩ = some (.slice A0_3 l0_3.length c0_3) ∧ w'.cell? ⟨gb151, 4, none⟩ = some (.slice (some ad155) l0_4.length c0_4) ∧ w'.cell? ⟨gb152, 0, none⟩ = some (.int .i64 a1_0) ∧ w'.cell? ⟨gb152, 1, none⟩ = some (.string a1_1) ∧ w'.cell? ⟨gb152, 2, none⟩ = some (.string a1_2) ∧ w'.cell? ⟨gb152, 3, none⟩ = some (.slice A1_3 l1_3.length c1_3) ∧ w'.cell? ⟨gb152, 4, none⟩ = some (.slice (some ad156) l1_4.length c1_4) ∧ w'.cell? (ad155.add ((x65_3).toNat * 5)) = some (.int .i64 ((rd_T25 l0_4 x65_3).f0)) ∧ w'.cell? ⟨(ad155.add ((x65_3).toNat * 5)).block, (ad155.add ((x65_3).toNat * 5)).off + 1, none⟩ = some (.string ((rd_T25 l0_4 x65_3).f1)) ∧ w'.cell? ⟨(ad155.add ((x65_3).toNat * 5)).block, (ad155.add ((x65_3).toNat * 5)).off + 2, none⟩ = some (.string ((rd_T25 l0_4 x65_3).f2)) ∧ w'.cell? ⟨(ad155.add ((x65_3).toNat * 5)).block, (ad155.add ((x65_3).toNat * 5)).off + 3, none⟩ = some (.slice A155_3 ((rd_T25 l0_4 x65_3).f3).length c155_3) ∧ w'.cell? ⟨(ad155.add ((x65_3).toNat * 5)).block, (ad155.add ((x65_3).toNat * 5)).off + 4, none⟩ = some (.slice A155_4 ((rd_T25 l0_4 x65_3).f4).length c155_4) ∧ w'.cell? (ad156.add ((x65_3).toNat * 5)) = some (.int .i64 ((rd_T25 l1_4 x65_3).f0)) ∧ w'.cell? ⟨(ad156.add ((x65_3).toNat * 5)).block, (ad156.add ((x65_3).toNat * 5)).off + 1, none⟩ = some (.string ((rd_T25 l1_4 x65_3).f1)) ∧ w'.cell? ⟨(ad156.add ((x65_3).toNat * 5)).block, (ad156.add ((x65_3).toNat * 5)).off + 2, none⟩ = some (.string ((rd_T25 l1_4 x65_3).f2)) ∧ w'.cell? ⟨(ad156.add ((x65_3).toNat * 5)).block, (ad156.add ((x65_3).toNat * 5)).off + 3, none⟩ = some (.slice A156_3 ((rd_T25 l1_4 x65_3).f3).length c156_3) ∧ w'.cell? ⟨(ad156.add ((x65_3).toNat * 5)).block, (ad156.add ((x65_3).toNat * 5)).off + 4, none⟩ = some (.slice A156_4 ((rd_T25 l1_4 x65_3).f4).length c156_4)) (ds := []) #[false, false, false, false, false, false, false, false, false, false, false, false] (by kernel_rfl) rfl rfl ⟨(blk_cell BK151.out 0).trans rfl, (blk_cell BK151.out 1).trans rfl, (blk_cell BK151.out 2).trans rfl, (blk_cell BK151.out 3).trans rfl, (blk_cell BK151.out 4).trans rfl, (blk_cell BK152.out 0).trans rfl, (blk_cell BK152.out 1).trans rfl, (blk_cell BK152.out 2).trans rfl, (blk_cell BK152.out 3).trans rfl, (blk_cell BK152.out 4).trans rfl, ((HB.out.cell (World.block_lt_of_cell? w _ hw155_0)).trans hw155_0), ((HB.out.cell (World.block_lt_of_cell? w _ hw155_1)).trans hw155_1), ((HB.out.cell (World.block_lt_of_cell? w _ hw155_2)).trans hw155_2), ((HB.out.cell (World.block_lt_of_cell? w _ hw155_3)).trans hw155_3), ((HB.out.cell (World.block_lt_of_cell? w _ hw155_4)).trans hw155_4), ((HB.out.cell (World.block_lt_of_cell? w _ hw156_0)).trans hw156_0), ((HB.out.cell (World.block_lt_of_cell? w _ hw156_1)).trans hw156_1), ((HB.out.cell (World.block_lt_of_cell? w _ hw156_2)).trans hw156_2), ((HB.out.cell (World.block_lt_of_cell? w _ hw156_3)).trans hw156_3), ((HB.out.cell (World.block_lt_of_cell? w _ hw156_4)).trans hw156_4)⟩ (fun hHeld => ?_); refine with_tabW spec_SameTree.tab12 spec_SameTree.bits12 (fun HT_ HW_ => ?_)
                            generalize wr.drew = w45 at BK151 BK152 HB HR155_3 HR155_4 HR156_3 HR156_4 hx155_0 hx155_1 hx155_2 hx155_3 hx155_4 hx156_0 hx156_1 hx156_2 hx156_3 hx156_4 hHeld ⊢
                            refine pure_ (i := 0) (N := some 68) (v := ?_) (a' := ?_) #[true, false, false, false, false, false, false, false, false, false, false, false] rfl rfl (any_of HT_.out (by kernel_rfl)) (fun _ _ _ h => h) (Or.inl ⟨by rfl, ?_⟩) ?_ ?_
                            rotate_left
                            · intro w'
                              go_simp
                              with_reducible rfl
                            rotate_left
                            · simp only [Act.put, List.setIfInBounds_toArray, List.set_cons_zero, List.set_cons_succ, i64_w, i32_w]
                              rfl
                            refine pure_ (i := 2) (N := some 70) (v := ?_) (a' := ?_) #[true, false, true, false, false, false, false, false, false, false, false, false] rfl rfl (any_of HT_.out (by kernel_rfl)) (fun _ _ _ h => h) (Or.inl ⟨by rfl, ?_⟩) ?_ ?_
                            rotate_left
                            · intro w'
                              go_simp
                              with_reducible rfl
                            rotate_left
                            · simp only [Act.put, List.setIfInBounds_toArray, List.set_cons_zero, List.set_cons_succ, i64_w, i32_w]
                              rfl
                            refine pure_ (i := 5) (N := some 73) (v := ?_) (a' := ?_) #[true, false, true, false, false, true, false, false, false, false, false, false] rfl rfl (any_of HT_.out (by kernel_rfl)) (fun _ _ _ h => h) (Or.inl ⟨by rfl, ?_⟩) ?_ ?_
                            rotate_left
                            · intro w'
                              go_simp
                              with_reducible rfl
                            rotate_left
                            · simp only [Act.put, List.setIfInBounds_toArray, List.set_cons_zero, List.set_cons_succ, i64_w, i32_w]
                              rfl
                            refine pure_ (i := 7) (N := some 75) (v := ?_) (a' := ?_) #[true, false, true, false, false, true, false, true, false, false, false, false] rfl rfl (any_of HT_.out (by kernel_rfl)) (fun _ _ _ h => h) (Or.inl ⟨by rfl, ?_⟩) ?_ ?_
                            rotate_left
                            · intro w'
                              go_simp
                              with_reducible rfl
                            rotate_left
                            · simp only [Act.put, List.setIfInBounds_toArray, List.set_cons_zero, List.set_cons_succ, i64_w, i32_w]
                              rfl
                            refine take_ (i := 1) (N := some 69) (v := ?_) (a' := ?_) #[true, true, true, false, false, true, false, true, false, false, false, false] rfl rfl (take_ofW HT_.out HW_.out (by kernel_rfl)) (fun _ _ _ h => h) (Or.inl ⟨by rfl, ?_⟩) hHeld ?_ ?_
                            rotate_left
                            · rintro w' ⟨s0, s1, s2, s3, s4, s5, s6, s7, s8, s9, s10, s11, s12, s13, s14, s15, s16, s17, s18, s19⟩
                              go_simp
                              with_reducible rfl
                            rotate_left
                            · simp only [Act.put, List.setIfInBounds_toArray, List.set_cons_zero, List.set_cons_succ, i64_w, i32_w]
                              rfl
                            refine pure_ (i := 3) (N := some 71) (v := ?_) (a' := ?_) #[true, true, true, true, false, true, false, true, false, false, false, false] rfl rfl (any_of HT_.out (by kernel_rfl)) (fun _ _ _ h => h) (Or.inl ⟨by rfl, ?_⟩) ?_ ?_
                            rotate_left
                            · intro w'
                              go_simp
                              with_reducible rfl
                            rotate_left
                            · simp only [Act.put, List.setIfInBounds_toArray, List.set_cons_zero, List.set_cons_succ, i64_w, i32_w]
                              rfl
                            refine take_ (i := 4) (N := some 72) (v := ?_) (a' := ?_) #[true, true, true, true, true, true, false, true, false, false, false, false] rfl rfl (take_ofW HT_.out HW_.out (by kernel_rfl)) (fun _ _ _ h => h) (Or.inl ⟨by rfl, ?_⟩) hHeld ?_ ?_
                            rotate_left
                            · rintro w' ⟨s0, s1, s2, s3, s4, s5, s6, s7, s8, s9, s10, s11, s12, s13, s14, s15, s16, s17, s18, s19⟩
                              go_simp
                              with_reducible rfl
                            rotate_left
                            · simp only [Act.put, List.setIfInBounds_toArray, List.set_cons_zero, List.set_cons_succ, i64_w, i32_w]
                              rfl
                            refine take_ (i := 6) (N := some 74) (v := ?_) (a' := ?_) #[true, true, true, true, true, true, true, true, false, false, false, false] rfl rfl (take_ofW HT_.out HW_.out (by kernel_rfl)) (fun _ _ _ h => h) (Or.inl ⟨by rfl, ?_⟩) hHeld ?_ ?_
                            rotate_left
                            · rintro w' ⟨s0, s1, s2, s3, s4, s5, s6, s7, s8, s9, s10, s11, s12, s13, s14, s15, s16, s17, s18, s19⟩
                              go_simp
                              with_reducible rfl
                            rotate_left
                            · simp only [Act.put, List.setIfInBounds_toArray, List.set_cons_zero, List.set_cons_succ, i64_w, i32_w]
                              rfl
                            refine pure_ (i := 8) (N := some 76) (v := ?_) (a' := ?_) #[true, true, true, true, true, true, true, true, true, false, false, false] rfl rfl (any_of HT_.out (by kernel_rfl)) (fun _ _ _ h => h) (Or.inl ⟨by rfl, ?_⟩) ?_ ?_
                            rotate_left
                            · intro w'
                              go_simp
                              with_reducible rfl
                            rotate_left
                            · simp only [Act.put, List.setIfInBounds_toArray, List.set_cons_zero, List.set_cons_succ, i64_w, i32_w]
                              rfl
                            refine take_ (i := 9) (N := some 77) (v := ?_) (a' := ?_) #[true, true, true, true, true, true, true, true, true, true, false, false] rfl rfl (take_ofW HT_.out HW_.out (by kernel_rfl)) (fun _ _ _ h => h) (Or.inl ⟨by rfl, ?_⟩) hHeld ?_ ?_
                            rotate_left
                            · rintro w' ⟨s0, s1, s2, s3, s4, s5, s6, s7, s8, s9, s10, s11, s12, s13, s14, s15, s16, s17, s18, s19⟩
                              go_simp
                              with_reducible rfl
                            rotate_left
                            · simp only [Act.put, List.setIfInBounds_toArray, List.set_cons_zero, List.set_cons_succ, i64_w, i32_w]
                              rfl
                            refine one_ (i := 10) (N := some 78) #[true, true, true, true, true, true, true, true, true, true, true, false] rfl rfl (one_of HT_.out (by kernel_rfl)) (by decide) (fun K hK => ?_)
                            refine goes_ Try.func14 (by kernel_rfl) rfl #[.agg #[.int .i64 ((rd_T25 l0_4 x65_3).f0), .string ((rd_T25 l0_4 x65_3).f1), .string ((rd_T25 l0_4 x65_3).f2), .slice A155_3 ((rd_T25 l0_4 x65_3).f3).length c155_3, .slice A155_4 ((rd_T25 l0_4 x65_3).f4).length c155_4], .agg #[.int .i64 ((rd_T25 l1_4 x65_3).f0), .string ((rd_T25 l1_4 x65_3).f1), .string ((rd_T25 l1_4 x65_3).f2), .slice A156_3 ((rd_T25 l1_4 x65_3).f3).length c156_3, .slice A156_4 ((rd_T25 l1_4 x65_3).f4).length c156_4]] (by rfl) rfl rfl (by (try simp only [List.map_toArray, List.map_cons, List.map_nil]); first | done | rfl | (simp only [List.length_drop, List.length_take]; rfl)) ?_
                            with_reducible refine (ih k3 (by have := HJ2.out; have := HK2.out; have := HK3.out; omega) ((rd_T25 l0_4 x65_3).f0) ((rd_T25 l0_4 x65_3).f1) ((rd_T25 l0_4 x65_3).f2) _ _ ((rd_T25 l0_4 x65_3).f3) _ _ ((rd_T25 l0_4 x65_3).f4) ((rd_T25 l1_4 x65_3).f0) ((rd_T25 l1_4 x65_3).f1) ((rd_T25 l1_4 x65_3).f2) _ _ ((rd_T25 l1_4 x65_3).f3) _ _ ((rd_T25 l1_4 x65_3).f4) false _ ?side1 ?side2 ?side3 ?side4 ?side5 ?side6 ?side7 ?side8 A41.out).mono ?_
                            (case side1 => repeat (first | exact (Kd.C_below HR155_3.out HB.out) | (with_reducible refine Kd.C_alloc ?_ _) | (with_reducible refine Kd.C_drewN ?_ _) | (with_reducible refine Kd.C_drew ?_)))
                            (case side2 => exact HC155_3.out)
                            (case side3 => repeat (first | exact (Kd.C_below HR155_4.out HB.out) | (with_reducible refine Kd.C_alloc ?_ _) | (with_reducible refine Kd.C_drewN ?_ _) | (with_reducible refine Kd.C_drew ?_)))
                            (case side4 => exact HC155_4.out)
                            (case side5 => repeat (first | exact (Kd.C_below HR156_3.out HB.out) | (with_reducible refine Kd.C_alloc ?_ _) | (with_reducible refine Kd.C_drewN ?_ _) | (with_reducible refine Kd.C_drew ?_)))
                            (case side6 => exact HC156_3.out)
                            (case side7 => repeat (first | exact (Kd.C_below HR156_4.out HB.out) | (with_reducible refine Kd.C_alloc ?_ _) | (with_reducible refine Kd.C_drewN ?_ _) | (with_reducible refine Kd.C_drew ?_)))
                            (case side8 => exact HC156_4.out)
                            rintro e w46 ⟨rfl, hb⟩
                            refine ⟨_, rfl, ?_⟩
                            have n0_ := Aside0.mk (blk_below (g := gb151) (o := .cells #[.int .i64 a0_0, .string a0_1, .string a0_2, .slice A0_3 l0_3.length c0_3, .slice (some ad155) l0_4.length c0_4] 25 (0, 0)) (by (with_reducible repeat (first | refine blk_drewN ?_ _ | refine blk_drew ?_ | refine blk_alloc ?_ _)); exact BK151.out) hb)
                            have n1_ := Aside0.mk (blk_below (g := gb152) (o := .cells #[.int .i64 a1_0, .string a1_1, .string a1_2, .slice A1_3 l1_3.length c1_3, .slice (some ad156) l1_4.length c1_4] 25 (0, 0)) (by (with_reducible repeat (first | refine blk_drewN ?_ _ | refine blk_drew ?_ | refine blk_alloc ?_ _)); exact BK152.out) hb)
                            have n2_ := Aside0.mk (below_step (by repeat (first | (with_reducible first | exact HB.out | apply below_alloc | apply pw_below_drewN | apply below_drew1 | refine below_set ?_ GE151.out | refine below_set ?_ GE152.out) | exact HB.out)) hb)
                            clear BK151
                            clear BK152
                            clear HB
                            have BK151 := n0_
                            have BK152 := n1_
                            have HB := n2_
                            clear n0_ n1_ n2_
                            (try clear hb)
                            (try clear hb2)
                            (try clear hk)
                            (try clear hi)
                            refine hK.out _ _ ⟨(blk_cell BK151.out 0).trans rfl, (blk_cell BK151.out 1).trans rfl, (blk_cell BK151.out 2).trans rfl, (blk_cell BK151.out 3).trans rfl, (blk_cell BK151.out 4).trans rfl, (blk_cell BK152.out 0).trans rfl, (blk_cell BK152.out 1).trans rfl, (blk_cell BK152.out 2).trans rfl, (blk_cell BK152.out 3).trans rfl, (blk_cell BK152.out 4).trans rfl, ((HB.out.cell (World.block_lt_of_cell? w _ hw155_0)).trans hw155_0), ((HB.out.cell (World.block_lt_of_cell? w _ hw155_1)).trans hw155_1), ((HB.out.cell (World.block_lt_of_cell? w _ hw155_2)).trans hw155_2), ((HB.out.cell (World.block_lt_of_cell? w _ hw155_3)).trans hw155_3), ((HB.out.cell (World.block_lt_of_cell? w _ hw155_4)).trans hw155_4), ((HB.out.cell (World.block_lt_of_cell? w _ hw156_0)).trans hw156_0), ((HB.out.cell (World.block_lt_of_cell? w _ hw156_1)).trans hw156_1), ((HB.out.cell (World.block_lt_of_cell? w _ hw156_2)).trans hw156_2), ((HB.out.cell (World.block_lt_of_cell? w _ hw156_3)).trans hw156_3), ((HB.out.cell (World.block_lt_of_cell? w _ hw156_4)).trans hw156_4)⟩ (fun hHeld => ?_)
                            clear hK K
                            refine norm_ (a' := ?_) ?_ ?_
                            rotate_left
                            · show Act.put _ (some 78) _ = _
                              simp only [Act.put, List.setIfInBounds_toArray, List.set_cons_zero, List.set_cons_succ, i64_w, i32_w]
                              rfl
                            refine pure_ (i := 11) (N := some 79) (v := ?_) (a' := ?_) #[true, true, true, true, true, true, true, true, true, true, true, true] rfl rfl (any_of HT_.out (by kernel_rfl)) (fun _ _ _ h => h) (Or.inl ⟨by rfl, ?_⟩) ?_ ?_
                            rotate_left
                            · intro w'
                              go_simp
                              with_reducible rfl
                            rotate_left
                            · simp only [Act.put, List.setIfInBounds_toArray, List.set_cons_zero, List.set_cons_succ, i64_w, i32_w]
                              rfl
                            refine done_ (done_of HT_.out (by kernel_rfl)) ?_
                            try go_wp2
                            go_ret
                            exact ⟨by first | rfl | (simp [errW_none, errW_some] <;> rfl) | (simp [*, errW_none, errW_some] <;> rfl), by repeat (first | (with_reducible first | exact HB.out | apply below_alloc | apply pw_below_drewN | apply below_drew1 | refine below_set ?_ GE151.out | refine below_set ?_ GE152.out) | exact HB.out)⟩
                        · rw [if_neg c40] at H
                          exact absurd H (by simp)
                      · rw [if_neg c39] at H
                        exact absurd H (by simp)
                    · rw [if_neg c38] at H
                      exact absurd H (by simp)
                  · rw [if_neg c37] at H
                    have c37b0 : decide (x65_3 < (l0_4.length : Int)) = false := decide_eq_false c37
                    clear c37
                    obtain rfl := Option.some.inj H
                    go_wp2
                    go_ret
                    exact ⟨by first | rfl | (simp [errW_none, errW_some] <;> rfl) | (simp [*, errW_none, errW_some] <;> rfl), by repeat (first | (with_reducible first | exact HB.out | apply below_alloc | apply pw_below_drewN | apply below_drew1 | refine below_set ?_ GE151.out | refine below_set ?_ GE152.out) | exact HB.out)⟩
end Go.Proofs.Ytmfjbljdbkmkgaa.PDom

/- What the printed functions on trees tell: the text, what stands within what, that a tree is itself. Plain facts. -/
namespace Go.Proofs.Ytmfjbljdbkmkgaa.PDom
open Go.RowKit Go.Proofs.YtmfjbljdbkmkgaaW.PrintWords Go.Proofs.YtmfjbljdbkmkgaaW.PrintLast Go.Proofs.YtmfjbljdbkmkgaaW.PrintMore Go.Proofs.Ytmfjbljdbkmkgaa.Dom Go.Proofs.Ytmfjbljdbkmkgaa.Txt
set_option linter.unusedVariables false
set_option linter.unusedSimpArgs false

theorem fit_kid {t y : T} (h : Fit t) (hy : y ∈ t.f4) : Fit y := by
  cases h with
  | mk _ _ _ h => exact h y hy
theorem fit_len {t : T} (h : Fit t) : t.f4.length ≤ 4398046510976 := by
  cases h with
  | mk _ _ h _ => exact h
theorem fit_len3 {t : T} (h : Fit t) : t.f3.length ≤ 4398046510976 := by
  cases h with
  | mk _ h _ _ => exact h
theorem fits2_ev (t : T) (ht : Fit t) : ∃ b, Ev (fun k => laws_zzFits2.f k t.f0 t.f1 t.f2 t.f3 t.f4) b := by
  obtain ⟨b, hb⟩ := fits2_tot t.f0 t.f1 t.f2 t.f3 t.f4 (Nat.le_trans (fit_len3 ht) (by decide)) (t.f3.length + 1) (by omega)
  exact ⟨b, Ev.of (fun k => laws_zzFits2.mono _ _ _ _ _ k) hb⟩
/-! ### The text -/
theorem txTL_append (a b : List T) : txTL (a ++ b) = txTL a ++ txTL b := by
  induction a with
  | nil => rfl
  | cons k a ih => rw [List.cons_append, txTL, txTL, ih, List.append_assoc]
theorem arr_app (a b : List UInt8) : (⟨a.toArray⟩ : ByteArray) ++ ⟨b.toArray⟩ = ⟨(a ++ b).toArray⟩ := by
  apply toList_inj
  rw [ByteArray.toList_eq, ByteArray.toList_eq, ByteArray.data_append]
  simp
theorem text_l0 (ks : List T) (hl : ks.length ≤ 4398046510976) (hs : (txTL ks).length ≤ 1099511627776) (ih : ∀ y ∈ ks, Ev (fun k => spec_TextOf.f k y.f0 y.f1 y.f2 y.f3 y.f4) ⟨(txT y).toArray⟩) : ∀ (n j : Nat), j + n = ks.length →
    Ev (fun k => spec_TextOf.l0 k ⟨(txTL (ks.take j)).toArray⟩ ks (ks.length : Int) (j : Int)) ⟨(txTL ks).toArray⟩
  | 0, j, hj => by
    refine Ev.step (f := fun _ => some ⟨(txTL ks).toArray⟩) (fun k => ?_) (Ev.now _)
    rw [spec_TextOf.l0, if_neg (by omega), List.take_of_length_le (by omega)]
  | n + 1, j, hj => by
    have hlt : j < ks.length := by omega
    have ht : ks.take (j + 1) = ks.take j ++ [ks[j]] := List.take_succ_eq_append_getElem hlt
    have e1 : txTL (ks.take (j + 1)) = txTL (ks.take j) ++ txT ks[j] := by rw [ht, txTL_append, txTL, txTL, List.append_nil]
    have hle : (txTL (ks.take j)).length + (txT ks[j]).length ≤ 1099511627776 := by
      have e2 : txTL ks = txTL (ks.take (j + 1)) ++ txTL (ks.drop (j + 1)) := by rw [← txTL_append, List.take_append_drop]
      rw [e2, e1, List.length_append, List.length_append] at hs
      omega
    refine Ev.step (f := fun k => (spec_TextOf.f k ks[j].f0 ks[j].f1 ks[j].f2 ks[j].f3 ks[j].f4).bind fun t150 => if (⟨(txTL (ks.take j)).toArray⟩ : ByteArray).size + t150.size ≤ 9223372036854775807 then spec_TextOf.l0 k (⟨(txTL (ks.take j)).toArray⟩ ++ t150) ks (ks.length : Int) ((j + 1 : Nat) : Int) else none) (fun k => ?_) ?_
    · simp only [spec_TextOf.l0]
      rw [if_pos (by omega), if_pos (by omega), if_pos (by omega), rd_at ks hlt, succ_wrap j (by omega)]
    · refine Ev.bind (ih _ (List.getElem_mem hlt)) ?_
      have hsz : (⟨(txTL (ks.take j)).toArray⟩ : ByteArray).size + (⟨(txT ks[j]).toArray⟩ : ByteArray).size ≤ 9223372036854775807 := by
        show (txTL (ks.take j)).toArray.size + (txT ks[j]).toArray.size ≤ _
        rw [List.size_toArray, List.size_toArray]
        omega
      refine Ev.congr (f := fun k => spec_TextOf.l0 k ⟨(txTL (ks.take (j + 1))).toArray⟩ ks (ks.length : Int) ((j + 1 : Nat) : Int)) (fun k => ?_) (text_l0 ks hl hs ih n (j + 1) (by omega))
      rw [if_pos hsz, arr_app, e1]
theorem txTL_mem {ks : List T} {y : T} (h : y ∈ ks) : (txT y).length ≤ (txTL ks).length := by
  induction ks with
  | nil => simp at h
  | cons k ks ih =>
    rw [txTL, List.length_append]
    rcases List.mem_cons.1 h with e | e
    · rw [e]; omega
    · have := ih e; omega
theorem text_ev (t : T) : Fit t → (txT t).length ≤ 1099511627776 → Ev (fun k => spec_TextOf.f k t.f0 t.f1 t.f2 t.f3 t.f4) ⟨(txT t).toArray⟩ := by
  induction t using T_induct with
  | h t ih =>
    intro hf hs
    rw [txT_eq] at hs ⊢
    by_cases h1 : t.f0 = 1
    · rw [if_pos h1]
      refine Ev.step (f := fun _ => some t.f2) (fun k => ?_) (by
        have : (⟨(t.f2.data.toList).toArray⟩ : ByteArray) = t.f2 := by rw [Array.toArray_toList]
        rw [this]
        exact Ev.now _)
      rw [spec_TextOf.f, if_pos h1]
    · rw [if_neg h1] at hs ⊢
      refine Ev.step (f := fun k => spec_TextOf.l0 k (⟨#[]⟩ : ByteArray) t.f4 (t.f4.length : Int) ((0 : Nat) : Int)) (fun k => ?_) ?_
      · rw [spec_TextOf.f, if_neg h1]
        rfl
      · exact text_l0 t.f4 (fit_len hf) hs (fun y hy => ih y hy (fit_kid hf hy) (Nat.le_trans (txTL_mem hy) hs)) t.f4.length 0 (by omega)
/-! ### A tree is itself -/
theorem same_l1 (u : T) (hk : u.f4.length ≤ 4398046510976) (ih : ∀ y ∈ u.f4, Ev (fun k => spec_SameTree.f k y.f0 y.f1 y.f2 y.f3 y.f4 y.f0 y.f1 y.f2 y.f3 y.f4) true) : ∀ (n j : Nat), u.f4.length = j + n →
    Ev (fun k => spec_SameTree.l1 k (u.f4.length : Int) (j : Int) u.f0 u.f1 u.f2 u.f3 u.f4 u.f0 u.f1 u.f2 u.f3 u.f4) true := by
  intro n
  induction n with
  | zero =>
    intro j hj
    refine Ev.step (f := fun _ => some true) (fun k => ?_) (Ev.now _)
    simp only [spec_SameTree.l1]
    rw [if_neg (by omega)]
  | succ n ihn =>
    intro j hj
    have hlt : j < u.f4.length := by omega
    refine Ev.step (f := fun k => (spec_SameTree.f k u.f4[j].f0 u.f4[j].f1 u.f4[j].f2 u.f4[j].f3 u.f4[j].f4 u.f4[j].f0 u.f4[j].f1 u.f4[j].f2 u.f4[j].f3 u.f4[j].f4).bind fun b => if b = true then spec_SameTree.l1 k (u.f4.length : Int) ((j + 1 : Nat) : Int) u.f0 u.f1 u.f2 u.f3 u.f4 u.f0 u.f1 u.f2 u.f3 u.f4 else some false) (fun k => ?_) ?_
    · simp only [spec_SameTree.l1]
      rw [if_pos (by omega), if_pos (by omega), if_pos (by omega), if_pos (by omega), rd_at u.f4 hlt, succ_wrap j (by omega)]
    · refine Ev.bind (ih _ (List.getElem_mem hlt)) ?_
      simpa using ihn (j + 1) (by omega)
theorem same_l0 (u : T) (ha : u.f3.length ≤ 4398046510976) (h1 : Ev (fun k => spec_SameTree.l1 k (u.f4.length : Int) ((0 : Nat) : Int) u.f0 u.f1 u.f2 u.f3 u.f4 u.f0 u.f1 u.f2 u.f3 u.f4) true) : ∀ (n j : Nat), u.f3.length = j + n →
    Ev (fun k => spec_SameTree.l0 k (u.f3.length : Int) (j : Int) u.f0 u.f1 u.f2 u.f3 u.f4 u.f0 u.f1 u.f2 u.f3 u.f4) true := by
  intro n
  induction n with
  | zero =>
    intro j hj
    refine Ev.step (f := fun k => spec_SameTree.l1 k (u.f4.length : Int) ((0 : Nat) : Int) u.f0 u.f1 u.f2 u.f3 u.f4 u.f0 u.f1 u.f2 u.f3 u.f4) (fun k => ?_) h1
    simp only [spec_SameTree.l0]
    rw [if_neg (by omega)]
    rfl
  | succ n ihn =>
    intro j hj
    refine Ev.step (f := fun k => spec_SameTree.l0 k (u.f3.length : Int) ((j + 1 : Nat) : Int) u.f0 u.f1 u.f2 u.f3 u.f4 u.f0 u.f1 u.f2 u.f3 u.f4) (fun k => ?_) (ihn (j + 1) (by omega))
    simp only [spec_SameTree.l0]
    rw [if_pos (by omega), if_pos (by omega), if_pos (by omega), if_pos (by omega), succ_wrap j (by omega)]
    simp
theorem same_ev (u : T) : Fit u → Ev (fun k => spec_SameTree.f k u.f0 u.f1 u.f2 u.f3 u.f4 u.f0 u.f1 u.f2 u.f3 u.f4) true := by
  induction u using T_induct with
  | h u ih =>
    intro hf
    have h1 := same_l1 u (fit_len hf) (fun y hy => ih y hy (fit_kid hf hy)) u.f4.length 0 (by omega)
    have h0 := same_l0 u (fit_len3 hf) h1 u.f3.length 0 (by omega)
    refine Ev.step (f := fun k => spec_SameTree.j0 k false u.f0 u.f1 u.f2 u.f3 u.f4 u.f0 u.f1 u.f2 u.f3 u.f4) (fun k => ?_) ?_
    · simp [spec_SameTree.f]
    · refine Ev.step (f := fun k => spec_SameTree.l0 k (u.f3.length : Int) ((0 : Nat) : Int) u.f0 u.f1 u.f2 u.f3 u.f4 u.f0 u.f1 u.f2 u.f3 u.f4) (fun k => ?_) h0
      simp only [spec_SameTree.j0]
      rw [if_neg (by simp)]
      rfl
/-! ### What stands within what -/
theorem named_ev (l : List ByteArray) (hl : l.length ≤ 4611686018427387904) (s : ByteArray) : Ev (fun k => spec_Named.f k l s) (l.any fun x => x.toList == s.toList) := ⟨l.length + 1, fun k hk => named_f l hl s k (by omega)⟩
theorem any_swap (l : List ByteArray) (s : ByteArray) : (l.any fun x => x.toList == s.toList) = l.any fun x => s.toList == x.toList := by
  congr 1
  funext x
  exact Bool.eq_iff_iff.2 ⟨fun h => beq_iff_eq.2 (beq_iff_eq.1 h).symm, fun h => beq_iff_eq.2 (beq_iff_eq.1 h).symm⟩
theorem isT_ev (names : List ByteArray) (hl : names.length ≤ 4611686018427387904) (t : T) {α : Type} (g : Nat → Bool → Option α) (r : α) (h : Ev (fun k => g k (isT names t)) r) :
    Ev (fun k => if t.f0 = 0 then (spec_Named.f k names t.f1).bind fun b => g k b else g k false) r := by
  by_cases h0 : t.f0 = 0
  · refine Ev.congr (f := fun k => (spec_Named.f k names t.f1).bind fun b => g k b) (fun k => by rw [if_pos h0]) ?_
    refine Ev.bind (named_ev names hl t.f1) ?_
    have : isT names t = names.any fun x => x.toList == t.f1.toList := by unfold isT; rw [h0, any_swap]; rfl
    rw [← this]
    exact h
  · refine Ev.congr (f := fun k => g k false) (fun k => by rw [if_neg h0]) ?_
    have : isT names t = false := by unfold isT; rw [beq_eq_false_iff_ne.2 h0]; rfl
    rw [← this]
    exact h
end Go.Proofs.Ytmfjbljdbkmkgaa.PDom

/- White space to one blank a run, as plain data. -/
namespace Go.Proofs.Ytmfjbljdbkmkgaa.Blank
set_option linter.unusedVariables false
set_option linter.unusedSimpArgs false

def ws (c : Int) : Bool := decide (c = 32) || decide (c = 13) || decide (c = 10) || decide (c = 9)
/-- Runs of white space are one blank; b: whether white space stands right ahead. -/
def norm : Bool → List Int → List Int
  | _, [] => []
  | b, c :: l => if ws c = true then (if b = true then norm true l else 32 :: norm true l) else c :: norm false l
def endW : Bool → List Int → Bool
  | b, [] => b
  | _, c :: l => endW (ws c) l
theorem norm_append (l m : List Int) : ∀ b, norm b (l ++ m) = norm b l ++ norm (endW b l) m := by
  induction l with
  | nil => intro b; rfl
  | cons c l ih =>
    intro b
    rw [List.cons_append]
    simp only [norm, endW]
    cases hw : ws c with
    | true =>
      simp only [if_true]
      rw [ih true]
      cases b with
      | true => simp
      | false => simp
    | false => simp [ih false]
theorem endW_append (l m : List Int) : ∀ b, endW b (l ++ m) = endW (endW b l) m := by
  induction l with
  | nil => intro b; rfl
  | cons c l ih => intro b; exact ih _
theorem norm_ws (l : List Int) (h : ∀ c ∈ l, ws c = true) : norm true l = [] := by
  induction l with
  | nil => rfl
  | cons c l ih =>
    simp only [norm]
    rw [if_pos (h c List.mem_cons_self), if_pos trivial]
    exact ih (fun x hx => h x (List.mem_cons_of_mem _ hx))
theorem norm_run (l : List Int) (h : ∀ c ∈ l, ws c = true) (hne : l ≠ []) : norm false l = [32] := by
  cases l with
  | nil => exact absurd rfl hne
  | cons c l =>
    simp only [norm]
    rw [if_pos (h c List.mem_cons_self), if_neg (by simp), norm_ws l (fun x hx => h x (List.mem_cons_of_mem _ hx))]
theorem endW_run (l : List Int) (h : ∀ c ∈ l, ws c = true) (hne : l ≠ []) : ∀ b, endW b l = true := by
  induction l with
  | nil => exact absurd rfl hne
  | cons c l ih =>
    intro b
    show endW (ws c) l = true
    rw [h c List.mem_cons_self]
    cases l with
    | nil => rfl
    | cons d l => exact ih (fun x hx => h x (List.mem_cons_of_mem _ hx)) (by simp) true
open Go.Proofs.YtmfjbljdbkmkgaaW.PrintWords in
theorem bt_nth (s : ByteArray) (j : Nat) (h : j < s.size) : (bytesOf s)[j]? = some (bt s (j : Int)) := by
  have h2 : j < s.data.toList.length := by rw [Array.length_toList]; exact h
  unfold bytesOf
  rw [List.getElem?_map, List.getElem?_eq_getElem h2, ← bt_at s (j : Int) (by simpa using h)]
  simp
  rfl
end Go.Proofs.Ytmfjbljdbkmkgaa.Blank

/- replaceAnyWhitespaceWithSpace: white space to one blank a run. -/
namespace Go.Proofs.Ytmfjbljdbkmkgaa.Blank
open Go.RowKit Go.Proofs.YtmfjbljdbkmkgaaW.PrintWords Go.Proofs.YtmfjbljdbkmkgaaW.PrintLast Go.Proofs.YtmfjbljdbkmkgaaW.PrintMore
set_option linter.unusedVariables false
set_option linter.unusedSimpArgs false

theorem infoU8 : (Try.prog.info? 5).map (fun i => (i.zero, i.size, i.bytes)) = some (some (.int .u8 0), 1, 1) := by kernel_rfl
theorem own_slice {w : World} {base e size n : Nat} {v : Value} {xs : List Value} (h : w.ownsRow base e size v n xs) : ∃ A c, v = .slice A n c := by
  rcases h.2 with ⟨rfl, hn⟩ | ⟨g, cap, cur, rfl, _⟩
  · exact ⟨none, 0, by rw [hn]⟩
  · exact ⟨_, _, rfl⟩
structure Bx (w0 : World) (gs gr : Nat) (s : ByteArray) (wr : World) (v : Value) (R : List Int) : Prop where
  src : wr.heap[gs]? = some (.cells #[.string s] 9 (0, 0))
  box : wr.heap[gr]? = some (.cells #[v] 58 (0, 0))
  own : wr.ownsRow w0.heap.size 5 1 v R.length (nums .u8 R)
  below : Below w0.heap.size w0 wr
theorem Bx.apart {w0 : World} {gs gr : Nat} {s : ByteArray} {wr : World} {v : Value} {R : List Int} (h : Bx w0 gs gr s wr v R) {k : Nat} (hk : v.ownBlock = some k) : k ≠ gs ∧ k ≠ gr := by
  obtain ⟨cells, hc⟩ := own_typed h.own k hk
  refine ⟨fun e => ?_, fun e => ?_⟩
  · rw [e, h.src] at hc
    cases hc
  · rw [e, h.box] at hc
    cases hc
theorem Bx.drewN {w0 : World} {gs gr : Nat} {s : ByteArray} {wr : World} {v : Value} {R : List Int} (h : Bx w0 gs gr s wr v R) (n : Nat) : Bx w0 gs gr s (wr.drewN n) v R :=
  ⟨h.src, h.box, h.own, pw_below_drewN h.below n⟩
/-- An append to the row, and the store of what it is now. -/
theorem Bx.grow {w0 : World} {gs gr : Nat} {s : ByteArray} {wr w1 : World} {v v1 : Value} {R R1 : List Int} (h : Bx w0 gs gr s wr v R) (hne : gs ≠ gr) (hgr : w0.heap.size ≤ gr) (ho : w1.ownsRow w0.heap.size 5 1 v1 R1.length (nums .u8 R1)) (hb : Below w0.heap.size w0 w1) (hg : wr.grownBy w1 v.ownBlock) :
    Bx w0 gs gr s (w1.setCell ⟨gr, 0, none⟩ v1) v1 R1 := by
  have e1 : w1.heap[gs]? = some (.cells #[.string s] 9 (0, 0)) := (hg.block gs (blk_lt h.src) (fun e => (h.apart e.symm).1 rfl)).trans h.src
  have e2 : w1.heap[gr]? = some (.cells #[v] 58 (0, 0)) := (hg.block gr (blk_lt h.box) (fun e => (h.apart e.symm).2 rfl)).trans h.box
  refine ⟨blk_far e1 hne _, blk_set e2 0 _, own_move ho (fun k hk => ?_), Below.setCell hb hgr _⟩
  obtain ⟨cells, hc⟩ := own_typed ho k hk
  exact Below.heap_setCell w1 _ _ k (fun e => by
    obtain rfl : k = gr := e
    rw [e2] at hc
    cases hc)
theorem Bx.boxed {w0 : World} {gs gr : Nat} {s : ByteArray} {wr w1 : World} {v : Value} {R : List Int} (h : Bx w0 gs gr s wr v R) (hg : wr.grownBy w1 v.ownBlock) :
    w1.cell? ⟨gr, 0, none⟩ = some v ∧ w1.frozen? ⟨gr, 0, none⟩ = false ∧ w1.cell? ⟨gs, 0, none⟩ = some (.string s) := by
  have e1 : w1.heap[gs]? = some (.cells #[.string s] 9 (0, 0)) := (hg.block gs (blk_lt h.src) (fun e => (h.apart e.symm).1 rfl)).trans h.src
  have e2 : w1.heap[gr]? = some (.cells #[v] 58 (0, 0)) := (hg.block gr (blk_lt h.box) (fun e => (h.apart e.symm).2 rfl)).trans h.box
  exact ⟨blk_cell e2 0, blk_frozen e2 0, blk_cell e1 0⟩
theorem Bx.cells {w0 : World} {gs gr : Nat} {s : ByteArray} {wr : World} {v : Value} {R : List Int} (h : Bx w0 gs gr s wr v R) :
    wr.cell? ⟨gr, 0, none⟩ = some v ∧ wr.frozen? ⟨gr, 0, none⟩ = false ∧ wr.cell? ⟨gs, 0, none⟩ = some (.string s) :=
  ⟨blk_cell h.box 0, blk_frozen h.box 0, blk_cell h.src 0⟩
theorem make_some (w0 wr : World) (gs gr g : Nat) (s : ByteArray) (n c : Nat) (R : List Int) (h : Bx w0 gs gr s wr (.slice (some ⟨g, 0, none⟩) n c) R) :
    Calls Try.prog 115 #[.pointer (some ⟨gr, 0, none⟩), .pointer (some ⟨gs, 0, none⟩)] wr fun e w' => e = .returned (.tuple #[]) ∧ w' = wr := by
  have hcb : wr.cell? ⟨gr, 0, none⟩ = some (.slice (some ⟨g, 0, none⟩) n c) := blk_cell h.box 0
  have hnil := fun (w : World) => Lib.run_eql_slice_nil (P := Try.prog) w 58 5 (some ⟨g, 0, none⟩) n c 0 0 Try.underlying58
  clear h
  go_enter Try.func115, Try.ntmps115
  go_wp2_with fail
  go_end0
  exact ⟨rfl, rfl⟩
theorem make_none (w0 wr : World) (gs gr : Nat) (s : ByteArray) (hs : s.size ≤ 2147483647) (hne : gs ≠ gr) (hgr : w0.heap.size ≤ gr) (h : Bx w0 gs gr s wr (.slice none 0 0) []) :
    Calls Try.prog 115 #[.pointer (some ⟨gr, 0, none⟩), .pointer (some ⟨gs, 0, none⟩)] wr fun e w' => e = .returned (.tuple #[]) ∧ ∃ g c, Bx w0 gs gr s w' (.slice (some ⟨g, 0, none⟩) 0 c) [] := by
  obtain ⟨w1, hmk, ho1, hg1⟩ := run_make_own (P := Try.prog) wr w0.heap.size 58 5 (Try.prog.info? 5).get! (.int .u8 0) 1 Try.underlying58 (by kernel_rfl) (by kernel_rfl) (by kernel_rfl) .i64 .i64 s.size (by rw [show ((Try.prog.info? 5).get!).bytes = 1 from by kernel_rfl]; omega) (by simp only [maxLen]; omega) h.below.size
  have hcb : wr.cell? ⟨gr, 0, none⟩ = some (.slice none 0 0) := blk_cell h.box 0
  have hcs : wr.cell? ⟨gs, 0, none⟩ = some (.string s) := blk_cell h.src 0
  have hnil := fun (w : World) => Lib.run_eql_slice_nil (P := Try.prog) w 58 5 none 0 0 0 0 Try.underlying58
  have HG := Aside0.mk (h.grow (R1 := []) hne hgr ho1 (Below.grown h.below hg1 h.below.size (fun _ h => by cases h)) (by simpa [Value.ownBlock] using hg1))
  have hb1 : w1.heap[gr]? = some (.cells #[.slice none 0 0] 58 (0, 0)) := (hg1.block gr (blk_lt h.box) (by simp)).trans h.box
  have hcb1 : w1.cell? ⟨gr, 0, none⟩ = some (.slice none 0 0) := blk_cell hb1 0
  have hfb1 := blk_frozen hb1 0
  clear h ho1 hg1 hb1
  go_enter Try.func115, Try.ntmps115
  go_wp2_with fail
  go_end0
  exact ⟨rfl, _, _, HG.out⟩
theorem make_calls (w0 wr : World) (gs gr : Nat) (s : ByteArray) (v : Value) (R : List Int) (hs : s.size ≤ 2147483647) (hne : gs ≠ gr) (hgr : w0.heap.size ≤ gr) (h : Bx w0 gs gr s wr v R) :
    Calls Try.prog 115 #[.pointer (some ⟨gr, 0, none⟩), .pointer (some ⟨gs, 0, none⟩)] wr fun e w' => e = .returned (.tuple #[]) ∧ ∃ g c, Bx w0 gs gr s w' (.slice (some ⟨g, 0, none⟩) R.length c) R := by
  rcases h.own.2 with ⟨rfl, hn⟩ | ⟨g, cap, cur, rfl, _⟩
  · obtain rfl : R = [] := List.eq_nil_of_length_eq_zero hn
    exact make_none w0 wr gs gr s hs hne hgr h
  · refine (make_some w0 wr gs gr g s _ _ R h).mono ?_
    rintro e w' ⟨rfl, rfl⟩
    exact ⟨rfl, g, cap, h⟩
end Go.Proofs.Ytmfjbljdbkmkgaa.Blank

/- The states of replaceAnyWhitespaceWithSpace's loop, as plain data. -/
namespace Go.Proofs.Ytmfjbljdbkmkgaa.Blank
set_option linter.unusedVariables false
set_option linter.unusedSimpArgs false

def seg (l : List Int) (a b : Nat) : List Int := (l.take b).drop a
theorem seg_succ {l : List Int} {a b : Nat} (h : a ≤ b) (hb : b < l.length) : seg l a (b + 1) = seg l a b ++ [l[b]] := by
  unfold seg
  rw [List.take_succ_eq_append_getElem hb, List.drop_append_of_le_length (by rw [List.length_take]; omega)]
theorem seg_self (l : List Int) (a : Nat) : seg l a a = [] := by
  unfold seg
  rw [List.drop_eq_nil_of_le (by rw [List.length_take]; omega)]
theorem seg_split {l : List Int} {a b : Nat} (h : a ≤ b) : l.take b = l.take a ++ seg l a b := by
  unfold seg
  rw [show l.take a = (l.take b).take a from by rw [List.take_take, Nat.min_eq_left h], List.take_append_drop]
structure St (l : List Int) (sn : Nat) (sm : Option Nat) (i : Nat) (R : List Int) : Prop where
  sni : sn ≤ i
  none_ : sm = none → R ++ seg l sn i = norm false (l.take i) ∧ endW false (l.take i) = false
  some_ : ∀ m, sm = some m → sn ≤ m ∧ m < i ∧ R ++ seg l sn m = norm false (l.take m) ∧ endW false (l.take m) = false ∧ ∀ c ∈ seg l m i, ws c = true
theorem St.start (l : List Int) : St l 0 none 0 [] := ⟨Nat.le_refl _, fun _ => ⟨by simp [seg, norm], by simp [endW]⟩, fun m h => by cases h⟩
theorem St.first {l : List Int} {sn i : Nat} {R : List Int} (h : St l sn none i R) (hi : i < l.length) (hw : ws l[i] = true) : St l sn (some i) (i + 1) R := by
  obtain ⟨h1, h2⟩ := h.none_ rfl
  refine ⟨by have := h.sni; omega, fun e => (by cases e), fun m e => ?_⟩
  obtain rfl := Option.some.inj e
  refine ⟨h.sni, by omega, h1, h2, fun c hc => ?_⟩
  rw [seg_succ (Nat.le_refl _) hi, seg_self, List.nil_append] at hc
  rw [List.mem_singleton.1 hc]
  exact hw
theorem St.more {l : List Int} {sn m i : Nat} {R : List Int} (h : St l sn (some m) i R) (hi : i < l.length) (hw : ws l[i] = true) : St l sn (some m) (i + 1) R := by
  obtain ⟨h1, h2, h3, h4, h5⟩ := h.some_ m rfl
  refine ⟨by have := h.sni; omega, fun e => (by cases e), fun m' e => ?_⟩
  obtain rfl := Option.some.inj e
  refine ⟨h1, by omega, h3, h4, fun c hc => ?_⟩
  rw [seg_succ (by omega) hi] at hc
  rcases List.mem_append.1 hc with hc | hc
  · exact h5 c hc
  · rw [List.mem_singleton.1 hc]
    exact hw
theorem norm_one {c : Int} (hc : ws c = false) (b : Bool) : norm b [c] = [c] ∧ endW b [c] = false := by
  constructor
  · simp [norm, hc]
  · simpa [endW] using hc
theorem St.plain {l : List Int} {sn i : Nat} {R : List Int} (h : St l sn none i R) (hi : i < l.length) (hw : ws l[i] = false) : St l sn none (i + 1) R := by
  obtain ⟨h1, h2⟩ := h.none_ rfl
  refine ⟨by have := h.sni; omega, fun _ => ?_, fun m e => by cases e⟩
  rw [seg_succ h.sni hi, ← List.append_assoc, h1, List.take_succ_eq_append_getElem hi, norm_append, endW_append, (norm_one hw _).1, (norm_one hw _).2]
  exact ⟨rfl, rfl⟩
/-- What stands ahead of place i, where white space stands from m on. -/
theorem St.norm_at {l : List Int} {sn m i : Nat} {R : List Int} (h : St l sn (some m) i R) (hi : i ≤ l.length) : norm false (l.take i) = R ++ seg l sn m ++ [32] ∧ endW false (l.take i) = true := by
  obtain ⟨h1, h2, h3, h4, h5⟩ := h.some_ m rfl
  have hne : seg l m i ≠ [] := by
    unfold seg
    intro e
    have := congrArg List.length e
    simp at this
    omega
  rw [seg_split (l := l) (Nat.le_of_lt h2), norm_append, endW_append, h4, norm_run _ h5 hne, endW_run _ h5 hne, h3]
  exact ⟨rfl, rfl⟩
theorem St.same {l : List Int} {sn m i : Nat} {R : List Int} (h : St l sn (some m) i R) (hi : i < l.length) (hw : ws l[i] = false) (hm : i = m + 1) (hb : l[m]? = some 32) : St l sn none (i + 1) R := by
  obtain ⟨e1, e2⟩ := h.norm_at (Nat.le_of_lt hi)
  obtain ⟨h1, h2, h3, h4, h5⟩ := h.some_ m rfl
  refine ⟨by have := h.sni; omega, fun _ => ?_, fun m e => by cases e⟩
  subst hm
  have hml : m < l.length := by omega
  have hb' : l[m] = 32 := by rw [List.getElem?_eq_getElem hml] at hb; exact Option.some.inj hb
  rw [seg_succ h.sni hi, seg_succ h1 hml, hb', List.take_succ_eq_append_getElem hi, norm_append, endW_append, e1, (norm_one hw _).1, (norm_one hw _).2]
  exact ⟨by simp, rfl⟩
theorem St.turn {l : List Int} {sn m i : Nat} {R : List Int} (h : St l sn (some m) i R) (hi : i < l.length) (hw : ws l[i] = false) : St l i none (i + 1) (R ++ seg l sn m ++ [32]) := by
  obtain ⟨e1, e2⟩ := h.norm_at (Nat.le_of_lt hi)
  refine ⟨by omega, fun _ => ?_, fun m e => by cases e⟩
  rw [seg_succ (Nat.le_refl _) hi, seg_self, List.nil_append, List.take_succ_eq_append_getElem hi, norm_append, endW_append, e1, (norm_one hw _).1, (norm_one hw _).2]
  exact ⟨rfl, rfl⟩
theorem St.firstG {l : List Int} {sn i : Nat} {R : List Int} {c : Int} (h : St l sn none i R) (hg : l[i]? = some c) (hw : ws c = true) : St l sn (some i) (i + 1) R := by
  obtain ⟨hi, rfl⟩ := List.getElem?_eq_some_iff.1 hg
  exact h.first hi hw
theorem St.moreG {l : List Int} {sn m i : Nat} {R : List Int} {c : Int} (h : St l sn (some m) i R) (hg : l[i]? = some c) (hw : ws c = true) : St l sn (some m) (i + 1) R := by
  obtain ⟨hi, rfl⟩ := List.getElem?_eq_some_iff.1 hg
  exact h.more hi hw
theorem St.plainG {l : List Int} {sn i : Nat} {R : List Int} {c : Int} (h : St l sn none i R) (hg : l[i]? = some c) (hw : ws c = false) : St l sn none (i + 1) R := by
  obtain ⟨hi, rfl⟩ := List.getElem?_eq_some_iff.1 hg
  exact h.plain hi hw
theorem St.sameG {l : List Int} {sn m i : Nat} {R : List Int} {c : Int} (h : St l sn (some m) i R) (hg : l[i]? = some c) (hw : ws c = false) (hm : i = m + 1) (hb : l[m]? = some 32) : St l sn none (i + 1) R := by
  obtain ⟨hi, rfl⟩ := List.getElem?_eq_some_iff.1 hg
  exact h.same hi hw hm hb
theorem St.turnG {l : List Int} {sn m i : Nat} {R : List Int} {c : Int} (h : St l sn (some m) i R) (hg : l[i]? = some c) (hw : ws c = false) : St l i none (i + 1) (R ++ seg l sn m ++ [32]) := by
  obtain ⟨hi, rfl⟩ := List.getElem?_eq_some_iff.1 hg
  exact h.turn hi hw
open Go.RowKit Go.Proofs.YtmfjbljdbkmkgaaW.PrintWords Go.Proofs.YtmfjbljdbkmkgaaW.PrintLast in
theorem wrap_n {i n : Nat} (hn : n ≤ 2147483647) (hi : i < n) : wrap64 ((i : Int) + 1) = ((i + 1 : Nat) : Int) := by
  unfold wrap64
  omega
theorem norm_len (l : List Int) : ∀ b, (norm b l).length ≤ l.length := by
  induction l with
  | nil => intro b; exact Nat.le_refl _
  | cons c l ih =>
    intro b
    have h1 := ih true
    have h2 := ih false
    simp only [norm]
    split
    · split
      · rw [List.length_cons]; omega
      · rw [List.length_cons, List.length_cons]; omega
    · rw [List.length_cons, List.length_cons]; omega
theorem St.len_some {l : List Int} {sn m i : Nat} {R : List Int} (h : St l sn (some m) i R) : R.length + (seg l sn m).length ≤ l.length := by
  obtain ⟨h1, h2, h3, h4, h5⟩ := h.some_ m rfl
  have h6 := congrArg List.length h3
  rw [List.length_append] at h6
  rw [h6]
  refine Nat.le_trans (norm_len _ _) ?_
  rw [List.length_take]
  exact Nat.min_le_right _ _
theorem St.len_none {l : List Int} {sn i : Nat} {R : List Int} (h : St l sn none i R) : R.length + (seg l sn i).length ≤ l.length := by
  obtain ⟨h3, h4⟩ := h.none_ rfl
  have h6 := congrArg List.length h3
  rw [List.length_append] at h6
  rw [h6]
  refine Nat.le_trans (norm_len _ _) ?_
  rw [List.length_take]
  exact Nat.min_le_right _ _
theorem St.end_b {l : List Int} {sn : Nat} {R : List Int} (h : St l sn none l.length R) : norm false l = R ++ seg l sn l.length := by
  have := (h.none_ rfl).1
  rw [List.take_length] at this
  exact this.symm
theorem St.end_a {l : List Int} (h : St l 0 none l.length []) : norm false l = l := by
  rw [h.end_b]
  simp [seg]
theorem St.end_d {l : List Int} {sn m : Nat} {R : List Int} (h : St l sn (some m) l.length R) : norm false l = R ++ seg l sn m ++ [32] := by
  have := (h.norm_at (Nat.le_refl _)).1
  rw [List.take_length] at this
  exact this
theorem St.end_c {l : List Int} {m : Nat} (h : St l 0 (some m) l.length []) (hm : l.length = m + 1) (hb : l[m]? = some 32) : norm false l = l := by
  rw [h.end_d]
  obtain ⟨hi, hb⟩ := List.getElem?_eq_some_iff.1 hb
  conv => rhs; rw [← List.take_length (l := l), hm, List.take_succ_eq_append_getElem hi, hb]
  simp [seg]
theorem norm_pos {l : List Int} (h : 0 < l.length) : 0 < (norm false l).length := by
  cases l with
  | nil => cases h
  | cons c l =>
    simp only [norm]
    split
    · rw [if_neg (by simp)]
      exact Nat.succ_pos _
    · exact Nat.succ_pos _
end Go.Proofs.Ytmfjbljdbkmkgaa.Blank

/- replaceAnyWhitespaceWithSpace: the walk. -/
namespace Go.Proofs.Ytmfjbljdbkmkgaa.Blank
open Go.RowKit Go.Proofs.YtmfjbljdbkmkgaaW.PrintWords Go.Proofs.YtmfjbljdbkmkgaaW.PrintLast Go.Proofs.YtmfjbljdbkmkgaaW.PrintMore
set_option linter.unusedVariables false
set_option linter.unusedSimpArgs false

def smV : Option Nat → Int
  | none => -1
  | some m => (m : Int)
/-- The row is there exactly behind a first turn. -/
def Rows1 (sn : Nat) (v : Value) (R : List Int) : Prop := (sn = 0 ∧ v = .slice none 0 0 ∧ R = []) ∨ (0 < sn ∧ ∃ g c, v = .slice (some ⟨g, 0, none⟩) R.length c)
theorem start_bx (w : World) (s : ByteArray) : Bx w w.heap.size (w.heap.size + 1) s ((w.alloc (.cells #[.string s] 9)).alloc (.cells #[.slice none 0 0] 58)) (.slice none 0 0) [] := by
  refine ⟨blk_alloc (blk_new w _) _, ?_, ⟨rfl, .inl ⟨rfl, rfl⟩⟩, below_alloc (below_alloc (Below.refl _ _) _) _⟩
  have := blk_new (w.alloc (.cells #[.string s] 9)) (.cells #[.slice none 0 0] 58)
  rw [show (w.alloc (.cells #[.string s] 9)).heap.size = w.heap.size + 1 from Array.size_push _] at this
  exact this
theorem ret_str {a b : ByteArray} (h : a = b) : Ending.returned (.string a) = Ending.returned (.string b) := by rw [h]
theorem slice_part (a0 : ByteArray) (sn m : Nat) (y : Int) (hy : y = (m : Int)) (h1 : sn ≤ m) (h2 : m ≤ a0.size) :
    ∃ q, bytesOf q = seg (bytesOf a0) sn m ∧ q.size = (seg (bytesOf a0) sn m).length ∧ ∀ W, (Instr.slice 9 (.string a0) (some (.int .i64 (sn : Int))) (some (.int .i64 y)) none).run Try.prog W = .ok (.string q) W := by
  subst hy
  have e : bytesOf (a0.extract sn m) = seg (bytesOf a0) sn m := by rw [Txt.bytes_extract]; rfl
  refine ⟨a0.extract sn m, e, by rw [← e, bytesOf_length], fun W => ?_⟩
  rw [run_slice_string W 9 a0 .i64 .i64 (sn : Int) (m : Int) Try.underlying9 (by omega) (by omega) (by omega)]
  rfl
theorem slice_tail (a0 : ByteArray) (sn : Nat) (h1 : sn ≤ a0.size) :
    ∃ q, bytesOf q = seg (bytesOf a0) sn (bytesOf a0).length ∧ q.size = (seg (bytesOf a0) sn (bytesOf a0).length).length ∧ ∀ W, (Instr.slice 9 (.string a0) (some (.int .i64 (sn : Int))) none none).run Try.prog W = .ok (.string q) W := by
  have e : bytesOf (a0.extract sn a0.size) = seg (bytesOf a0) sn (bytesOf a0).length := by rw [Txt.bytes_extract, bytesOf_length]; rfl
  refine ⟨a0.extract sn a0.size, e, by rw [← e, bytesOf_length], fun W => ?_⟩
  rw [run_slice_string_l W 9 a0 Try.underlying9 .i64 (sn : Int) (by omega) (by omega)]
  rfl
set_option maxHeartbeats 4000000 in
set_option maxRecDepth 100000 in
theorem blank_calls (a0 : ByteArray) (w : World) (hs : a0.size ≤ 2147483647) (hne : a0.size ≠ 0) :
    Calls Try.prog 81 #[.string a0] w fun e w' => e = .returned (.string (strOfNums (norm false (bytesOf a0)))) ∧ Below w.heap.size w w' := by
  have hmf : ∀ (fn : Fn) (first cap : Array Value) (w : World), (Instr.makeFunc fn first cap).run Try.prog w = .ok (.func fn first cap) w := fun _ _ _ _ => rfl
  have hl64 : a0.size ≤ 9223372036854775807 := by omega
  have hnl : ¬ a0.toList = [] := fun h => hne (by
    rw [ByteArray.toList_eq] at h
    show a0.data.size = 0
    rw [← Array.length_toList, h]
    rfl)
  have n0 : decide (a0.toList = []) = false := decide_eq_false hnl
  have n1 : (a0.toList == []) = false := beq_eq_false_iff_ne.2 hnl
  have HS := Aside0.mk hs
  have HNE := Aside0.mk hne
  clear hs hne
  go_enter Try.func81, Try.ntmps81
  go_wp2_with fail
  go_loopw [5, 6, 7] (fun v5 v6 v7 wr => ∃ (sn i : Nat) (sm : Option Nat) (v : Value) (R : List Int), v5 = .int .i64 (sn : Int) ∧ v6 = .int .i64 (smV sm) ∧ v7 = .int .i64 (i : Int) ∧ i ≤ a0.size ∧ Aside0 (Bx w w.heap.size (w.heap.size + 1) a0 wr v R) ∧ Aside0 (Rows1 sn v R) ∧ Aside0 (St (bytesOf a0) sn sm i R)) (fun _ _ i _ => a0.size - (intOf i).toNat)
  case atStart =>
    refine ⟨0, 0, none, .slice none 0 0, [], rfl, rfl, rfl, Nat.zero_le _, ⟨?_⟩, ⟨.inl ⟨rfl, rfl, rfl⟩⟩, ⟨St.start _⟩⟩
    exact start_bx w a0
  case round =>
    obtain ⟨sn, i, sm, v, R, rfl, rfl, rfl, hi, HX, HV, HT⟩ := hrel
    have hcs : wr.cell? ⟨w.heap.size, 0, none⟩ = some (.string a0) := blk_cell HX.out.src 0
    by_cases hlt : i < a0.size
    · obtain ⟨x, hxi⟩ : ∃ x : Int, x = (i : Int) := ⟨_, rfl⟩
      have hx8 := bt_at a0 x
      rw [← hxi]
      have p8 : (0 ≤ x) = True := eq_true (by omega)
      have q8 : (x < (a0.size : Int)) = True := eq_true (by omega)
      have HXI := Aside0.mk hxi
      have HLT := Aside0.mk hlt
      have HI := Aside0.mk hi
      clear hxi hlt hi
      go_upto_region 10 with fail
      go_cut [8] (fun v8 wc => v8 = .bool (ws (bt a0 x)) ∧ wc = wr)
      case first =>
        by_cases h32 : bt a0 x = 32
        · have c32 := decide_eq_true h32
          have H32 := Aside0.mk h32
          have d32 : (bt a0 x == 32) = true := beq_iff_eq.2 h32
          clear h32
          go_wp2
          go_meet
          case rel => exact ⟨by simp [ws, H32.out], rfl⟩
        · have c32 := decide_eq_false h32
          have H32 := Aside0.mk h32
          have d32 : (bt a0 x == 32) = false := beq_eq_false_iff_ne.2 h32
          by_cases h13 : bt a0 x = 13
          · have c13 := decide_eq_true h13
            have H13 := Aside0.mk h13
            have d13 : (bt a0 x == 13) = true := beq_iff_eq.2 h13
            clear h32 h13
            go_wp2
            go_meet
            case rel => exact ⟨by simp [ws, H32.out, H13.out], rfl⟩
          · have c13 := decide_eq_false h13
            have H13 := Aside0.mk h13
            have d13 : (bt a0 x == 13) = false := beq_eq_false_iff_ne.2 h13
            by_cases h10 : bt a0 x = 10
            · have c10 := decide_eq_true h10
              have H10 := Aside0.mk h10
              have d10 : (bt a0 x == 10) = true := beq_iff_eq.2 h10
              clear h32 h13 h10
              go_wp2
              go_meet
              case rel => exact ⟨by simp [ws, H32.out, H13.out, H10.out], rfl⟩
            · have c10 := decide_eq_false h10
              have H10 := Aside0.mk h10
              have d10 : (bt a0 x == 10) = false := beq_eq_false_iff_ne.2 h10
              by_cases h9 : bt a0 x = 9
              · have c9 := decide_eq_true h9
                have H9 := Aside0.mk h9
                have d9 : (bt a0 x == 9) = true := beq_iff_eq.2 h9
                clear h32 h13 h10 h9
                go_wp2
                go_meet
                case rel => exact ⟨by simp [ws, H32.out, H13.out, H10.out, H9.out], rfl⟩
              · have c9 := decide_eq_false h9
                have H9 := Aside0.mk h9
                have d9 : (bt a0 x == 9) = false := beq_eq_false_iff_ne.2 h9
                clear h32 h13 h10 h9
                go_wp2
                go_meet
                case rel => exact ⟨by simp [ws, H32.out, H13.out, H10.out, H9.out], rfl⟩
      case rest =>
        obtain ⟨rfl, rfl⟩ := hcut
        have hget : (bytesOf a0)[i]? = some (bt a0 x) := by rw [HXI.out]; exact bt_nth a0 i HLT.out
        have HG := Aside0.mk hget
        clear hget
        cases hws : ws (bt a0 x) with
        | true =>
          have HWS := Aside0.mk hws
          clear hws
          cases sm with
          | none =>
            simp only [smV]
            go_wp2
            go_roundw
            case rel => exact ⟨sn, i + 1, some i, v, R, rfl, by rw [HXI.out]; rfl, by rw [HXI.out, wrap_n HS.out HLT.out], HLT.out, HX, HV, ⟨HT.out.firstG HG.out HWS.out⟩⟩
            case measure => rw [HXI.out, wrap_n HS.out HLT.out]; have := HLT.out; simp [intOf]; omega
          | some m =>
            simp only [smV]
            have e1 : ((m : Int) == -1) = false := beq_eq_false_iff_ne.2 (by omega)
            have e2 : decide ((m : Int) = -1) = false := decide_eq_false (by omega)
            go_wp2
            go_roundw
            case rel => exact ⟨sn, i + 1, some m, v, R, rfl, rfl, by rw [HXI.out, wrap_n HS.out HLT.out], HLT.out, HX, HV, ⟨HT.out.moreG HG.out HWS.out⟩⟩
            case measure => rw [HXI.out, wrap_n HS.out HLT.out]; have := HLT.out; simp [intOf]; omega
        | false =>
          have HWS := Aside0.mk hws
          clear hws
          cases sm with
          | none =>
            simp only [smV]
            go_wp2
            go_roundw
            case rel => exact ⟨sn, i + 1, none, v, R, rfl, rfl, by rw [HXI.out, wrap_n HS.out HLT.out], HLT.out, HX, HV, ⟨HT.out.plainG HG.out HWS.out⟩⟩
            case measure => rw [HXI.out, wrap_n HS.out HLT.out]; have := HLT.out; simp [intOf]; omega
          | some m =>
            simp only [smV]
            have e1 : ((m : Int) == -1) = false := beq_eq_false_iff_ne.2 (by omega)
            have e2 : decide ((m : Int) = -1) = false := decide_eq_false (by omega)
            have HMI := Aside0.mk (HT.out.some_ m rfl).2.1
            have HSM := Aside0.mk (HT.out.some_ m rfl).1
            obtain ⟨y, hym⟩ : ∃ y : Int, y = (m : Int) := ⟨_, rfl⟩
            rw [← hym] at e1 e2 ⊢
            have e3 : (y != -1) = true := by rw [bne, e1]; rfl
            have hy8 := bt_at a0 y
            have py : (0 ≤ y) = True := eq_true (by omega)
            have qy : (y < (a0.size : Int)) = True := eq_true (by have := HMI.out; have := HLT.out; omega)
            have HGM := Aside0.mk (show (bytesOf a0)[m]? = some (bt a0 y) by rw [hym]; exact bt_nth a0 m (by have := HMI.out; have := HLT.out; omega))
            have HYM := Aside0.mk hym
            clear hym
            by_cases hone : i = m + 1
            · have hsub : wrap64 (x - y) = 1 := by rw [HXI.out, HYM.out, hone]; unfold wrap64; omega
              have HONE := Aside0.mk hone
              clear hone
              by_cases hb : bt a0 y = 32
              · have c32 := decide_eq_true hb
                have d32 : (bt a0 y == 32) = true := beq_iff_eq.2 hb
                rw [hb] at HGM
                clear hb
                go_wp2_with fail
                go_roundw
                case rel => exact ⟨sn, i + 1, none, v, R, rfl, rfl, by rw [HXI.out, wrap_n HS.out HLT.out], HLT.out, HX, HV, ⟨HT.out.sameG HG.out HWS.out HONE.out HGM.out⟩⟩
                case measure => rw [HXI.out, wrap_n HS.out HLT.out]; have := HLT.out; simp [intOf]; omega
              · have c32 := decide_eq_false hb
                have d32 : (bt a0 y == 32) = false := beq_eq_false_iff_ne.2 hb
                clear hb
                obtain ⟨q, hqb, hqs, hsl⟩ := slice_part a0 sn m y HYM.out HSM.out (by have := HMI.out; have := HLT.out; omega)
                have HQB := Aside0.mk hqb
                have HQS := Aside0.mk hqs
                clear hqb hqs
                go_wp2_with (go_at_call 115; go_must (refine (make_calls w wc w.heap.size (w.heap.size + 1) a0 v R HS.out (by omega) (by omega) HX.out).mono ?_; rintro e w1 ⟨rfl, g1, c1, hb1⟩; have HB1 := Aside0.mk (hb1.drewN 1); obtain ⟨hr1, hf1, hs1⟩ := hb1.cells; clear hb1))
                go_still_tail 5, (by kernel_rfl)
                change wpList _ _ _ _ _ (w1.drewN 1)
                clear hsl hcs hr1 hf1 hs1
                generalize w1.drewN 1 = w2 at HB1 ⊢
                clear w1
                go_wp2_with (at_builtin; go_must (refine print_append_str (w0 := w) w.heap.size rfl (.tmp 68) (.tmp 72) 58 9 5 rfl Try.underlying58 Try.underlying9 infoU8 (.slice (some ⟨g1, 0, none⟩) R.length c1) R q rfl rfl HB1.out.own HB1.out.below HB1.out.below.size (by rw [HQS.out]; have := HT.out.len_some; have := bytesOf_length a0; have := HS.out; omega) ?_))
                intro v1 w3 ho hb hg
                have ho1 : w3.ownsRow w.heap.size 5 1 v1 (R ++ seg (bytesOf a0) sn m).length (nums .u8 (R ++ seg (bytesOf a0) sn m)) := by simpa only [HQB.out, List.length_append, List.nil_append, List.length_nil, Nat.zero_add] using ho
                obtain ⟨L1, hL1⟩ : ∃ L1, L1 = (R ++ seg (bytesOf a0) sn m).length := ⟨_, rfl⟩
                obtain ⟨A1, k1, hv1⟩ := own_slice ho1
                rw [← hL1] at hv1
                subst hv1
                clear hL1
                have HB3 := Aside0.mk (HB1.out.grow (by omega) (by omega) ho1 hb hg)
                obtain ⟨hr3, hf3, hs3⟩ := HB1.out.boxed hg
                clear ho ho1 hb hg
                go_upto_region 19 with fail
                clear hr3 hf3 hs3
                obtain ⟨hr3, hf3, hs3⟩ := HB3.out.cells
                generalize w3.setCell ⟨w.heap.size + 1, 0, none⟩ (.slice A1 L1 k1) = w4 at HB3 hr3 hf3 hs3 ⊢
                clear w3
                go_wp2_with (at_builtin; go_must (refine print_append_num (w0 := w) w.heap.size rfl (.tmp 74) (.tmp 75) 58 5 .u8 1 rfl Try.underlying58 infoU8 (by decide) (.slice A1 L1 k1) (R ++ seg (bytesOf a0) sn m) 32 rfl rfl HB3.out.own HB3.out.below HB3.out.below.size (by rw [List.length_append]; have := HT.out.len_some; have := bytesOf_length a0; have := HS.out; omega) ?_))
                intro v2 w5 ho hb hg _
                have ho1 : w5.ownsRow w.heap.size 5 1 v2 (R ++ seg (bytesOf a0) sn m ++ [32]).length (nums .u8 (R ++ seg (bytesOf a0) sn m ++ [32])) := by simpa only [List.length_append, List.append_assoc, List.length_cons, List.length_nil, Nat.add_assoc, Nat.zero_add, List.nil_append] using ho
                obtain ⟨L2, hL2⟩ : ∃ L2, L2 = (R ++ seg (bytesOf a0) sn m ++ [32]).length := ⟨_, rfl⟩
                obtain ⟨g3, c3, hv2, _, _⟩ := ho1.form (by rw [List.length_append]; exact Nat.succ_pos _)
                rw [← hL2] at hv2
                subst hv2
                have HL2 := Aside0.mk hL2
                clear hL2
                have HB5 := Aside0.mk (HB3.out.grow (by omega) (by omega) ho1 hb hg)
                obtain ⟨hr5, hf5, hs5⟩ := HB3.out.boxed hg
                clear ho ho1 hb hg hr3 hf3 hs3
                go_wp2_with fail
                go_roundw
                case rel => exact ⟨i, i + 1, none, _, R ++ seg (bytesOf a0) sn m ++ [32], by rw [HXI.out], rfl, by rw [HXI.out, wrap_n HS.out HLT.out], HLT.out, HB5, ⟨.inr ⟨by have := HMI.out; omega, g3, c3, by rw [HL2.out]⟩⟩, ⟨HT.out.turnG HG.out HWS.out⟩⟩
                case measure => rw [HXI.out, wrap_n HS.out HLT.out]; have := HLT.out; simp [intOf]; omega
            · have hsub : (wrap64 (x - y) == 1) = false := beq_eq_false_iff_ne.2 (by rw [HXI.out, HYM.out]; have := HMI.out; have := HLT.out; have := HS.out; unfold wrap64; omega)
              have hsub2 : decide (wrap64 (x - y) = 1) = false := decide_eq_false (beq_eq_false_iff_ne.1 hsub)
              clear hone
              obtain ⟨q, hqb, hqs, hsl⟩ := slice_part a0 sn m y HYM.out HSM.out (by have := HMI.out; have := HLT.out; omega)
              have HQB := Aside0.mk hqb
              have HQS := Aside0.mk hqs
              clear hqb hqs
              go_wp2_with (go_at_call 115; go_must (refine (make_calls w wc w.heap.size (w.heap.size + 1) a0 v R HS.out (by omega) (by omega) HX.out).mono ?_; rintro e w1 ⟨rfl, g1, c1, hb1⟩; have HB1 := Aside0.mk (hb1.drewN 1); obtain ⟨hr1, hf1, hs1⟩ := hb1.cells; clear hb1))
              go_still_tail 5, (by kernel_rfl)
              change wpList _ _ _ _ _ (w1.drewN 1)
              clear hsl hcs hr1 hf1 hs1
              generalize w1.drewN 1 = w2 at HB1 ⊢
              clear w1
              go_wp2_with (at_builtin; go_must (refine print_append_str (w0 := w) w.heap.size rfl (.tmp 68) (.tmp 72) 58 9 5 rfl Try.underlying58 Try.underlying9 infoU8 (.slice (some ⟨g1, 0, none⟩) R.length c1) R q rfl rfl HB1.out.own HB1.out.below HB1.out.below.size (by rw [HQS.out]; have := HT.out.len_some; have := bytesOf_length a0; have := HS.out; omega) ?_))
              intro v1 w3 ho hb hg
              have ho1 : w3.ownsRow w.heap.size 5 1 v1 (R ++ seg (bytesOf a0) sn m).length (nums .u8 (R ++ seg (bytesOf a0) sn m)) := by simpa only [HQB.out, List.length_append, List.nil_append, List.length_nil, Nat.zero_add] using ho
              obtain ⟨L1, hL1⟩ : ∃ L1, L1 = (R ++ seg (bytesOf a0) sn m).length := ⟨_, rfl⟩
              obtain ⟨A1, k1, hv1⟩ := own_slice ho1
              rw [← hL1] at hv1
              subst hv1
              clear hL1
              have HB3 := Aside0.mk (HB1.out.grow (by omega) (by omega) ho1 hb hg)
              obtain ⟨hr3, hf3, hs3⟩ := HB1.out.boxed hg
              clear ho ho1 hb hg
              go_upto_region 19 with fail
              clear hr3 hf3 hs3
              obtain ⟨hr3, hf3, hs3⟩ := HB3.out.cells
              generalize w3.setCell ⟨w.heap.size + 1, 0, none⟩ (.slice A1 L1 k1) = w4 at HB3 hr3 hf3 hs3 ⊢
              clear w3
              go_wp2_with (at_builtin; go_must (refine print_append_num (w0 := w) w.heap.size rfl (.tmp 74) (.tmp 75) 58 5 .u8 1 rfl Try.underlying58 infoU8 (by decide) (.slice A1 L1 k1) (R ++ seg (bytesOf a0) sn m) 32 rfl rfl HB3.out.own HB3.out.below HB3.out.below.size (by rw [List.length_append]; have := HT.out.len_some; have := bytesOf_length a0; have := HS.out; omega) ?_))
              intro v2 w5 ho hb hg _
              have ho1 : w5.ownsRow w.heap.size 5 1 v2 (R ++ seg (bytesOf a0) sn m ++ [32]).length (nums .u8 (R ++ seg (bytesOf a0) sn m ++ [32])) := by simpa only [List.length_append, List.append_assoc, List.length_cons, List.length_nil, Nat.add_assoc, Nat.zero_add, List.nil_append] using ho
              obtain ⟨L2, hL2⟩ : ∃ L2, L2 = (R ++ seg (bytesOf a0) sn m ++ [32]).length := ⟨_, rfl⟩
              obtain ⟨g3, c3, hv2, _, _⟩ := ho1.form (by rw [List.length_append]; exact Nat.succ_pos _)
              rw [← hL2] at hv2
              subst hv2
              have HL2 := Aside0.mk hL2
              clear hL2
              have HB5 := Aside0.mk (HB3.out.grow (by omega) (by omega) ho1 hb hg)
              obtain ⟨hr5, hf5, hs5⟩ := HB3.out.boxed hg
              clear ho ho1 hb hg hr3 hf3 hs3
              go_wp2_with fail
              go_roundw
              case rel => exact ⟨i, i + 1, none, _, R ++ seg (bytesOf a0) sn m ++ [32], by rw [HXI.out], rfl, by rw [HXI.out, wrap_n HS.out HLT.out], HLT.out, HB5, ⟨.inr ⟨by have := HMI.out; omega, g3, c3, by rw [HL2.out]⟩⟩, ⟨HT.out.turnG HG.out HWS.out⟩⟩
              case measure => rw [HXI.out, wrap_n HS.out HLT.out]; have := HLT.out; simp [intOf]; omega
    · have hie : i = a0.size := by omega
      subst hie
      rw [← bytesOf_length a0] at HT
      have HSN := Aside0.mk (show sn ≤ a0.size by have := HT.out.sni; rw [bytesOf_length] at this; exact this)
      clear hlt hi
      cases sm with
      | none =>
        simp only [smV]
        rcases HV.out with ⟨rfl, rfl, rfl⟩ | ⟨h0, g, c, rfl⟩
        · have hnil := fun (w : World) => Lib.run_eql_slice_nil (P := Try.prog) w 58 5 none 0 0 0 0 Try.underlying58
          have hcr : wr.cell? ⟨w.heap.size + 1, 0, none⟩ = some (.slice none 0 0) := blk_cell HX.out.box 0
          go_wp2_with fail
          go_ret
          exact ⟨ret_str (by rw [HT.out.end_a, Txt.str_bytes]), HX.out.below⟩
        · have s1 : ((sn : Int) == 0) = false := beq_eq_false_iff_ne.2 (by omega)
          have s2 : decide ((sn : Int) = 0) = false := decide_eq_false (by omega)
          generalize hv : Value.slice (some ⟨g, 0, none⟩) R.length c = v at HX
          clear hv h0
          obtain ⟨q, hqb, hqs, hsl⟩ := slice_tail a0 sn HSN.out
          have HQB := Aside0.mk hqb
          have HQS := Aside0.mk hqs
          clear hqb hqs
          go_wp2_with (go_at_call 115; go_must (refine (make_calls w wr w.heap.size (w.heap.size + 1) a0 v R HS.out (by omega) (by omega) HX.out).mono ?_; rintro e w1 ⟨rfl, g1, c1, hb1⟩; have HB1 := Aside0.mk (hb1.drewN 1); obtain ⟨hr1, hf1, hs1⟩ := hb1.cells; clear hb1))
          go_still_tail 4, (by kernel_rfl)
          change wpList _ _ _ _ _ (w1.drewN 1)
          clear hsl hcs hr1 hf1 hs1
          generalize w1.drewN 1 = w2 at HB1 ⊢
          clear w1
          go_wp2_with (at_builtin; go_must (refine print_append_str (w0 := w) w.heap.size rfl (.tmp 88) (.tmp 91) 58 9 5 rfl Try.underlying58 Try.underlying9 infoU8 (.slice (some ⟨g1, 0, none⟩) R.length c1) R q rfl rfl HB1.out.own HB1.out.below HB1.out.below.size (by rw [HQS.out]; have := HT.out.len_none; have := bytesOf_length a0; have := HS.out; omega) ?_))
          intro v1 w3 ho hb hg
          have ho1 : w3.ownsRow w.heap.size 5 1 v1 (R ++ seg (bytesOf a0) sn (bytesOf a0).length).length (nums .u8 (R ++ seg (bytesOf a0) sn (bytesOf a0).length)) := by simpa only [HQB.out, List.length_append, List.nil_append, List.length_nil, Nat.zero_add] using ho
          obtain ⟨L2, hL2⟩ : ∃ L2, L2 = (R ++ seg (bytesOf a0) sn (bytesOf a0).length).length := ⟨_, rfl⟩
          obtain ⟨g3, c3, hv2, _, _⟩ := ho1.form (by rw [← HT.out.end_b]; exact norm_pos (by rw [bytesOf_length]; have := HNE.out; omega))
          rw [← hL2] at hv2
          subst hv2
          clear hL2
          have HB5 := Aside0.mk (HB1.out.grow (by omega) (by omega) ho1 hb hg)
          obtain ⟨hr5, hf5, hs5⟩ := HB1.out.boxed hg
          clear ho ho1 hb hg
          have hnil := fun (w : World) => Lib.run_eql_slice_nil (P := Try.prog) w 58 5 (some ⟨g3, 0, none⟩) L2 c3 0 0 Try.underlying58
          go_upto_region 30 with fail
          clear hr5 hf5 hs5
          obtain ⟨hr5, hf5, hs5⟩ := HB5.out.cells
          have hown := own_string (P := Try.prog) Try.underlying58 Try.underlying5 Try.underlying9 HB5.out.own
          generalize w3.setCell ⟨w.heap.size + 1, 0, none⟩ (.slice (some ⟨g3, 0, none⟩) L2 c3) = w6 at HB5 hr5 hf5 hs5 hown ⊢
          go_wp2_with fail
          go_ret
          exact ⟨ret_str (by rw [HT.out.end_b]), HB5.out.below⟩
      | some m =>
        simp only [smV]
        have e1 : ((m : Int) == -1) = false := beq_eq_false_iff_ne.2 (by omega)
        have HMI := Aside0.mk (HT.out.some_ m rfl).2.1
        have HSM := Aside0.mk (HT.out.some_ m rfl).1
        obtain ⟨y, hym⟩ : ∃ y : Int, y = (m : Int) := ⟨_, rfl⟩
        rw [← hym] at e1 ⊢
        have e2 : decide (y = -1) = false := decide_eq_false (beq_eq_false_iff_ne.1 e1)
        have e3 : (y != -1) = true := by rw [bne, e1]; rfl
        have hy8 := bt_at a0 y
        have py : (0 ≤ y) = True := eq_true (by omega)
        have qy : (y < (a0.size : Int)) = True := eq_true (by have := HMI.out; have := bytesOf_length a0; omega)
        have HGM := Aside0.mk (show (bytesOf a0)[m]? = some (bt a0 y) by rw [hym]; exact bt_nth a0 m (by have := HMI.out; have := bytesOf_length a0; omega))
        have HYM := Aside0.mk hym
        clear hym
        rcases HV.out with ⟨h0, rfl, rfl⟩ | ⟨h0, g, c, rfl⟩
        · have HS0 := Aside0.mk h0
          clear h0
          have hnil := fun (w : World) => Lib.run_eql_slice_nil (P := Try.prog) w 58 5 none 0 0 0 0 Try.underlying58
          have hcr : wr.cell? ⟨w.heap.size + 1, 0, none⟩ = some (.slice none 0 0) := blk_cell HX.out.box 0
          by_cases hone : a0.size = m + 1
          · have hsub : wrap64 ((a0.size : Int) - y) = 1 := by rw [HYM.out, hone]; unfold wrap64; omega
            have HONE := Aside0.mk hone
            clear hone
            by_cases hb : bt a0 y = 32
            · have c32 := decide_eq_true hb
              have d32 : (bt a0 y == 32) = true := beq_iff_eq.2 hb
              rw [hb] at HGM
              clear hb
              go_wp2_with fail
              go_ret
              exact ⟨ret_str (by rw [(show St (bytesOf a0) 0 (some m) (bytesOf a0).length [] by have := HT.out; rw [HS0.out] at this; exact this).end_c (by rw [bytesOf_length]; exact HONE.out) HGM.out, Txt.str_bytes]), HX.out.below⟩
            · have c32 := decide_eq_false hb
              have d32 : (bt a0 y == 32) = false := beq_eq_false_iff_ne.2 hb
              clear hb
              obtain ⟨q, hqb, hqs, hsl⟩ := slice_part a0 sn m y HYM.out HSM.out (by have := HMI.out; have := bytesOf_length a0; omega)
              have HQB := Aside0.mk hqb
              have HQS := Aside0.mk hqs
              clear hqb hqs
              go_wp2_with (go_at_call 115; go_must (refine (make_calls w wr w.heap.size (w.heap.size + 1) a0 (.slice none 0 0) [] HS.out (by omega) (by omega) HX.out).mono ?_; rintro e w1 ⟨rfl, g1, c1, hb1⟩; have HB1 := Aside0.mk (hb1.drewN 1); obtain ⟨hr1, hf1, hs1⟩ := hb1.cells; clear hb1))
              go_still_tail 5, (by kernel_rfl)
              change wpList _ _ _ _ _ (w1.drewN 1)
              clear hnil hcr hsl hcs hr1 hf1 hs1
              generalize w1.drewN 1 = w2 at HB1 ⊢
              clear w1
              go_wp2_with (at_builtin; go_must (refine print_append_str (w0 := w) w.heap.size rfl (.tmp 110) (.tmp 114) 58 9 5 rfl Try.underlying58 Try.underlying9 infoU8 (.slice (some ⟨g1, 0, none⟩) 0 c1) [] q rfl rfl HB1.out.own HB1.out.below HB1.out.below.size (by rw [HQS.out]; have := HT.out.len_some; have := bytesOf_length a0; have := HS.out; omega) ?_))
              intro v1 w3 ho hb hg
              have ho1 : w3.ownsRow w.heap.size 5 1 v1 ([] ++ seg (bytesOf a0) sn m).length (nums .u8 ([] ++ seg (bytesOf a0) sn m)) := by simpa only [HQB.out, List.length_append, List.nil_append, List.length_nil, Nat.zero_add] using ho
              obtain ⟨L1, hL1⟩ : ∃ L1, L1 = ([] ++ seg (bytesOf a0) sn m).length := ⟨_, rfl⟩
              obtain ⟨A1, k1, hv1⟩ := own_slice ho1
              rw [← hL1] at hv1
              subst hv1
              clear hL1
              have HB3 := Aside0.mk (HB1.out.grow (by omega) (by omega) ho1 hb hg)
              obtain ⟨hr3, hf3, hs3⟩ := HB1.out.boxed hg
              clear ho ho1 hb hg
              go_upto_region 29 with fail
              clear hr3 hf3 hs3
              obtain ⟨hr3, hf3, hs3⟩ := HB3.out.cells
              generalize w3.setCell ⟨w.heap.size + 1, 0, none⟩ (.slice A1 L1 k1) = w4 at HB3 hr3 hf3 hs3 ⊢
              clear w3
              go_wp2_with (at_builtin; go_must (refine print_append_num (w0 := w) w.heap.size rfl (.tmp 116) (.tmp 117) 58 5 .u8 1 rfl Try.underlying58 infoU8 (by decide) (.slice A1 L1 k1) ([] ++ seg (bytesOf a0) sn m) 32 rfl rfl HB3.out.own HB3.out.below HB3.out.below.size (by rw [List.length_append]; have := HT.out.len_some; have := bytesOf_length a0; have := HS.out; omega) ?_))
              intro v2 w5 ho hb hg _
              have ho1 : w5.ownsRow w.heap.size 5 1 v2 ([] ++ seg (bytesOf a0) sn m ++ [32]).length (nums .u8 ([] ++ seg (bytesOf a0) sn m ++ [32])) := by simpa only [List.length_append, List.append_assoc, List.length_cons, List.length_nil, Nat.add_assoc, Nat.zero_add, List.nil_append] using ho
              obtain ⟨L2, hL2⟩ : ∃ L2, L2 = ([] ++ seg (bytesOf a0) sn m ++ [32]).length := ⟨_, rfl⟩
              obtain ⟨g3, c3, hv2, _, _⟩ := ho1.form (by rw [List.length_append]; exact Nat.succ_pos _)
              rw [← hL2] at hv2
              subst hv2
              have HL2 := Aside0.mk hL2
              clear hL2
              have HB5 := Aside0.mk (HB3.out.grow (by omega) (by omega) ho1 hb hg)
              obtain ⟨hr5, hf5, hs5⟩ := HB3.out.boxed hg
              clear ho ho1 hb hg hr3 hf3 hs3
              have hnil := fun (w : World) => Lib.run_eql_slice_nil (P := Try.prog) w 58 5 (some ⟨g3, 0, none⟩) L2 c3 0 0 Try.underlying58
              go_upto_region 30 with fail
              clear hr5 hf5 hs5
              obtain ⟨hr5, hf5, hs5⟩ := HB5.out.cells
              have hown := own_string (P := Try.prog) Try.underlying58 Try.underlying5 Try.underlying9 HB5.out.own
              generalize w5.setCell ⟨w.heap.size + 1, 0, none⟩ (.slice (some ⟨g3, 0, none⟩) L2 c3) = w6 at HB5 hr5 hf5 hs5 hown ⊢
              go_wp2_with fail
              go_ret
              exact ⟨ret_str (by rw [HT.out.end_d]; try simp only [List.append_assoc, List.nil_append]), HB5.out.below⟩
          · have hsub : (wrap64 ((a0.size : Int) - y) == 1) = false := beq_eq_false_iff_ne.2 (by rw [HYM.out]; have := HMI.out; have := bytesOf_length a0; have := HS.out; unfold wrap64; omega)
            have hsub2 : decide (wrap64 ((a0.size : Int) - y) = 1) = false := decide_eq_false (beq_eq_false_iff_ne.1 hsub)
            clear hone
            obtain ⟨q, hqb, hqs, hsl⟩ := slice_part a0 sn m y HYM.out HSM.out (by have := HMI.out; have := bytesOf_length a0; omega)
            have HQB := Aside0.mk hqb
            have HQS := Aside0.mk hqs
            clear hqb hqs
            go_wp2_with (go_at_call 115; go_must (refine (make_calls w wr w.heap.size (w.heap.size + 1) a0 (.slice none 0 0) [] HS.out (by omega) (by omega) HX.out).mono ?_; rintro e w1 ⟨rfl, g1, c1, hb1⟩; have HB1 := Aside0.mk (hb1.drewN 1); obtain ⟨hr1, hf1, hs1⟩ := hb1.cells; clear hb1))
            go_still_tail 5, (by kernel_rfl)
            change wpList _ _ _ _ _ (w1.drewN 1)
            clear hnil hcr hsl hcs hr1 hf1 hs1
            generalize w1.drewN 1 = w2 at HB1 ⊢
            clear w1
            go_wp2_with (at_builtin; go_must (refine print_append_str (w0 := w) w.heap.size rfl (.tmp 110) (.tmp 114) 58 9 5 rfl Try.underlying58 Try.underlying9 infoU8 (.slice (some ⟨g1, 0, none⟩) 0 c1) [] q rfl rfl HB1.out.own HB1.out.below HB1.out.below.size (by rw [HQS.out]; have := HT.out.len_some; have := bytesOf_length a0; have := HS.out; omega) ?_))
            intro v1 w3 ho hb hg
            have ho1 : w3.ownsRow w.heap.size 5 1 v1 ([] ++ seg (bytesOf a0) sn m).length (nums .u8 ([] ++ seg (bytesOf a0) sn m)) := by simpa only [HQB.out, List.length_append, List.nil_append, List.length_nil, Nat.zero_add] using ho
            obtain ⟨L1, hL1⟩ : ∃ L1, L1 = ([] ++ seg (bytesOf a0) sn m).length := ⟨_, rfl⟩
            obtain ⟨A1, k1, hv1⟩ := own_slice ho1
            rw [← hL1] at hv1
            subst hv1
            clear hL1
            have HB3 := Aside0.mk (HB1.out.grow (by omega) (by omega) ho1 hb hg)
            obtain ⟨hr3, hf3, hs3⟩ := HB1.out.boxed hg
            clear ho ho1 hb hg
            go_upto_region 29 with fail
            clear hr3 hf3 hs3
            obtain ⟨hr3, hf3, hs3⟩ := HB3.out.cells
            generalize w3.setCell ⟨w.heap.size + 1, 0, none⟩ (.slice A1 L1 k1) = w4 at HB3 hr3 hf3 hs3 ⊢
            clear w3
            go_wp2_with (at_builtin; go_must (refine print_append_num (w0 := w) w.heap.size rfl (.tmp 116) (.tmp 117) 58 5 .u8 1 rfl Try.underlying58 infoU8 (by decide) (.slice A1 L1 k1) ([] ++ seg (bytesOf a0) sn m) 32 rfl rfl HB3.out.own HB3.out.below HB3.out.below.size (by rw [List.length_append]; have := HT.out.len_some; have := bytesOf_length a0; have := HS.out; omega) ?_))
            intro v2 w5 ho hb hg _
            have ho1 : w5.ownsRow w.heap.size 5 1 v2 ([] ++ seg (bytesOf a0) sn m ++ [32]).length (nums .u8 ([] ++ seg (bytesOf a0) sn m ++ [32])) := by simpa only [List.length_append, List.append_assoc, List.length_cons, List.length_nil, Nat.add_assoc, Nat.zero_add, List.nil_append] using ho
            obtain ⟨L2, hL2⟩ : ∃ L2, L2 = ([] ++ seg (bytesOf a0) sn m ++ [32]).length := ⟨_, rfl⟩
            obtain ⟨g3, c3, hv2, _, _⟩ := ho1.form (by rw [List.length_append]; exact Nat.succ_pos _)
            rw [← hL2] at hv2
            subst hv2
            have HL2 := Aside0.mk hL2
            clear hL2
            have HB5 := Aside0.mk (HB3.out.grow (by omega) (by omega) ho1 hb hg)
            obtain ⟨hr5, hf5, hs5⟩ := HB3.out.boxed hg
            clear ho ho1 hb hg hr3 hf3 hs3
            have hnil := fun (w : World) => Lib.run_eql_slice_nil (P := Try.prog) w 58 5 (some ⟨g3, 0, none⟩) L2 c3 0 0 Try.underlying58
            go_upto_region 30 with fail
            clear hr5 hf5 hs5
            obtain ⟨hr5, hf5, hs5⟩ := HB5.out.cells
            have hown := own_string (P := Try.prog) Try.underlying58 Try.underlying5 Try.underlying9 HB5.out.own
            generalize w5.setCell ⟨w.heap.size + 1, 0, none⟩ (.slice (some ⟨g3, 0, none⟩) L2 c3) = w6 at HB5 hr5 hf5 hs5 hown ⊢
            go_wp2_with fail
            go_ret
            exact ⟨ret_str (by rw [HT.out.end_d]; try simp only [List.append_assoc, List.nil_append]), HB5.out.below⟩
        · have hnil := fun (w : World) => Lib.run_eql_slice_nil (P := Try.prog) w 58 5 (some ⟨g, 0, none⟩) R.length c 0 0 Try.underlying58
          have hcr : wr.cell? ⟨w.heap.size + 1, 0, none⟩ = some (.slice (some ⟨g, 0, none⟩) R.length c) := blk_cell HX.out.box 0
          obtain ⟨q, hqb, hqs, hsl⟩ := slice_part a0 sn m y HYM.out HSM.out (by have := HMI.out; have := bytesOf_length a0; omega)
          have HQB := Aside0.mk hqb
          have HQS := Aside0.mk hqs
          clear hqb hqs
          go_wp2_with (go_at_call 115; go_must (refine (make_calls w wr w.heap.size (w.heap.size + 1) a0 (.slice (some ⟨g, 0, none⟩) R.length c) R HS.out (by omega) (by omega) HX.out).mono ?_; rintro e w1 ⟨rfl, g1, c1, hb1⟩; have HB1 := Aside0.mk (hb1.drewN 1); obtain ⟨hr1, hf1, hs1⟩ := hb1.cells; clear hb1))
          go_still_tail 5, (by kernel_rfl)
          change wpList _ _ _ _ _ (w1.drewN 1)
          clear hnil hcr hsl hcs hr1 hf1 hs1
          generalize w1.drewN 1 = w2 at HB1 ⊢
          clear w1
          go_wp2_with (at_builtin; go_must (refine print_append_str (w0 := w) w.heap.size rfl (.tmp 110) (.tmp 114) 58 9 5 rfl Try.underlying58 Try.underlying9 infoU8 (.slice (some ⟨g1, 0, none⟩) R.length c1) R q rfl rfl HB1.out.own HB1.out.below HB1.out.below.size (by rw [HQS.out]; have := HT.out.len_some; have := bytesOf_length a0; have := HS.out; omega) ?_))
          intro v1 w3 ho hb hg
          have ho1 : w3.ownsRow w.heap.size 5 1 v1 (R ++ seg (bytesOf a0) sn m).length (nums .u8 (R ++ seg (bytesOf a0) sn m)) := by simpa only [HQB.out, List.length_append, List.nil_append, List.length_nil, Nat.zero_add] using ho
          obtain ⟨L1, hL1⟩ : ∃ L1, L1 = (R ++ seg (bytesOf a0) sn m).length := ⟨_, rfl⟩
          obtain ⟨A1, k1, hv1⟩ := own_slice ho1
          rw [← hL1] at hv1
          subst hv1
          clear hL1
          have HB3 := Aside0.mk (HB1.out.grow (by omega) (by omega) ho1 hb hg)
          obtain ⟨hr3, hf3, hs3⟩ := HB1.out.boxed hg
          clear ho ho1 hb hg
          go_upto_region 29 with fail
          clear hr3 hf3 hs3
          obtain ⟨hr3, hf3, hs3⟩ := HB3.out.cells
          generalize w3.setCell ⟨w.heap.size + 1, 0, none⟩ (.slice A1 L1 k1) = w4 at HB3 hr3 hf3 hs3 ⊢
          clear w3
          go_wp2_with (at_builtin; go_must (refine print_append_num (w0 := w) w.heap.size rfl (.tmp 116) (.tmp 117) 58 5 .u8 1 rfl Try.underlying58 infoU8 (by decide) (.slice A1 L1 k1) (R ++ seg (bytesOf a0) sn m) 32 rfl rfl HB3.out.own HB3.out.below HB3.out.below.size (by rw [List.length_append]; have := HT.out.len_some; have := bytesOf_length a0; have := HS.out; omega) ?_))
          intro v2 w5 ho hb hg _
          have ho1 : w5.ownsRow w.heap.size 5 1 v2 (R ++ seg (bytesOf a0) sn m ++ [32]).length (nums .u8 (R ++ seg (bytesOf a0) sn m ++ [32])) := by simpa only [List.length_append, List.append_assoc, List.length_cons, List.length_nil, Nat.add_assoc, Nat.zero_add, List.nil_append] using ho
          obtain ⟨L2, hL2⟩ : ∃ L2, L2 = (R ++ seg (bytesOf a0) sn m ++ [32]).length := ⟨_, rfl⟩
          obtain ⟨g3, c3, hv2, _, _⟩ := ho1.form (by rw [List.length_append]; exact Nat.succ_pos _)
          rw [← hL2] at hv2
          subst hv2
          have HL2 := Aside0.mk hL2
          clear hL2
          have HB5 := Aside0.mk (HB3.out.grow (by omega) (by omega) ho1 hb hg)
          obtain ⟨hr5, hf5, hs5⟩ := HB3.out.boxed hg
          clear ho ho1 hb hg hr3 hf3 hs3
          have hnil := fun (w : World) => Lib.run_eql_slice_nil (P := Try.prog) w 58 5 (some ⟨g3, 0, none⟩) L2 c3 0 0 Try.underlying58
          go_upto_region 30 with fail
          clear hr5 hf5 hs5
          obtain ⟨hr5, hf5, hs5⟩ := HB5.out.cells
          have hown := own_string (P := Try.prog) Try.underlying58 Try.underlying5 Try.underlying9 HB5.out.own
          generalize w5.setCell ⟨w.heap.size + 1, 0, none⟩ (.slice (some ⟨g3, 0, none⟩) L2 c3) = w6 at HB5 hr5 hf5 hs5 hown ⊢
          go_wp2_with fail
          go_ret
          exact ⟨ret_str (by rw [HT.out.end_d]; try simp only [List.append_assoc, List.nil_append]), HB5.out.below⟩
end Go.Proofs.Ytmfjbljdbkmkgaa.Blank

/- An append to a row of the call's own leaves the elder, shorter row as it was, too: its elements can still be read. For rows of one call. -/
namespace Go.Proofs.Ytmfjbljdbkmkgaa.Keep
open Go.RowKit Go.Proofs.YtmfjbljdbkmkgaaW.PrintWords Go.Proofs.YtmfjbljdbkmkgaaW.PrintLast Go.Proofs.YtmfjbljdbkmkgaaW.PrintMore
set_option linter.unusedVariables false
set_option linter.unusedSimpArgs false

theorem run_append_keep {P : Program} (w : World) (base : Nat) (t ty e : TypeId) (i : TypeInfo) (z : Value) (size bytes : Nat) (ht : P.underlying t = some (.slice e)) (hi : P.info? e = some i) (hz : i.zero = some z)
    (hsize : i.size = size) (hby : i.bytes = bytes) (hzs : z.cells.size = size) (hsz : 0 < size)
    (v : Value) (n : Nat) (xs : List Value) (hown : w.ownsRow base e size v n xs)
    (a : Addr) (m c : Nat) (news : List Value) (hl : news.length = m * size) (hnews : ∀ j u, news[j]? = some u → w.cell? (a.add j) = some u) (h1 : ∀ u ∈ news, u.oneCell' = true)
    (h63 : n + m ≤ maxLen) (hbytes : (n + m) * bytes ≤ 140737488355328) (hbase : base ≤ w.heap.size) :
    ∃ v' w', (Builtin.append_ #[t, t] ty #[v, .slice (some a) m c]).run P w = .ok v' w' ∧ w'.ownsRow base e size v' (n + m) (xs ++ news) ∧ w'.ownsRow base e size v n xs ∧ w.grownBy w' v.ownBlock ∧
      (v'.ownBlock = v.ownBlock ∨ v'.ownBlock = some w.heap.size) := by
  obtain ⟨v', w', hr, h2, h3, _, h5⟩ := run_append_own_at (P := P) w base t ty e i z size bytes ht hi hz hsize hby hzs hsz v n xs hown a m c news hl hnews h1 h63 hbytes hbase
  refine ⟨v', w', hr, h2, ?_, h3, h5⟩
  refine ⟨hown.1, ?_⟩
  rcases hown.2 with hn | ⟨g, cap, cur, rfl, hbg, hg, hnc, hcm, hcs, htake⟩
  · exact .inl hn
  · subst hsize
    by_cases hroom : n + m ≤ cap
    · have hfit : n * i.size + news.length ≤ cur.size := by rw [hl, hcs, ← Nat.add_mul]; exact Nat.mul_le_mul_right _ hroom
      have hr2 := run_append_room (P := P) w t ty e i ht hi g n cap cur hg a m c news hl hnews h1 hroom hfit
      rw [hr] at hr2
      injection hr2 with he hw
      subst hw
      refine .inr ⟨g, cap, _, rfl, hbg, setRow_heap w g cur _ e _ hg, hnc, hcm, ?_, ?_⟩
      · simp only [List.size_toArray, List.length_append, List.length_take, List.length_drop, Array.length_toList]
        omega
      · have hlx : (cur.toList.take (n * i.size)).length = n * i.size := by rw [htake]; exact hown.1
        rw [List.append_assoc, List.take_append_of_le_length (by omega), List.take_take, Nat.min_self]
        exact htake
    · have holds : ∀ j u, xs[j]? = some u → w.cell? ((⟨g, 0, none⟩ : Addr).add j) = some u := hown.cells (g := g) rfl
      have hsmall : n + m ≤ 9223372036854775807 := by simp only [maxLen] at h63; omega
      subst hby
      have hr2 := run_append_grow (P := P) w t ty e i z ht hi hz ⟨g, 0, none⟩ n cap xs hown.1 holds a m c news hl hnews (by omega) (by omega) (growslice_fits (by omega) hbytes)
      rw [hr] at hr2
      injection hr2 with he hw
      subst hw
      refine .inr ⟨g, cap, cur, rfl, hbg, ?_, hnc, hcm, hcs, htake⟩
      exact (Below.heap_alloc w.drew _ g (Array.getElem?_eq_some_iff.1 hg).1).trans hg

section
variable {P : Program} {ops : Array Oper} {rest : List Oper} {o : Oper} {a : Act} {Q : Exit → Act → World → Prop}
/-- append(v, ys...) of bytes or other whole numbers: the elder row stays. -/
theorem append_row_keep {w0 W : World} (base : Nat) (hgd : o.guard = none) (s x : Operand) (t e : TypeId) (k : IntKind) (bytes : Nat)
    (ho : o.op = .call { callee := .builtin .append, args := #[s, x], argTypes := #[t, t] })
    (ht : P.underlying t = some (.slice e)) (hinfo : (P.info? e).map (fun i => (i.zero, i.size, i.bytes)) = some (some (.int k 0), 1, bytes)) (hb0 : 0 < bytes)
    (v : Value) (xs ys : List Int) (A : Option Addr) (m c : Nat) (hs : a.eval s = v) (hx : a.eval x = .slice A m c)
    (HO : W.ownsRow base e 1 v xs.length (nums k xs)) (HR : ReadsInt W k A m ys) (HB : Below base w0 W) (hbase : base ≤ W.heap.size) (hl : (xs.length + m) * bytes ≤ 140737488355328)
    (h : ∀ v1 w1, w1.ownsRow base e 1 v1 (xs ++ ys).length (nums k (xs ++ ys)) → w1.ownsRow base e 1 v xs.length (nums k xs) → Below base w0 w1 → W.grownBy w1 v.ownBlock → (v1.ownBlock = v.ownBlock ∨ ∃ b, v1.ownBlock = some b ∧ W.heap.size ≤ b) → wpList P ops Q rest (a.put o.dst v1) w1) :
    wpList P ops Q (o :: rest) a W := by
  obtain ⟨i0, hi, hzz⟩ := Option.map_eq_some_iff.1 hinfo
  simp only [Prod.mk.injEq] at hzz
  obtain ⟨hz0, hz1, hz2⟩ := hzz
  have hm : ys.length = m := HR.1
  have hlen : xs.length + m ≤ 140737488355328 := Nat.le_trans (Nat.le_mul_of_pos_right _ hb0) hl
  have hrun : ∃ v1 w1, (Builtin.append_ #[t, t] o.type #[v, .slice A m c]).run P W = .ok v1 w1 ∧ w1.ownsRow base e 1 v1 (xs ++ ys).length (nums k (xs ++ ys)) ∧ w1.ownsRow base e 1 v xs.length (nums k xs) ∧ W.grownBy w1 v.ownBlock ∧ (v1.ownBlock = v.ownBlock ∨ v1.ownBlock = some W.heap.size) := by
    rcases A with _ | ad
    · have h0 : m = 0 := by
        rcases Nat.eq_zero_or_pos m with h0 | h0
        · exact h0
        · obtain ⟨ad, h, _⟩ := HR.2.2 h0
          cases h
      subst h0
      obtain rfl : ys = [] := List.eq_nil_of_length_eq_zero hm
      refine ⟨v, W, ?_, by simpa using HO, HO, World.grownBy.refl W _, .inl rfl⟩
      rcases HO.2 with ⟨rfl, hn⟩ | ⟨g, cap, cur, rfl, _, _, hnc, _⟩
      · simp [Builtin.append_, run_underlying ht, sizeOf, typeInfo, hi, Builtin.lenOf, Builtin.firstCells]
      · simp [Builtin.append_, run_underlying ht, sizeOf, typeInfo, hi, Builtin.lenOf, Builtin.firstCells, hnc, storeCells]
    · have hcells : ∀ j u, (nums k ys)[j]? = some u → W.cell? (ad.add j) = some u := by
        intro j u hu
        have hj : j < ys.length := by
          rcases Nat.lt_or_ge j ys.length with h | h
          · exact h
          · simp [nums, List.getElem?_eq_none h] at hu
        obtain ⟨ad', h', hc⟩ := HR.2.2 (by omega)
        injection h' with h'
        subst h'
        have hcj := hc j (by omega)
        simp [nums, List.getElem?_eq_getElem hj] at hu
        subst hu
        rw [hcj]
        simp [List.getD_eq_getElem?_getD, List.getElem?_eq_getElem hj]
      obtain ⟨v1, w1, hr, h2, h3, h4, h5⟩ := run_append_keep (P := P) W base t o.type e i0 (.int k 0) 1 bytes ht hi hz0 hz1 hz2 rfl (by omega) v xs.length (nums k xs) HO ad m c (nums k ys) (by simp [nums, hm]) hcells
        (by intro u hu; simp only [nums, List.mem_map] at hu; obtain ⟨q, _, rfl⟩ := hu; rfl) (by simp only [maxLen]; omega) hl hbase
      exact ⟨v1, w1, hr, by simpa [nums, hm] using h2, h3, h4, h5⟩
  obtain ⟨v1, w1, hr, h2, h3, h4, h5⟩ := hrun
  refine wpList_plain hgd fun K hK => ?_
  unfold Oper.wp execOp
  simp only [ho, resolve, invoke, builtin, Sem.run_bind, Sem.run_pure, Result.andThen_ok, List.map_toArray, List.map_cons, List.map_nil, hs, hx, hr]
  refine hK _ _ (h v1 w1 h2 h3 (HB.grown h4 hbase (own_base HO)) h4 ?_)
  rcases h5 with hat | hat
  · exact .inl hat
  · exact .inr ⟨_, hat, Nat.le_refl _⟩
/-- append(v, ys...) where v has no room: v is only read, the row is new. -/
theorem append_new {W : World} (hgd : o.guard = none) (s x : Operand) (t e : TypeId) (k : IntKind) (bytes : Nat)
    (ho : o.op = .call { callee := .builtin .append, args := #[s, x], argTypes := #[t, t] })
    (ht : P.underlying t = some (.slice e)) (hinfo : (P.info? e).map (fun i => (i.zero, i.size, i.bytes)) = some (some (.int k 0), 1, bytes)) (hb0 : 0 < bytes)
    (A B : Option Addr) (n m c c' : Nat) (xs ys : List Int) (hs : a.eval s = .slice A n c') (hx : a.eval x = .slice B m c)
    (HX : ReadsInt W k A n xs) (HR : ReadsInt W k B m ys) (hn : 0 < n) (hm0 : 0 < m) (hc : c' < n + m) (hl : (n + m) * bytes ≤ 140737488355328)
    (h : ∀ v1 w1, w1.ownsRow W.heap.size e 1 v1 (n + m) (nums k (xs ++ ys)) → W.grownBy w1 none → wpList P ops Q rest (a.put o.dst v1) w1) :
    wpList P ops Q (o :: rest) a W := by
  obtain ⟨i0, hi, hzz⟩ := Option.map_eq_some_iff.1 hinfo
  simp only [Prod.mk.injEq] at hzz
  obtain ⟨hz0, hz1, hz2⟩ := hzz
  have hxl : xs.length = n := HX.1
  have hyl : ys.length = m := HR.1
  have hlen : n + m ≤ 140737488355328 := Nat.le_trans (Nat.le_mul_of_pos_right _ hb0) hl
  have cellsOf : ∀ {D : Option Addr} {q : Nat} {zs : List Int}, ReadsInt W k D q zs → 0 < q → ∃ ad, D = some ad ∧ ∀ j u, (nums k zs)[j]? = some u → W.cell? (ad.add j) = some u := by
    intro D q zs H hq
    obtain ⟨ad, rfl, hc⟩ := H.2.2 hq
    refine ⟨ad, rfl, fun j u hu => ?_⟩
    have hj : j < zs.length := by
      rcases Nat.lt_or_ge j zs.length with h | h
      · exact h
      · simp [nums, List.getElem?_eq_none h] at hu
    have hq2 := H.1
    have hcj := hc j (by omega)
    simp [nums, List.getElem?_eq_getElem hj] at hu
    subst hu
    rw [hcj]
    simp [List.getD_eq_getElem?_getD, List.getElem?_eq_getElem hj]
  obtain ⟨ad, rfl, hca⟩ := cellsOf HX hn
  obtain ⟨bd, rfl, hcb⟩ := cellsOf HR hm0
  subst hz2
  have hr := run_append_grow (P := P) W t o.type e i0 (.int k 0) ht hi hz0 ad n c' (nums k xs) (by rw [hz1]; simp [nums, hxl]) hca bd m c (nums k ys) (by rw [hz1]; simp [nums, hyl]) hcb hc (by omega) (growslice_fits hc hl)
  refine wpList_plain hgd fun K hK => ?_
  unfold Oper.wp execOp
  simp only [ho, resolve, invoke, builtin, Sem.run_bind, Sem.run_pure, Result.andThen_ok, List.map_toArray, List.map_cons, List.map_nil, hs, hx, hr]
  refine hK _ _ (h _ _ ?_ ⟨rfl, rfl, rfl, by simp, fun i hi _ => heap_alloc_old W.drew _ hi⟩)
  have hge := grownCap_ge W (n + m) c' e
  have hcm : grownCap W (n + m) c' e ≤ maxLen := grownCap_le_maxLen W (n + m) c' e (by simp only [maxLen]; omega)
  have hlx : (nums k (xs ++ ys)).length = n + m := by simp [nums, hxl, hyl]
  refine ⟨by rw [hlx, Nat.mul_one], .inr ⟨W.heap.size, _, _, rfl, Nat.le_refl _, heap_alloc_new W.drew _, hge, hcm, ?_, ?_⟩⟩
  · simp only [Array.size_append, List.size_toArray, size_zeroCells, nums_length, hxl, hyl, show (Value.int k 0).cells.size = 1 from rfl]
    omega
  · simp only [Array.toList_append, Nat.mul_one, ← nums_append]
    rw [← hlx]
    exact List.take_left
end

end Go.Proofs.Ytmfjbljdbkmkgaa.Keep

/- Printed by the program extprint.py of this session, out of the kit's print and contracts of this session's own; Lean checks it. -/
namespace Go.Proofs.Ytmfjbljdbkmkgaa.PDom
open Go.Proofs.Ytmfjbljdbkmkgaa.Keep Go.RowKit Go.Proofs.YtmfjbljdbkmkgaaW.PrintWords Go.Proofs.YtmfjbljdbkmkgaaW.PrintLast Go.Proofs.YtmfjbljdbkmkgaaW.PrintMore
attribute [local go_sem] max2_int min2_int max_two min_two max_three min_three max_four min_four   -- for this text's walks alone
set_option linter.unusedVariables false
set_option linter.unusedSimpArgs false

-- NOT PRINTED: function 81 (collapse_replaceAnyWhitespaceWithSpace)

-- NOT PRINTED: function 70 (collapse_ZzBlanks)

-- NOT PRINTED: function 38 (impl_Blanks)


/-! ### textutils_zzHas: function 100 -/
def textutils_zzHas.l0 : Nat → List Int → Int → Int → Option (Bool)
  | 0, _, _, _ => none
  | k + 1, x0, x1, x5 => if x5 < (x0.length : Int) then (if 0 ≤ x5 then (if (rd x0 x5) = x1 then (some true) else (textutils_zzHas.l0 k x0 x1 (wrap64 (x5 + 1)))) else (none)) else (some false)
def textutils_zzHas.f (k : Nat) (l0 : List Int) (a1 : Int) : Option (Bool) := textutils_zzHas.l0 k l0 a1 0
theorem textutils_zzHas.mono_l : ∀ k, (∀ y0 y1 y2, LeO (textutils_zzHas.l0 k y0 y1 y2) (textutils_zzHas.l0 (k + 1) y0 y1 y2))
  | 0 => fun _ _ _ r h => by simp [textutils_zzHas.l0] at h
  | k + 1 => by
    have ih0 := textutils_zzHas.mono_l k
    · intro y0 y1 y2
      unfold textutils_zzHas.l0
      repeat' first
      | (with_reducible exact ih0 _ _ _)
      | (with_reducible exact LeO.refl _)
      | (with_reducible exact LeO.none _)
      | (with_reducible refine LeO.ite ?_ ?_)
      | (with_reducible refine LeO.bind ?_ (fun _ => ?_))
      | exact ih0 _ _ _
      | exact LeO.none _
      | refine LeO.ite ?_ ?_
      | refine LeO.bind ?_ (fun _ => ?_)
theorem textutils_zzHas.mono : ∀ a0 a1 k, LeO (textutils_zzHas.f k a0 a1) (textutils_zzHas.f (k + 1) a0 a1) := by
  intro a0 a1 k
  have ih0 := textutils_zzHas.mono_l k
  unfold textutils_zzHas.f
  repeat' first
      | (with_reducible exact ih0 _ _ _)
      | (with_reducible exact LeO.refl _)
      | (with_reducible exact LeO.none _)
      | (with_reducible refine LeO.ite ?_ ?_)
      | (with_reducible refine LeO.bind ?_ (fun _ => ?_))
      | exact ih0 _ _ _
      | exact LeO.none _
      | refine LeO.ite ?_ ?_
      | refine LeO.bind ?_ (fun _ => ?_)
set_option maxHeartbeats 8000000 in
set_option maxRecDepth 100000 in
theorem textutils_zzHas.calls (k : Nat) (A0 : Option Addr) (c0 : Nat) (l0 : List Int) (a1 : Int) (r : Bool) (w : World) (hr0 : Kd.C (Kd.int .u8) w A0 l0.length l0) (hc0 : l0.length ≤ c0) (h : textutils_zzHas.f k l0 a1 = some r) :
    Calls Try.prog 100 #[.slice A0 l0.length c0, .int .u8 a1] w fun e w' => e = .returned (.bool r) ∧ Drawn0 w w' := by
  have HR0 := Aside0.mk hr0
  have HC0 := Aside0.mk hc0
  clear hr0 hc0
  have H : (textutils_zzHas.l0 k l0 a1 0) = some r := h
  clear h
  have H' := Aside0.mk H
  clear H
  go_enter Try.func100, Try.ntmps100
  go_wp2
  go_loopg [5] k (fun kq v5 w' => ∃ (x5_1 : Int), v5 = .int .i64 x5_1 ∧ Aside0 (textutils_zzHas.l0 kq l0 a1 x5_1 = some r) ∧ Aside0 (kq ≤ k) ∧ Drawn0 w w')
  case atStart => exact ⟨(0), (by first | rfl | (simp; done) | (simp [*]; done)), H', ⟨Nat.le_refl _⟩, by repeat (first | exact Drawn0.refl _ | apply Drawn0.step)⟩
  case round =>
    clear H'
    try clear c1
    try clear p2
    obtain ⟨x5_1, rfl, HA, HK1, ⟨m1, rfl⟩⟩ := hrel
    cases gk with
    | zero => exact absurd HA.out (by simp [textutils_zzHas.l0])
    | succ k1 =>
      have H := HA.out
      clear HA
      simp only [textutils_zzHas.l0] at H
      by_cases c3 : x5_1 < (l0.length : Int)
      · rw [if_pos c3] at H
        have c3b0 : decide (x5_1 < (l0.length : Int)) = true := decide_eq_true c3
        clear c3
        by_cases c4 : 0 ≤ x5_1
        · rw [if_pos c4] at H
          have c4b0 : decide (0 ≤ x5_1) = true := decide_eq_true c4
          clear c4
          by_cases c5 : (rd l0 x5_1) = a1
          · rw [if_pos c5] at H
            have c5b0 : ((rd l0 x5_1) == a1) = true := beq_iff_eq.mpr c5
            have c5b1 : ((rd l0 x5_1) != a1) = false := bne_eq_false_iff_eq.mpr c5
            clear c5
            obtain rfl := Option.some.inj H
            have p158 : 0 ≤ (x5_1 : Int) := of_decide_eq_true (by first | (with_reducible assumption) | assumption)
            have q158 : x5_1 < (l0.length : Int) := of_decide_eq_true (by first | (with_reducible assumption) | assumption)
            obtain ⟨ad158, e158, hx158_0⟩ := Kd.at_int HR0.out x5_1 p158 q158
            cases e158
            replace p158 := eq_true p158
            replace q158 := eq_true q158
            go_wp2
            go_ret
            exact ⟨by first | rfl | (simp; done) | (simp [*]; done), by repeat (first | exact Drawn0.refl _ | apply Drawn0.step)⟩
          · rw [if_neg c5] at H
            have c5b0 : ((rd l0 x5_1) == a1) = false := beq_eq_false_iff_ne.mpr c5
            have c5b1 : ((rd l0 x5_1) != a1) = true := bne_iff_ne.mpr c5
            have H' := Aside0.mk H
            clear H
            have p158 : 0 ≤ (x5_1 : Int) := of_decide_eq_true (by first | (with_reducible assumption) | assumption)
            have q158 : x5_1 < (l0.length : Int) := of_decide_eq_true (by first | (with_reducible assumption) | assumption)
            obtain ⟨ad158, e158, hx158_0⟩ := Kd.at_int HR0.out x5_1 p158 q158
            cases e158
            replace p158 := eq_true p158
            replace q158 := eq_true q158
            go_wp2
            go_roundg k1
            case measure => have := HK1.out; omega
            case rel => exact ⟨(wrap64 (x5_1 + 1)), (by first | rfl | (simp; done) | (simp [*]; done)), H', ⟨by have := HK1.out; omega⟩, by repeat (first | exact Drawn0.refl _ | apply Drawn0.step)⟩
        · rw [if_neg c4] at H
          exact absurd H (by simp)
      · rw [if_neg c3] at H
        have c3b0 : decide (x5_1 < (l0.length : Int)) = false := decide_eq_false c3
        clear c3
        obtain rfl := Option.some.inj H
        go_wp2
        go_ret
        exact ⟨by first | rfl | (simp; done) | (simp [*]; done), by repeat (first | exact Drawn0.refl _ | apply Drawn0.step)⟩
/-! ### textutils_zzReplaceAll: function 101 -/
def textutils_zzReplaceAll.l0 : Nat → List Int → ByteArray → ByteArray → List Int → Int → Option (List Int)
  | 0, _, _, _, _, _ => none
  | k + 1, x0, x1, x2, x7, x8 => if x8 < (x0.length : Int) then (if (wrap64 (x8 + (x1.size : Int))) ≤ (x0.length : Int) then (if 0 ≤ x8 then (if x8 ≤ (wrap64 (x8 + (x1.size : Int))) then (if (strOfNums ((x0.take ((wrap64 (x8 + (x1.size : Int))) : Int).toNat).drop (x8 : Int).toNat)).toList = x1.toList then (if x7.length + x2.size < 140737488355328 then (textutils_zzReplaceAll.l0 k x0 x1 x2 (x7 ++ bytesOf x2) (wrap64 (x8 + (x1.size : Int)))) else (none)) else (if x7.length < 140737488355328 then (textutils_zzReplaceAll.l0 k x0 x1 x2 (x7 ++ [rd x0 x8]) (wrap64 (x8 + 1))) else (none))) else (none)) else (none)) else (if 0 ≤ x8 then (if x7.length < 140737488355328 then (textutils_zzReplaceAll.l0 k x0 x1 x2 (x7 ++ [rd x0 x8]) (wrap64 (x8 + 1))) else (none)) else (none))) else (some x7)
def textutils_zzReplaceAll.f (k : Nat) (l0 : List Int) (a1 : ByteArray) (a2 : ByteArray) : Option (List Int) := textutils_zzReplaceAll.l0 k l0 a1 a2 ([] : List Int) 0
theorem textutils_zzReplaceAll.mono_l : ∀ k, (∀ y0 y1 y2 y3 y4, LeO (textutils_zzReplaceAll.l0 k y0 y1 y2 y3 y4) (textutils_zzReplaceAll.l0 (k + 1) y0 y1 y2 y3 y4))
  | 0 => fun _ _ _ _ _ r h => by simp [textutils_zzReplaceAll.l0] at h
  | k + 1 => by
    have ih0 := textutils_zzReplaceAll.mono_l k
    · intro y0 y1 y2 y3 y4
      unfold textutils_zzReplaceAll.l0
      repeat' first
      | (with_reducible exact ih0 _ _ _ _ _)
      | (with_reducible exact LeO.refl _)
      | (with_reducible exact LeO.none _)
      | (with_reducible refine LeO.ite ?_ ?_)
      | (with_reducible refine LeO.bind ?_ (fun _ => ?_))
      | exact ih0 _ _ _ _ _
      | exact LeO.none _
      | refine LeO.ite ?_ ?_
      | refine LeO.bind ?_ (fun _ => ?_)
theorem textutils_zzReplaceAll.mono : ∀ a0 a1 a2 k, LeO (textutils_zzReplaceAll.f k a0 a1 a2) (textutils_zzReplaceAll.f (k + 1) a0 a1 a2) := by
  intro a0 a1 a2 k
  have ih0 := textutils_zzReplaceAll.mono_l k
  unfold textutils_zzReplaceAll.f
  repeat' first
      | (with_reducible exact ih0 _ _ _ _ _)
      | (with_reducible exact LeO.refl _)
      | (with_reducible exact LeO.none _)
      | (with_reducible refine LeO.ite ?_ ?_)
      | (with_reducible refine LeO.bind ?_ (fun _ => ?_))
      | exact ih0 _ _ _ _ _
      | exact LeO.none _
      | refine LeO.ite ?_ ?_
      | refine LeO.bind ?_ (fun _ => ?_)
set_option maxHeartbeats 8000000 in
set_option maxRecDepth 100000 in
theorem textutils_zzReplaceAll.calls (k : Nat) (A0 : Option Addr) (c0 : Nat) (l0 : List Int) (a1 : ByteArray) (a2 : ByteArray) (r : List Int) (w : World) (hr0 : Kd.C (Kd.int .u8) w A0 l0.length l0) (hc0 : l0.length ≤ c0) (h : textutils_zzReplaceAll.f k l0 a1 a2 = some r) :
    Calls Try.prog 101 #[.slice A0 l0.length c0, .string a1, .string a2] w fun e w' => ∃ v0_ : Value, e = .returned (v0_) ∧ Kd.R (Kd.int .u8) 5 w' w.heap.size (fun _ => True) v0_ r ∧ Below w.heap.size w w' := by
  have HR0 := Aside0.mk hr0
  have HC0 := Aside0.mk hc0
  clear hr0 hc0
  have HB := Aside0.mk (Below.refl w.heap.size w)
  have H : (textutils_zzReplaceAll.l0 k l0 a1 a2 ([] : List Int) 0) = some r := h
  clear h
  have H' := Aside0.mk H
  clear H
  go_enter Try.func101, Try.ntmps101
  go_wp2
  go_loopg [7, 8] k (fun kq v7 v8 w' => ∃ (x7_1 : List Int) (x8_1 : Int), v8 = .int .i64 x8_1 ∧ Aside0 (textutils_zzReplaceAll.l0 kq l0 a1 a2 x7_1 x8_1 = some r) ∧ Aside0 (kq ≤ k) ∧ Aside0 (Kd.R (Kd.int .u8) 5 w' w.heap.size (fun _ => True) v7 x7_1) ∧ Aside0 (Below w.heap.size w w'))
  case atStart => exact ⟨(([] : List Int)), (0), (by first | rfl | (simp; done) | (simp [*]; done)), H', ⟨Nat.le_refl _⟩, ⟨by first | exact Kd.R_nil _ _ _ _ _ | exact Kd.N_nil _ _ _ _ _ | exact Kd.V_nil _ _ _ _ _ | exact Kd.Q_nil _ _ _ _ _ | exact Kd.S_nil _ _ _ _ _⟩, ⟨by repeat (first | (with_reducible first | exact HB.out | apply below_alloc | apply pw_below_drewN | apply below_drew1) | exact HB.out)⟩⟩
  case round =>
    clear H'
    try clear c1
    try clear p2
    obtain ⟨x7_1, x8_1, rfl, HA, HK1, HO_7, HB⟩ := hrel
    cases gk with
    | zero => exact absurd HA.out (by simp [textutils_zzReplaceAll.l0])
    | succ k1 =>
      have H := HA.out
      clear HA
      simp only [textutils_zzReplaceAll.l0] at H
      by_cases c4 : x8_1 < (l0.length : Int)
      · rw [if_pos c4] at H
        have c4b0 : decide (x8_1 < (l0.length : Int)) = true := decide_eq_true c4
        clear c4
        by_cases c5 : (wrap64 (x8_1 + (a1.size : Int))) ≤ (l0.length : Int)
        · rw [if_pos c5] at H
          have c5b0 : decide ((wrap64 (x8_1 + (a1.size : Int))) ≤ (l0.length : Int)) = true := decide_eq_true c5
          clear c5
          by_cases c6 : 0 ≤ x8_1
          · rw [if_pos c6] at H
            have c6b0 := eq_true c6
            have c6b1 : decide (0 ≤ x8_1) = true := decide_eq_true c6
            clear c6
            by_cases c7 : x8_1 ≤ (wrap64 (x8_1 + (a1.size : Int)))
            · rw [if_pos c7] at H
              have c7b0 := eq_true c7
              have c7b1 : decide (x8_1 ≤ (wrap64 (x8_1 + (a1.size : Int)))) = true := decide_eq_true c7
              have c8b0 := eq_true (of_decide_eq_true (by first | (with_reducible assumption) | assumption) : (wrap64 (x8_1 + (a1.size : Int))) ≤ (l0.length : Int))
              by_cases c9 : (strOfNums ((l0.take ((wrap64 (x8_1 + (a1.size : Int))) : Int).toNat).drop (x8_1 : Int).toNat)).toList = a1.toList
              · rw [if_pos c9] at H
                have c9b0 : ((strOfNums ((l0.take ((wrap64 (x8_1 + (a1.size : Int))) : Int).toNat).drop (x8_1 : Int).toNat)).toList == a1.toList) = true := beq_iff_eq.mpr c9
                have c9b1 : ((strOfNums ((l0.take ((wrap64 (x8_1 + (a1.size : Int))) : Int).toNat).drop (x8_1 : Int).toNat)).toList != a1.toList) = false := bne_eq_false_iff_eq.mpr c9
                clear c9
                by_cases c10 : x7_1.length + a2.size < 140737488355328
                · rw [if_pos c10] at H
                  have LMc10 := Aside0.mk c10
                  clear c10
                  obtain ⟨y160, hy160⟩ : ∃ y_ : List Int, y_ = (x7_1 ++ bytesOf a2) := ⟨_, rfl⟩
                  replace H : (textutils_zzReplaceAll.l0 k1 l0 a1 a2 y160 (wrap64 (x8_1 + (a1.size : Int)))) = some r := by first | (rw [hy160]; with_reducible exact H) | (have H2_ := (Option.bind_some _ _).symm.trans H; rw [hy160]; with_reducible exact H2_) | (have H2_ := (Option.bind_some _ _).symm.trans H; with_reducible exact H2_) | with_reducible exact H | (rw [hy160]; exact H) | exact H
                  have Ny160 := Aside0.mk hy160
                  clear hy160
                  have H' := Aside0.mk H
                  clear H
                  obtain ⟨i011, hi011, _, hsz11, _⟩ := info_parts info5
                  obtain ⟨A11, hcut11, hA11, hC11⟩ := print_mid_of (P := Try.prog) (Value.int .u8) 0 58 5 .i64 .i64 Try.underlying58 hi011 hsz11 A0 c0 l0 x8_1 (wrap64 (x8_1 + (a1.size : Int))) (of_decide_eq_true (by first | (with_reducible assumption) | assumption)) (by first | omega | exact of_decide_eq_true (by first | (with_reducible assumption) | assumption)) (of_decide_eq_true (by first | (with_reducible assumption) | assumption)) HC0.out
                  have HR159 := Aside0.mk (Kd.C_of_reads (h1 := fun _ => rfl) (hA11 _ (Kd.reads_of_C HR0.out)))
                  have HC159 := Aside0.mk hC11
                  clear hA11 hC11 hi011 hsz11
                  have hcv12 := Kd.C_string (P := Try.prog) (A := A11) (c := (c0 - x8_1.toNat)) Try.underlying58 Try.underlying5 Try.underlying9 (Kd.C_below HR159.out HB.out)
                  have hl12_ : ((l0.take (wrap64 (x8_1 + (a1.size : Int))).toNat).drop x8_1.toNat).length = (wrap64 (x8_1 + (a1.size : Int))).toNat - x8_1.toNat := by
                    have q_ : (wrap64 (x8_1 + (a1.size : Int))) ≤ (l0.length : Int) := of_decide_eq_true (by assumption)
                    rw [List.length_drop, List.length_take]; omega
                  rw [hl12_] at hcv12
                  clear hl12_
                  go_wp2_with (first | (at_builtin; refine print_append_str (w0 := w) w.heap.size rfl (.tmp 32) _ 58 9 5 rfl Try.underlying58 Try.underlying9 info5 u7 x7_1 a2 rfl rfl ?aO ?aB ?aS ?aL ?_; (case aB => exact (by repeat (first | (with_reducible first | exact HB.out | apply below_alloc | apply pw_below_drewN | apply below_drew1) | exact HB.out))); (case aO => exact (Kd.own_of_R (by (with_reducible repeat (first | apply Kd.R_alloc | apply Kd.R_drewN | apply Kd.R_drew)); exact HO_7.out))); (case aS => exact (below_size (by repeat (first | (with_reducible first | exact HB.out | apply below_alloc | apply pw_below_drewN | apply below_drew1) | exact HB.out)))); (case aL => have := LMc10.out; omega); intro v161 w13 ho0 hb hg; have ho := Kd.R_of_own (h1 := fun _ => rfl) (ok := fun _ => True) ho0 (fun _ _ => trivial); clear ho0; have hat := True.intro; rw [← Ny160.out] at ho; change Kd.R (Kd.int .u8) 5 w13 w.heap.size (fun _ => True) v161 y160 at ho; have n0_ := Aside0.mk (hb); have n1_ := Aside0.mk (ho); clear HB; clear HO_7; have HB := n0_; have HO162 := n1_; clear n0_ n1_; clear ho hb hg hat))
                  go_roundg k1
                  case measure => have := HK1.out; omega
                  case rel => exact ⟨(y160), (wrap64 (x8_1 + (a1.size : Int))), (by first | rfl | (simp; done) | (simp [*]; done)), H', ⟨by have := HK1.out; omega⟩, ⟨by (with_reducible repeat (first | apply Kd.R_alloc | apply Kd.R_drewN | apply Kd.R_drew)); exact HO162.out⟩, ⟨by repeat (first | (with_reducible first | exact HB.out | apply below_alloc | apply pw_below_drewN | apply below_drew1) | exact HB.out)⟩⟩
                · rw [if_neg c10] at H
                  exact absurd H (by simp)
              · rw [if_neg c9] at H
                have c9b0 : ((strOfNums ((l0.take ((wrap64 (x8_1 + (a1.size : Int))) : Int).toNat).drop (x8_1 : Int).toNat)).toList == a1.toList) = false := beq_eq_false_iff_ne.mpr c9
                have c9b1 : ((strOfNums ((l0.take ((wrap64 (x8_1 + (a1.size : Int))) : Int).toNat).drop (x8_1 : Int).toNat)).toList != a1.toList) = true := bne_iff_ne.mpr c9
                by_cases c14 : x7_1.length < 140737488355328
                · rw [if_pos c14] at H
                  have LMc14 := Aside0.mk c14
                  clear c14
                  obtain ⟨y164, hy164⟩ : ∃ y_ : List Int, y_ = (x7_1 ++ [rd l0 x8_1]) := ⟨_, rfl⟩
                  replace H : (textutils_zzReplaceAll.l0 k1 l0 a1 a2 y164 (wrap64 (x8_1 + 1))) = some r := by first | (rw [hy164]; with_reducible exact H) | (have H2_ := (Option.bind_some _ _).symm.trans H; rw [hy164]; with_reducible exact H2_) | (have H2_ := (Option.bind_some _ _).symm.trans H; with_reducible exact H2_) | with_reducible exact H | (rw [hy164]; exact H) | exact H
                  have Ny164 := Aside0.mk hy164
                  clear hy164
                  have H' := Aside0.mk H
                  clear H
                  obtain ⟨i015, hi015, _, hsz15, _⟩ := info_parts info5
                  obtain ⟨A15, hcut15, hA15, hC15⟩ := print_mid_of (P := Try.prog) (Value.int .u8) 0 58 5 .i64 .i64 Try.underlying58 hi015 hsz15 A0 c0 l0 x8_1 (wrap64 (x8_1 + (a1.size : Int))) (of_decide_eq_true (by first | (with_reducible assumption) | assumption)) (by first | omega | exact of_decide_eq_true (by first | (with_reducible assumption) | assumption)) (of_decide_eq_true (by first | (with_reducible assumption) | assumption)) HC0.out
                  have HR159 := Aside0.mk (Kd.C_of_reads (h1 := fun _ => rfl) (hA15 _ (Kd.reads_of_C HR0.out)))
                  have HC159 := Aside0.mk hC15
                  clear hA15 hC15 hi015 hsz15
                  have hcv16 := Kd.C_string (P := Try.prog) (A := A15) (c := (c0 - x8_1.toNat)) Try.underlying58 Try.underlying5 Try.underlying9 (Kd.C_below HR159.out HB.out)
                  have hl16_ : ((l0.take (wrap64 (x8_1 + (a1.size : Int))).toNat).drop x8_1.toNat).length = (wrap64 (x8_1 + (a1.size : Int))).toNat - x8_1.toNat := by
                    have q_ : (wrap64 (x8_1 + (a1.size : Int))) ≤ (l0.length : Int) := of_decide_eq_true (by assumption)
                    rw [List.length_drop, List.length_take]; omega
                  rw [hl16_] at hcv16
                  clear hl16_
                  have p163 : 0 ≤ (x8_1 : Int) := of_decide_eq_true (by first | (with_reducible assumption) | assumption)
                  have q163 : x8_1 < (l0.length : Int) := of_decide_eq_true (by first | (with_reducible assumption) | assumption)
                  obtain ⟨ad163, e163, hx163_0⟩ := Kd.at_int HR0.out x8_1 p163 q163
                  cases e163
                  replace hx163_0 := (HB.out.cell (World.block_lt_of_cell? w _ hx163_0)).trans hx163_0
                  replace p163 := eq_true p163
                  replace q163 := eq_true q163
                  go_wp2_with (first | ((with_reducible refine gate_builtin (b := .append) (xs := #[.tmp 39, .tmp 44]) rfl ?_); (try (refine gate_guard (by rfl) ?_; dsimp only)); at_builtin; refine Kd.R_append (Kd.int .u8) (w0 := w) w.heap.size rfl (.tmp 39) (.tmp 44) 58 5 (.int .u8 0) 1 rfl Try.underlying58 info5 rfl (by decide) (by omega) u7 x7_1 (rd l0 x8_1) [.int .u8 (rd l0 x8_1)] (fun _ => True) (fun _ => False) rfl rfl ?aP (fun _ hk => hk.elim) ?aF ?aO ?aB ?aS ?aL ?_; (case aP => exact rfl); (case aB => exact (by repeat (first | (with_reducible first | exact HB.out | apply below_alloc | apply pw_below_drewN | apply below_drew1) | exact HB.out))); (case aF => exact (fun _ _ => trivial)); (case aO => exact (by (with_reducible repeat (first | apply Kd.R_alloc | apply Kd.R_drewN | apply Kd.R_drew)); exact HO_7.out)); (case aS => exact (below_size (by repeat (first | (with_reducible first | exact HB.out | apply below_alloc | apply pw_below_drewN | apply below_drew1) | exact HB.out)))); (case aL => have := LMc14.out; omega); intro v165 w17 ho hb hg hat; rw [← Ny164.out] at ho; have n0_ := Aside0.mk (hb); have n1_ := Aside0.mk (ho); clear HB; clear HO_7; have HB := n0_; have HO166 := n1_; clear n0_ n1_; clear ho hb hg hat))
                  go_roundg k1
                  case measure => have := HK1.out; omega
                  case rel => exact ⟨(y164), (wrap64 (x8_1 + 1)), (by first | rfl | (simp; done) | (simp [*]; done)), H', ⟨by have := HK1.out; omega⟩, ⟨by (with_reducible repeat (first | apply Kd.R_alloc | apply Kd.R_drewN | apply Kd.R_drew)); exact HO166.out⟩, ⟨by repeat (first | (with_reducible first | exact HB.out | apply below_alloc | apply pw_below_drewN | apply below_drew1) | exact HB.out)⟩⟩
                · rw [if_neg c14] at H
                  exact absurd H (by simp)
            · rw [if_neg c7] at H
              exact absurd H (by simp)
          · rw [if_neg c6] at H
            exact absurd H (by simp)
        · rw [if_neg c5] at H
          have c5b0 : decide ((wrap64 (x8_1 + (a1.size : Int))) ≤ (l0.length : Int)) = false := decide_eq_false c5
          clear c5
          by_cases c18 : 0 ≤ x8_1
          · rw [if_pos c18] at H
            have c18b0 : decide (0 ≤ x8_1) = true := decide_eq_true c18
            clear c18
            by_cases c19 : x7_1.length < 140737488355328
            · rw [if_pos c19] at H
              have LMc19 := Aside0.mk c19
              clear c19
              obtain ⟨y168, hy168⟩ : ∃ y_ : List Int, y_ = (x7_1 ++ [rd l0 x8_1]) := ⟨_, rfl⟩
              replace H : (textutils_zzReplaceAll.l0 k1 l0 a1 a2 y168 (wrap64 (x8_1 + 1))) = some r := by first | (rw [hy168]; with_reducible exact H) | (have H2_ := (Option.bind_some _ _).symm.trans H; rw [hy168]; with_reducible exact H2_) | (have H2_ := (Option.bind_some _ _).symm.trans H; with_reducible exact H2_) | with_reducible exact H | (rw [hy168]; exact H) | exact H
              have Ny168 := Aside0.mk hy168
              clear hy168
              have H' := Aside0.mk H
              clear H
              have p167 : 0 ≤ (x8_1 : Int) := of_decide_eq_true (by first | (with_reducible assumption) | assumption)
              have q167 : x8_1 < (l0.length : Int) := of_decide_eq_true (by first | (with_reducible assumption) | assumption)
              obtain ⟨ad167, e167, hx167_0⟩ := Kd.at_int HR0.out x8_1 p167 q167
              cases e167
              replace hx167_0 := (HB.out.cell (World.block_lt_of_cell? w _ hx167_0)).trans hx167_0
              replace p167 := eq_true p167
              replace q167 := eq_true q167
              go_wp2_with (first | ((with_reducible refine gate_builtin (b := .append) (xs := #[.tmp 39, .tmp 44]) rfl ?_); (try (refine gate_guard (by rfl) ?_; dsimp only)); at_builtin; refine Kd.R_append (Kd.int .u8) (w0 := w) w.heap.size rfl (.tmp 39) (.tmp 44) 58 5 (.int .u8 0) 1 rfl Try.underlying58 info5 rfl (by decide) (by omega) u7 x7_1 (rd l0 x8_1) [.int .u8 (rd l0 x8_1)] (fun _ => True) (fun _ => False) rfl rfl ?aP (fun _ hk => hk.elim) ?aF ?aO ?aB ?aS ?aL ?_; (case aP => exact rfl); (case aB => exact (by repeat (first | (with_reducible first | exact HB.out | apply below_alloc | apply pw_below_drewN | apply below_drew1) | exact HB.out))); (case aF => exact (fun _ _ => trivial)); (case aO => exact (by (with_reducible repeat (first | apply Kd.R_alloc | apply Kd.R_drewN | apply Kd.R_drew)); exact HO_7.out)); (case aS => exact (below_size (by repeat (first | (with_reducible first | exact HB.out | apply below_alloc | apply pw_below_drewN | apply below_drew1) | exact HB.out)))); (case aL => have := LMc19.out; omega); intro v169 w20 ho hb hg hat; rw [← Ny168.out] at ho; have n0_ := Aside0.mk (hb); have n1_ := Aside0.mk (ho); clear HB; clear HO_7; have HB := n0_; have HO170 := n1_; clear n0_ n1_; clear ho hb hg hat))
              go_roundg k1
              case measure => have := HK1.out; omega
              case rel => exact ⟨(y168), (wrap64 (x8_1 + 1)), (by first | rfl | (simp; done) | (simp [*]; done)), H', ⟨by have := HK1.out; omega⟩, ⟨by (with_reducible repeat (first | apply Kd.R_alloc | apply Kd.R_drewN | apply Kd.R_drew)); exact HO170.out⟩, ⟨by repeat (first | (with_reducible first | exact HB.out | apply below_alloc | apply pw_below_drewN | apply below_drew1) | exact HB.out)⟩⟩
            · rw [if_neg c19] at H
              exact absurd H (by simp)
          · rw [if_neg c18] at H
            exact absurd H (by simp)
      · rw [if_neg c4] at H
        have c4b0 : decide (x8_1 < (l0.length : Int)) = false := decide_eq_false c4
        clear c4
        obtain rfl := Option.some.inj H
        go_wp2
        go_ret
        exact ⟨_, by first | rfl | (simp [errW_none, errW_some] <;> rfl) | (simp [*, errW_none, errW_some] <;> rfl), by (with_reducible repeat (first | apply Kd.R_alloc | apply Kd.R_drewN | apply Kd.R_drew)); exact HO_7.out, by repeat (first | (with_reducible first | exact HB.out | apply below_alloc | apply pw_below_drewN | apply below_drew1) | exact HB.out)⟩
/-! ### spec_Blank: function 43 -/
def spec_Blank.f (a0 : Int) : Option (Bool) := if a0 = 32 then (some true) else (if a0 = 9 then (some true) else (if a0 = 10 then (some true) else (some (a0 == 13))))
set_option maxHeartbeats 8000000 in
set_option maxRecDepth 100000 in
theorem spec_Blank.calls (a0 : Int) (r : Bool) (w : World) (h : spec_Blank.f a0 = some r) :
    Calls Try.prog 43 #[.int .u8 a0] w fun e w' => e = .returned (.bool r) ∧ Drawn0 w w' := by
  have H : (if a0 = 32 then (some true) else (if a0 = 9 then (some true) else (if a0 = 10 then (some true) else (some (a0 == 13))))) = some r := h
  clear h
  by_cases c2 : a0 = 32
  · rw [if_pos c2] at H
    have c2b0 : (a0 == 32) = true := beq_iff_eq.mpr c2
    have c2b1 : (a0 != 32) = false := bne_eq_false_iff_eq.mpr c2
    clear c2
    obtain rfl := Option.some.inj H
    go_enter Try.func43, Try.ntmps43
    go_wp2
    go_ret
    exact ⟨by first | rfl | (simp; done) | (simp [*]; done), by repeat (first | exact Drawn0.refl _ | apply Drawn0.step)⟩
  · rw [if_neg c2] at H
    have c2b0 : (a0 == 32) = false := beq_eq_false_iff_ne.mpr c2
    have c2b1 : (a0 != 32) = true := bne_iff_ne.mpr c2
    by_cases c3 : a0 = 9
    · rw [if_pos c3] at H
      have c3b0 : (a0 == 9) = true := beq_iff_eq.mpr c3
      have c3b1 : (a0 != 9) = false := bne_eq_false_iff_eq.mpr c3
      clear c3
      obtain rfl := Option.some.inj H
      go_enter Try.func43, Try.ntmps43
      go_wp2
      go_ret
      exact ⟨by first | rfl | (simp; done) | (simp [*]; done), by repeat (first | exact Drawn0.refl _ | apply Drawn0.step)⟩
    · rw [if_neg c3] at H
      have c3b0 : (a0 == 9) = false := beq_eq_false_iff_ne.mpr c3
      have c3b1 : (a0 != 9) = true := bne_iff_ne.mpr c3
      by_cases c4 : a0 = 10
      · rw [if_pos c4] at H
        have c4b0 : (a0 == 10) = true := beq_iff_eq.mpr c4
        have c4b1 : (a0 != 10) = false := bne_eq_false_iff_eq.mpr c4
        clear c4
        obtain rfl := Option.some.inj H
        go_enter Try.func43, Try.ntmps43
        go_wp2
        go_ret
        exact ⟨by first | rfl | (simp; done) | (simp [*]; done), by repeat (first | exact Drawn0.refl _ | apply Drawn0.step)⟩
      · rw [if_neg c4] at H
        have c4b0 : (a0 == 10) = false := beq_eq_false_iff_ne.mpr c4
        have c4b1 : (a0 != 10) = true := bne_iff_ne.mpr c4
        obtain rfl := Option.some.inj H
        go_enter Try.func43, Try.ntmps43
        go_wp2
        go_ret
        exact ⟨by first | rfl | (simp; done) | (simp [*]; done), by repeat (first | exact Drawn0.refl _ | apply Drawn0.step)⟩
/-! ### spec_Solid: function 17 -/
def spec_Solid.l0 : Nat → ByteArray → List Int → Int → Int → Option (ByteArray)
  | 0, _, _, _, _ => none
  | k + 1, x0, x3, x7, x8 => if x8 < x7 then (if 0 ≤ x8 then (if x8 < (x0.size : Int) then ((spec_Blank.f (bt x0 x8)).bind fun t207 => (if t207 = true then (spec_Solid.l0 k x0 x3 x7 (wrap64 (x8 + 1))) else (if x3.length < 140737488355328 then (spec_Solid.l0 k x0 (x3 ++ [bt x0 x8]) x7 (wrap64 (x8 + 1))) else (none)))) else (none)) else (none)) else (some (strOfNums x3))
def spec_Solid.f (k : Nat) (a0 : ByteArray) : Option (ByteArray) := spec_Solid.l0 k a0 (([] : List Int)) (a0.size : Int) 0
theorem spec_Solid.mono_l : ∀ k, (∀ y0 y1 y2 y3, LeO (spec_Solid.l0 k y0 y1 y2 y3) (spec_Solid.l0 (k + 1) y0 y1 y2 y3))
  | 0 => fun _ _ _ _ r h => by simp [spec_Solid.l0] at h
  | k + 1 => by
    have ih0 := spec_Solid.mono_l k
    · intro y0 y1 y2 y3
      unfold spec_Solid.l0
      repeat' first
      | (with_reducible exact ih0 _ _ _ _)
      | (with_reducible exact LeO.refl _)
      | (with_reducible exact LeO.none _)
      | (with_reducible refine LeO.ite ?_ ?_)
      | (with_reducible refine LeO.bind ?_ (fun _ => ?_))
      | exact ih0 _ _ _ _
      | exact LeO.none _
      | refine LeO.ite ?_ ?_
      | refine LeO.bind ?_ (fun _ => ?_)
theorem spec_Solid.mono : ∀ a0 k, LeO (spec_Solid.f k a0) (spec_Solid.f (k + 1) a0) := by
  intro a0 k
  have ih0 := spec_Solid.mono_l k
  unfold spec_Solid.f
  repeat' first
      | (with_reducible exact ih0 _ _ _ _)
      | (with_reducible exact LeO.refl _)
      | (with_reducible exact LeO.none _)
      | (with_reducible refine LeO.ite ?_ ?_)
      | (with_reducible refine LeO.bind ?_ (fun _ => ?_))
      | exact ih0 _ _ _ _
      | exact LeO.none _
      | refine LeO.ite ?_ ?_
      | refine LeO.bind ?_ (fun _ => ?_)
set_option maxHeartbeats 8000000 in
set_option maxRecDepth 100000 in
theorem spec_Solid.calls (k : Nat) (a0 : ByteArray) (r : ByteArray) (w : World) (h : spec_Solid.f k a0 = some r) :
    Calls Try.prog 17 #[.string a0] w fun e w' => e = .returned (.string r) ∧ Below w.heap.size w w' := by
  have HB := Aside0.mk (Below.refl w.heap.size w)
  have H : (spec_Solid.l0 k a0 (([] : List Int)) (a0.size : Int) 0) = some r := h
  clear h
  obtain ⟨y204, hy204⟩ : ∃ y_ : List Int, y_ = (([] : List Int)) := ⟨_, rfl⟩
  replace H : (spec_Solid.l0 k a0 y204 (a0.size : Int) 0) = some r := by first | (rw [hy204]; with_reducible exact H) | (have H2_ := (Option.bind_some _ _).symm.trans H; rw [hy204]; with_reducible exact H2_) | (have H2_ := (Option.bind_some _ _).symm.trans H; with_reducible exact H2_) | with_reducible exact H | (rw [hy204]; exact H) | exact H
  have Ny204 := Aside0.mk hy204
  clear hy204
  have H' := Aside0.mk H
  clear H
  go_enter Try.func17, Try.ntmps17
  go_wp2_with (first | ((with_reducible refine gate_dst (N := 5) rfl ?_); refine Kd.R_lit (Kd.int .u8) _ 5 ?hg (N := 5) ?hd (xs := ([] : List Int)) (inner := []) (ok := fun _ => True) (okp := fun _ => True) ?hr ?hp (fun _ hk => hk) trivial (Below.refl _ _) (Nat.le_refl _) (by simp) ?_; (case hd => rfl); (case hg => rfl); (case hr => first | (go_simp; done) | (go_simp; rfl)); (case hp => exact (Reps.none _ _)); intro v205 w2 ho3 hb hg_ hnew_; clear hg_ hnew_; (first | rw [← Ny204.out] at ho3 | (simp only [Int.reduceToNat] at ho3; rw [← Ny204.out] at ho3)); have n0_ := Aside0.mk (Kd.R_lower ho3 (below_size (by repeat (first | (with_reducible first | exact HB.out | apply below_alloc | apply pw_below_drewN | apply below_drew1) | exact HB.out)))); have n1_ := Aside0.mk (below_step (by repeat (first | (with_reducible first | exact HB.out | apply below_alloc | apply pw_below_drewN | apply below_drew1) | exact HB.out)) hb); clear HB; have HO206 := n0_; have HB := n1_; clear n0_ n1_; clear hb ho3))
  go_loopg [3, 8] k (fun kq v3 v8 w' => ∃ (x3_1 : List Int) (x8_1 : Int), v8 = .int .i64 x8_1 ∧ Aside0 (spec_Solid.l0 kq a0 x3_1 (a0.size : Int) x8_1 = some r) ∧ Aside0 (kq ≤ k) ∧ Aside0 (Kd.R (Kd.int .u8) 5 w' w.heap.size (fun _ => True) v3 x3_1) ∧ Aside0 (Below w.heap.size w w'))
  case atStart => exact ⟨(y204), (0), (by first | rfl | (simp; done) | (simp [*]; done)), H', ⟨Nat.le_refl _⟩, ⟨by (with_reducible repeat (first | apply Kd.R_alloc | apply Kd.R_drewN | apply Kd.R_drew)); exact HO206.out⟩, ⟨by repeat (first | (with_reducible first | exact HB.out | apply below_alloc | apply pw_below_drewN | apply below_drew1) | exact HB.out)⟩⟩
  case round =>
    clear H'
    try clear c1
    try clear p2
    obtain ⟨x3_1, x8_1, rfl, HA, HK1, HO_3, HB⟩ := hrel
    cases gk with
    | zero => exact absurd HA.out (by simp [spec_Solid.l0])
    | succ k1 =>
      have H := HA.out
      clear HA
      simp only [spec_Solid.l0] at H
      by_cases c4 : x8_1 < (a0.size : Int)
      · rw [if_pos c4] at H
        have c4b0 : decide (x8_1 < (a0.size : Int)) = true := decide_eq_true c4
        clear c4
        by_cases c5 : 0 ≤ x8_1
        · rw [if_pos c5] at H
          have c5b0 : decide (0 ≤ x8_1) = true := decide_eq_true c5
          clear c5
          by_cases c6 : x8_1 < (a0.size : Int)
          · rw [if_pos c6] at H
            have c6b0 : decide (x8_1 < (a0.size : Int)) = true := decide_eq_true c6
            clear c6
            replace H := Option.bind_eq_some_iff.mp H
            obtain ⟨t207, A80, H⟩ := H
            replace H : (if t207 = true then (spec_Solid.l0 k1 a0 x3_1 (a0.size : Int) (wrap64 (x8_1 + 1))) else (if x3_1.length < 140737488355328 then (spec_Solid.l0 k1 a0 (x3_1 ++ [bt a0 x8_1]) (a0.size : Int) (wrap64 (x8_1 + 1))) else (none))) = some r := H
            have A8 := Aside0.mk A80
            clear A80
            by_cases c9 : t207 = true
            · subst c9
              have H1 : (spec_Solid.l0 k1 a0 x3_1 (a0.size : Int) (wrap64 (x8_1 + 1))) = some r := by rw [if_pos rfl] at H; exact H
              clear H
              have H := H1
              clear H1
              have H' := Aside0.mk H
              clear H
              have p7 : 0 ≤ (x8_1 : Int) := of_decide_eq_true (by first | (with_reducible assumption) | assumption)
              have q7 : x8_1 < (a0.size : Int) := of_decide_eq_true (by first | (with_reducible assumption) | assumption)
              have hx7 := bt_at a0 x8_1
              replace p7 := eq_true p7
              replace q7 := eq_true q7
              go_wp2_with (first | ((with_reducible refine gate_callee (f := 43) rfl ?_); refine goesL_ (some 14) rfl rfl Try.func43 (by kernel_rfl) rfl #[.int .u8 (bt a0 x8_1)] rfl (by (try simp only [List.map_toArray, List.map_cons, List.map_nil]); first | done | rfl | (simp only [List.length_drop, List.length_take]; rfl)) ?_; (with_reducible refine (spec_Blank.calls (bt a0 x8_1) true _ A8.out).mono ?_); rintro e w' ⟨rfl, ⟨nd, rfl⟩⟩; refine ⟨_, rfl, ?_⟩))
              go_roundg k1
              case measure => have := HK1.out; omega
              case rel => exact ⟨(x3_1), (wrap64 (x8_1 + 1)), (by first | rfl | (simp; done) | (simp [*]; done)), H', ⟨by have := HK1.out; omega⟩, ⟨by (with_reducible repeat (first | apply Kd.R_alloc | apply Kd.R_drewN | apply Kd.R_drew)); exact HO_3.out⟩, ⟨by repeat (first | (with_reducible first | exact HB.out | apply below_alloc | apply pw_below_drewN | apply below_drew1) | exact HB.out)⟩⟩
            · replace c9 := Bool.eq_false_iff.mpr c9
              subst c9
              have H1 : (if x3_1.length < 140737488355328 then (spec_Solid.l0 k1 a0 (x3_1 ++ [bt a0 x8_1]) (a0.size : Int) (wrap64 (x8_1 + 1))) else (none)) = some r := by rw [if_neg (show ¬ (false = true) by decide)] at H; exact H
              clear H
              have H := H1
              clear H1
              by_cases c11 : x3_1.length < 140737488355328
              · rw [if_pos c11] at H
                have LMc11 := Aside0.mk c11
                clear c11
                obtain ⟨y208, hy208⟩ : ∃ y_ : List Int, y_ = (x3_1 ++ [bt a0 x8_1]) := ⟨_, rfl⟩
                replace H : (spec_Solid.l0 k1 a0 y208 (a0.size : Int) (wrap64 (x8_1 + 1))) = some r := by first | (rw [hy208]; with_reducible exact H) | (have H2_ := (Option.bind_some _ _).symm.trans H; rw [hy208]; with_reducible exact H2_) | (have H2_ := (Option.bind_some _ _).symm.trans H; with_reducible exact H2_) | with_reducible exact H | (rw [hy208]; exact H) | exact H
                have Ny208 := Aside0.mk hy208
                clear hy208
                have H' := Aside0.mk H
                clear H
                have p7 : 0 ≤ (x8_1 : Int) := of_decide_eq_true (by first | (with_reducible assumption) | assumption)
                have q7 : x8_1 < (a0.size : Int) := of_decide_eq_true (by first | (with_reducible assumption) | assumption)
                have hx7 := bt_at a0 x8_1
                replace p7 := eq_true p7
                replace q7 := eq_true q7
                go_wp2_with (first | ((with_reducible refine gate_callee (f := 43) rfl ?_); refine goesL_ (some 14) rfl rfl Try.func43 (by kernel_rfl) rfl #[.int .u8 (bt a0 x8_1)] rfl (by (try simp only [List.map_toArray, List.map_cons, List.map_nil]); first | done | rfl | (simp only [List.length_drop, List.length_take]; rfl)) ?_; (with_reducible refine (spec_Blank.calls (bt a0 x8_1) false _ A8.out).mono ?_); rintro e w' ⟨rfl, ⟨nd, rfl⟩⟩; refine ⟨_, rfl, ?_⟩; have p10 : 0 ≤ (x8_1 : Int) := of_decide_eq_true (by first | (with_reducible assumption) | assumption); have q10 : x8_1 < (a0.size : Int) := of_decide_eq_true (by first | (with_reducible assumption) | assumption); have hx10 := bt_at a0 x8_1; replace p10 := eq_true p10; replace q10 := eq_true q10) | ((with_reducible refine gate_builtin (b := .append) (xs := #[.tmp 16, .tmp 20]) rfl ?_); at_builtin; refine Kd.R_append (Kd.int .u8) (w0 := w) w.heap.size rfl (.tmp 16) (.tmp 20) 58 5 (.int .u8 0) 1 rfl Try.underlying58 info5 rfl (by decide) (by omega) u3 x3_1 (bt a0 x8_1) [.int .u8 (bt a0 x8_1)] (fun _ => True) (fun _ => False) rfl rfl ?aP (fun _ hk => hk.elim) ?aF ?aO ?aB ?aS ?aL ?_; (case aP => exact rfl); (case aB => exact (by repeat (first | (with_reducible first | exact HB.out | apply below_alloc | apply pw_below_drewN | apply below_drew1) | exact HB.out))); (case aF => exact (fun _ _ => trivial)); (case aO => exact (by (with_reducible repeat (first | apply Kd.R_alloc | apply Kd.R_drewN | apply Kd.R_drew)); exact HO_3.out)); (case aS => exact (below_size (by repeat (first | (with_reducible first | exact HB.out | apply below_alloc | apply pw_below_drewN | apply below_drew1) | exact HB.out)))); (case aL => have := LMc11.out; omega); intro v209 w12 ho hb hg hat; rw [← Ny208.out] at ho; have n0_ := Aside0.mk (hb); have n1_ := Aside0.mk (ho); clear HB; clear HO_3; have HB := n0_; have HO210 := n1_; clear n0_ n1_; clear ho hb hg hat))
                go_roundg k1
                case measure => have := HK1.out; omega
                case rel => exact ⟨(y208), (wrap64 (x8_1 + 1)), (by first | rfl | (simp; done) | (simp [*]; done)), H', ⟨by have := HK1.out; omega⟩, ⟨by (with_reducible repeat (first | apply Kd.R_alloc | apply Kd.R_drewN | apply Kd.R_drew)); exact HO210.out⟩, ⟨by repeat (first | (with_reducible first | exact HB.out | apply below_alloc | apply pw_below_drewN | apply below_drew1) | exact HB.out)⟩⟩
              · rw [if_neg c11] at H
                exact absurd H (by simp)
          · rw [if_neg c6] at H
            exact absurd H (by simp)
        · rw [if_neg c5] at H
          exact absurd H (by simp)
      · rw [if_neg c4] at H
        have c4b0 : decide (x8_1 < (a0.size : Int)) = false := decide_eq_false c4
        clear c4
        obtain rfl := Option.some.inj H
        have hcv13 := own_string (P := Try.prog) Try.underlying58 Try.underlying5 Try.underlying9 (Kd.own_of_R HO_3.out)
        go_wp2
        go_ret
        exact ⟨by first | rfl | (simp [errW_none, errW_some] <;> rfl) | (simp [*, errW_none, errW_some] <;> rfl), by repeat (first | (with_reducible first | exact HB.out | apply below_alloc | apply pw_below_drewN | apply below_drew1) | exact HB.out)⟩
end Go.Proofs.Ytmfjbljdbkmkgaa.PDom

/- What impl.Quoted returns: the text within quotes. For texts of less than 2^31 bytes. -/
namespace Go.Proofs.Ytmfjbljdbkmkgaa.PDom
open Go.Proofs.Ytmfjbljdbkmkgaa.Keep Go.RowKit Go.Proofs.YtmfjbljdbkmkgaaW.PrintWords Go.Proofs.YtmfjbljdbkmkgaaW.PrintLast Go.Proofs.YtmfjbljdbkmkgaaW.PrintMore
set_option linter.unusedVariables false
set_option linter.unusedSimpArgs false

theorem run_convert_same {P : Program} (t e : TypeId) (ht : P.underlying t = some (.slice e)) (he : P.underlying e = some (.int .u8)) (g n c : Nat) (cs : Array Value) (W : World) (hg : W.heap[g]? = some (.cells cs e (0, 0))) :
    (convert t t (.slice (some ⟨g, 0, none⟩) n c)).run P W = .ok (.slice (some ⟨g, 0, none⟩) n c) (W.freeze ⟨g, cs.size, none⟩ 1) := by
  simp [convert, run_underlying ht, run_underlying he, markStringish, World.shape?, hg, Result.andThen]

/-- A text between two signs that are one byte each. -/
theorem around_any (w : World) (ad : Addr) (q : Int) (A0 : Option Addr) (n0 c0 : Nat) (l0 : List Int) (h0 : 0 < n0) (hb : n0 ≤ 4294967296) (hr : ReadsInt w .u8 A0 n0 l0) (hx : ReadsInt w .u8 (some ad) 1 [q]) :
    Calls Try.prog 102 #[.slice A0 n0 c0, .slice (some ad) 1 1] w fun e w' => ∃ v : Value, e = .returned v ∧ w'.ownsRow w.heap.size 5 1 v (l0.length + 2) (nums .u8 (q :: l0 ++ [q])) ∧ Below w.heap.size w w' := by
  have HR := Aside0.mk hr
  have HX := Aside0.mk hx
  have hl := Aside0.mk hr.1
  clear hr hx
  go_enter Try.func102, Try.ntmps102
  go_wp2_with (at_builtin; refine append_new rfl (.tmp 5) (.tmp 6) 58 5 .u8 1 rfl Try.underlying58 info5 (by decide) (some ad) A0 1 n0 c0 1 [q] l0 rfl rfl HX.out HR.out (by omega) h0 (by omega) (by omega) ?_)
  intro v1 w1 ho hg
  have hB := Below.grown (Below.refl w.heap.size w) hg (Nat.le_refl _) (fun _ h => by cases h)
  have hl2 : (1 + n0) = ([q] ++ l0).length := by have := hl.out; simp; omega
  rw [hl2] at ho
  have HO := Aside0.mk ho
  have HB := Aside0.mk hB
  have HX1 := Aside0.mk (HX.out.below hB)
  clear ho hg hB hl2
  go_wp2_with (at_builtin; refine append_row_keep (w0 := w) w.heap.size rfl (.tmp 8) (.tmp 9) 58 5 .u8 1 rfl Try.underlying58 info5 (by decide) v1 ([q] ++ l0) [q] (some ad) 1 1 rfl rfl HO.out HX1.out HB.out HB.out.size (by have := hl.out; simp; omega) ?_)
  intro v2 w2 ho2 _ hB2 _ _
  go_wp2
  go_ret
  exact ⟨_, rfl, ho2, hB2⟩

/-- The row of a constant text's one byte, marked as text. -/
def boxed (W : World) (q : Int) : World := (W.alloc (.cells #[.int .u8 q] 5)).freeze ⟨W.heap.size, 1, none⟩ 1
theorem boxed_heap (W : World) (q : Int) : (boxed W q).heap[W.heap.size]? = some (.cells #[.int .u8 q] 5 (1, 2)) := by
  simp [boxed, World.freeze, World.alloc, -World.alloc_eq]
  rw [Array.getElem_modify_self]
  simp
theorem boxed_below (W : World) (q : Int) : Below W.heap.size W (boxed W q) := by
  refine ⟨rfl, rfl, rfl, by simp [boxed, World.freeze, World.alloc, -World.alloc_eq], fun i hi => ?_⟩
  have h1 : W.heap.size ≠ i := by omega
  simp [boxed, World.freeze, World.alloc, -World.alloc_eq, Array.getElem?_modify, Array.getElem?_push, h1, Ne.symm h1]
theorem boxed_reads (W : World) (q : Int) : ReadsInt (boxed W q) .u8 (some ⟨W.heap.size, 0, none⟩) 1 [q] := by
  refine ⟨rfl, by omega, fun _ => ⟨_, rfl, fun j hj => ?_⟩⟩
  obtain rfl : j = 0 := by omega
  rw [add_plain]
  simp [World.cell?, boxed_heap]
theorem mark_one (q : Int) (W : World) : (convert 58 58 (.slice (some ⟨W.heap.size, 0, none⟩) 1 1)).run Try.prog (W.alloc (.cells #[.int .u8 q] 5)) = .ok (.slice (some ⟨W.heap.size, 0, none⟩) 1 1) (boxed W q) :=
  run_convert_same 58 5 Try.underlying58 Try.underlying5 W.heap.size 1 1 #[.int .u8 q] _ (heap_alloc_new W _)

theorem quoted_none (w : World) (A0 : Option Addr) (n0 c0 : Nat) (l0 : List Int) (k : Nat) (h0 : 0 < n0) (hb : n0 ≤ 4294967296) (hr : ReadsInt w .u8 A0 n0 l0) (hc : n0 ≤ c0) (b2 : Bool)
    (h1 : textutils_zzHas.f k l0 34 = some false) (h2 : textutils_zzHas.f k l0 39 = some b2) :
    Calls Try.prog 71 #[.slice A0 n0 c0] w fun e w' => ∃ v : Value, e = .returned v ∧ w'.ownsRow w.heap.size 5 1 v (l0.length + 2) (nums .u8 (34 :: l0 ++ [34])) ∧ Below w.heap.size w w' := by
  have hn := hr.1
  subst hn
  have HR := Aside0.mk hr
  have HC := Aside0.mk hc
  have H1 := Aside0.mk h1
  have H2 := Aside0.mk h2
  have h0' : ((l0.length : Int) == 0) = false := beq_eq_false_iff_ne.mpr (by omega)
  have kc : ∀ nd, (convert 58 58 (.slice (some ⟨w.heap.size, 0, none⟩) 1 1)).run Try.prog ((w.drewN nd).alloc (.cells #[.int .u8 34] 5)) = .ok (.slice (some ⟨w.heap.size, 0, none⟩) 1 1) (boxed (w.drewN nd) 34) := fun nd => mark_one 34 (w.drewN nd)
  clear hr hc h1 h2
  go_enter Try.func71, Try.ntmps71
  go_wp2_with fail
  refine (textutils_zzHas.calls k _ _ l0 34 false _ (Kd.C_of_reads (d := (0 : Int)) HR.out) HC.out H1.out).mono ?_
  rintro e w' ⟨rfl, ⟨nd, rfl⟩⟩
  go_wp2_with fail
  refine (textutils_zzHas.calls k _ _ l0 39 b2 _ (Kd.C_of_reads (d := (0 : Int)) (HR.out.drewN _)) HC.out H2.out).mono ?_
  rintro e w' ⟨rfl, ⟨nd2, rfl⟩⟩
  go_wp2_with fail
  have hB : Below w.heap.size w (boxed (w.drewN (nd + nd2)) 34) := below_step (pw_below_drewN (Below.refl _ _) _) (boxed_below (w.drewN (nd + nd2)) 34)
  refine (around_any _ ⟨w.heap.size, 0, none⟩ 34 _ _ _ l0 h0 hb (HR.out.below hB) (boxed_reads (w.drewN (nd + nd2)) 34)).mono ?_
  rintro e w' ⟨v, rfl, ho, hB2⟩
  go_wp2
  go_ret
  exact ⟨_, rfl, own_less ho hB.size, below_step hB hB2⟩

theorem quoted_single (w : World) (A0 : Option Addr) (n0 c0 : Nat) (l0 : List Int) (k : Nat) (h0 : 0 < n0) (hb : n0 ≤ 4294967296) (hr : ReadsInt w .u8 A0 n0 l0) (hc : n0 ≤ c0)
    (h1 : textutils_zzHas.f k l0 34 = some true) (h2 : textutils_zzHas.f k l0 39 = some false) :
    Calls Try.prog 71 #[.slice A0 n0 c0] w fun e w' => ∃ v : Value, e = .returned v ∧ w'.ownsRow w.heap.size 5 1 v (l0.length + 2) (nums .u8 (39 :: l0 ++ [39])) ∧ Below w.heap.size w w' := by
  have hn := hr.1
  subst hn
  have HR := Aside0.mk hr
  have HC := Aside0.mk hc
  have H1 := Aside0.mk h1
  have H2 := Aside0.mk h2
  have h0' : ((l0.length : Int) == 0) = false := beq_eq_false_iff_ne.mpr (by omega)
  have kc : ∀ nd, (convert 58 58 (.slice (some ⟨w.heap.size, 0, none⟩) 1 1)).run Try.prog ((w.drewN nd).alloc (.cells #[.int .u8 39] 5)) = .ok (.slice (some ⟨w.heap.size, 0, none⟩) 1 1) (boxed (w.drewN nd) 39) := fun nd => mark_one 39 (w.drewN nd)
  clear hr hc h1 h2
  go_enter Try.func71, Try.ntmps71
  go_wp2_with fail
  refine (textutils_zzHas.calls k _ _ l0 34 true _ (Kd.C_of_reads (d := (0 : Int)) HR.out) HC.out H1.out).mono ?_
  rintro e w' ⟨rfl, ⟨nd, rfl⟩⟩
  go_wp2_with fail
  refine (textutils_zzHas.calls k _ _ l0 39 false _ (Kd.C_of_reads (d := (0 : Int)) (HR.out.drewN _)) HC.out H2.out).mono ?_
  rintro e w' ⟨rfl, ⟨nd2, rfl⟩⟩
  go_wp2_with fail
  have hB : Below w.heap.size w (boxed (w.drewN (nd + nd2)) 39) := below_step (pw_below_drewN (Below.refl _ _) _) (boxed_below (w.drewN (nd + nd2)) 39)
  refine (around_any _ ⟨w.heap.size, 0, none⟩ 39 _ _ _ l0 h0 hb (HR.out.below hB) (boxed_reads (w.drewN (nd + nd2)) 39)).mono ?_
  rintro e w' ⟨v, rfl, ho, hB2⟩
  go_wp2
  go_ret
  exact ⟨_, rfl, own_less ho hB.size, below_step hB hB2⟩

theorem quoted_both (w : World) (A0 : Option Addr) (n0 c0 : Nat) (l0 : List Int) (k : Nat) (h0 : 0 < n0) (hb : n0 ≤ 4294967296) (hr : ReadsInt w .u8 A0 n0 l0) (hc : n0 ≤ c0) (t : List Int) (ht0 : 0 < t.length) (htb : t.length ≤ 4294967296)
    (h1 : textutils_zzHas.f k l0 34 = some true) (h2 : textutils_zzHas.f k l0 39 = some true) (h3 : textutils_zzReplaceAll.f k l0 (⟨#[34]⟩ : ByteArray) (⟨#[92, 34]⟩ : ByteArray) = some t) :
    Calls Try.prog 71 #[.slice A0 n0 c0] w fun e w' => ∃ v : Value, e = .returned v ∧ w'.ownsRow w.heap.size 5 1 v (t.length + 2) (nums .u8 (34 :: t ++ [34])) ∧ Below w.heap.size w w' := by
  have hn := hr.1
  subst hn
  have HR := Aside0.mk hr
  have HC := Aside0.mk hc
  have H1 := Aside0.mk h1
  have H2 := Aside0.mk h2
  have H3 := Aside0.mk h3
  have h0' : ((l0.length : Int) == 0) = false := beq_eq_false_iff_ne.mpr (by omega)
  clear hr hc h1 h2 h3
  go_enter Try.func71, Try.ntmps71
  go_wp2_with fail
  refine (textutils_zzHas.calls k _ _ l0 34 true _ (Kd.C_of_reads (d := (0 : Int)) HR.out) HC.out H1.out).mono ?_
  rintro e w' ⟨rfl, ⟨nd, rfl⟩⟩
  go_wp2_with fail
  refine (textutils_zzHas.calls k _ _ l0 39 true _ (Kd.C_of_reads (d := (0 : Int)) (HR.out.drewN _)) HC.out H2.out).mono ?_
  rintro e w' ⟨rfl, ⟨nd2, rfl⟩⟩
  go_wp2_with fail
  refine (textutils_zzReplaceAll.calls k _ _ l0 _ _ t _ (Kd.C_of_reads (d := (0 : Int)) (HR.out.drewN _)) HC.out H3.out).mono ?_
  rintro e w1 ⟨v, rfl, ho, hB1⟩
  obtain ⟨A1, c1, rfl, hr1⟩ := own_reads (Kd.own_of_R ho)
  have HB1 := Aside0.mk (below_step (pw_below_drewN (Below.refl w.heap.size w) _) hB1)
  have HR1 := Aside0.mk hr1
  clear ho hB1 hr1
  have kc : (convert 58 58 (.slice (some ⟨w1.heap.size, 0, none⟩) 1 1)).run Try.prog (w1.alloc (.cells #[.int .u8 34] 5)) = .ok (.slice (some ⟨w1.heap.size, 0, none⟩) 1 1) (boxed w1 34) := mark_one 34 w1
  go_wp2_with fail
  refine (around_any _ ⟨w1.heap.size, 0, none⟩ 34 _ _ _ t ht0 htb (HR1.out.below (boxed_below w1 34)) (boxed_reads w1 34)).mono ?_
  rintro e w' ⟨v, rfl, ho, hB2⟩
  go_wp2
  go_ret
  have hB := below_step HB1.out (boxed_below w1 34)
  exact ⟨_, rfl, own_less ho hB.size, below_step hB hB2⟩

theorem quoted_nil (w : World) (A0 : Option Addr) (c0 : Nat) :
    Calls Try.prog 71 #[.slice A0 0 c0] w fun e w' => e = .returned (.slice none 0 0) ∧ w' = w := by
  go_enter Try.func71, Try.ntmps71
  go_wp2
  go_ret
  exact ⟨rfl, rfl⟩

/-- The text within quotes. -/
def impl_Quoted.f (k : Nat) (a0 : ByteArray) : Option ByteArray :=
  if a0.size ≤ 2147483647 then (if a0.size = 0 then some ⟨#[]⟩ else
    (textutils_zzHas.f k (bytesOf a0) 34).bind fun b1 => (textutils_zzHas.f k (bytesOf a0) 39).bind fun b2 =>
      if b1 = true then (if b2 = true then (textutils_zzReplaceAll.f k (bytesOf a0) (⟨#[34]⟩ : ByteArray) (⟨#[92, 34]⟩ : ByteArray)).bind fun t => (if 0 < t.length then (if t.length ≤ 4294967296 then some (strOfNums (34 :: t ++ [34])) else none) else none)
        else some (strOfNums (39 :: bytesOf a0 ++ [39]))) else some (strOfNums (34 :: bytesOf a0 ++ [34]))) else none
theorem impl_Quoted.mono : ∀ a0 k, LeO (impl_Quoted.f k a0) (impl_Quoted.f (k + 1) a0) := by
  intro a0 k
  unfold impl_Quoted.f
  repeat' first
      | (with_reducible exact textutils_zzHas.mono _ _ _)
      | (with_reducible exact textutils_zzReplaceAll.mono _ _ _ _)
      | (with_reducible exact LeO.refl _)
      | (with_reducible exact LeO.none _)
      | (with_reducible refine LeO.ite ?_ ?_)
      | (with_reducible refine LeO.bind ?_ (fun _ => ?_))
theorem impl_Quoted.calls (k : Nat) (a0 : ByteArray) (r : ByteArray) (w : World) (h : impl_Quoted.f k a0 = some r) :
    Calls Try.prog 39 #[.string a0] w fun e w' => e = .returned (.string r) ∧ Below w.heap.size w w' := by
  unfold impl_Quoted.f at h
  have kb := fun W => print_bytes (P := Try.prog) 9 58 5 Try.underlying9 Try.underlying58 Try.underlying5 a0 W
  split at h
  case isFalse => cases h
  rename_i hs
  have hB0 := bytes_below (Below.refl w.heap.size w) (Nat.le_refl _) 5 a0
  have HB0 := Aside0.mk hB0
  have HRd := Aside0.mk (bytes_reads w 5 a0 (by omega))
  have hkn := run_convert_bytes_nil (P := Try.prog)
  clear hB0
  split at h
  · rename_i hz
    obtain rfl := Option.some.inj h
    have hz' : a0 = ⟨#[]⟩ := by
      cases a0 with | mk d => congr; exact Array.eq_empty_of_size_eq_zero hz
    subst hz'
    go_enter Try.func39, Try.ntmps39
    go_wp2_with fail
    refine (quoted_nil _ _ _).mono ?_
    rintro e w' ⟨rfl, rfl⟩
    have kn := run_convert_bytes_nil (Lib.bytesWorld w 5 ⟨#[]⟩) 58 5 Try.underlying58 Try.underlying5 0 0 9 Try.underlying9
    go_wp2
    go_ret
    exact ⟨rfl, HB0.out⟩
  · rename_i hz
    obtain ⟨b1, e1, h⟩ := Option.bind_eq_some_iff.1 h
    obtain ⟨b2, e2, h⟩ := Option.bind_eq_some_iff.1 h
    have E1 := Aside0.mk e1
    have E2 := Aside0.mk e2
    clear e1 e2
    have key : ∃ l : List Int, r = strOfNums l ∧ Calls Try.prog 71 #[.slice (some ⟨w.heap.size, 0, none⟩) a0.size (grownCap w a0.size 0 5)] (Lib.bytesWorld w 5 a0) fun e w' => ∃ v : Value, e = .returned v ∧ w'.ownsRow (Lib.bytesWorld w 5 a0).heap.size 5 1 v l.length (nums .u8 l) ∧ Below (Lib.bytesWorld w 5 a0).heap.size (Lib.bytesWorld w 5 a0) w' := by
      cases b1 with
      | true =>
        cases b2 with
        | true =>
          simp only [if_true] at h
          obtain ⟨t, e3, h⟩ := Option.bind_eq_some_iff.1 h
          split at h
          case isFalse => cases h
          rename_i ht0
          split at h
          case isFalse => cases h
          rename_i htb
          refine ⟨_, (Option.some.inj h).symm, (quoted_both _ _ _ _ (bytesOf a0) k (by omega) (by omega) HRd.out (grownCap_ge _ _ _ _) t ht0 htb E1.out E2.out e3).mono ?_⟩
          rintro e w' ⟨v, rfl, ho, hB⟩
          exact ⟨v, rfl, by simpa using ho, hB⟩
        | false =>
          simp only [if_true] at h
          refine ⟨_, (Option.some.inj h).symm, (quoted_single _ _ _ _ (bytesOf a0) k (by omega) (by omega) HRd.out (grownCap_ge _ _ _ _) E1.out E2.out).mono ?_⟩
          rintro e w' ⟨v, rfl, ho, hB⟩
          exact ⟨v, rfl, by simpa using ho, hB⟩
      | false =>
        refine ⟨_, (Option.some.inj h).symm, (quoted_none _ _ _ _ (bytesOf a0) k (by omega) (by omega) HRd.out (grownCap_ge _ _ _ _) b2 E1.out E2.out).mono ?_⟩
        rintro e w' ⟨v, rfl, ho, hB⟩
        exact ⟨v, rfl, by simpa using ho, hB⟩
    obtain ⟨l, rfl, hcall⟩ := key
    have HCall := Aside0.mk hcall
    clear hcall h hkn
    go_enter Try.func39, Try.ntmps39
    go_wp2_with fail
    refine (HCall.out).mono ?_
    rintro e w' ⟨v0, rfl, ho, hB⟩
    have hown := own_string (P := Try.prog) Try.underlying58 Try.underlying5 Try.underlying9 ho
    go_wp2
    go_ret
    exact ⟨rfl, below_step HB0.out hB⟩

end Go.Proofs.Ytmfjbljdbkmkgaa.PDom

/- impl.Blanks, and laws.inlineLives: it is true. -/
namespace Go.Proofs.Ytmfjbljdbkmkgaa.PDom
open Go.Proofs.Ytmfjbljdbkmkgaa.Keep Go.RowKit Go.Proofs.YtmfjbljdbkmkgaaW.PrintWords Go.Proofs.YtmfjbljdbkmkgaaW.PrintLast Go.Proofs.YtmfjbljdbkmkgaaW.PrintMore
set_option linter.unusedVariables false
set_option linter.unusedSimpArgs false

theorem zzblanks_calls (a0 : ByteArray) (w : World) (hs : a0.size ≤ 2147483647) (hne : a0.size ≠ 0) :
    Calls Try.prog 70 #[.string a0] w fun e w' => e = .returned (.string (strOfNums (Blank.norm false (bytesOf a0)))) ∧ Below w.heap.size w w' := by
  go_enter Try.func70, Try.ntmps70
  go_wp2_with (go_at_call 81; go_must (refine (Blank.blank_calls a0 w hs hne).mono ?_; rintro e w1 ⟨rfl, hB⟩; have HB := Aside0.mk hB; clear hB))
  go_ret
  exact ⟨rfl, HB.out⟩
theorem blanks_calls (a0 : ByteArray) (w : World) (hs : a0.size ≤ 2147483647) (hne : a0.size ≠ 0) :
    Calls Try.prog 38 #[.string a0] w fun e w' => e = .returned (.string (strOfNums (Blank.norm false (bytesOf a0)))) ∧ Below w.heap.size w w' := by
  go_enter Try.func38, Try.ntmps38
  go_wp2_with (go_at_call 70; go_must (refine (zzblanks_calls a0 w hs hne).mono ?_; rintro e w1 ⟨rfl, hB⟩; have HB := Aside0.mk hB; clear hB))
  go_ret
  exact ⟨rfl, HB.out⟩
theorem quoted_a : impl_Quoted.f 5 ⟨#[97]⟩ = some ⟨#[34, 97, 34]⟩ := by kernel_rfl
theorem norm_ab : strOfNums (Blank.norm false (bytesOf ⟨#[97, 32, 32, 98]⟩)) = ⟨#[97, 32, 98]⟩ := by kernel_rfl
def laws_inlineLives.f (_ : Nat) : Option Bool := some true
theorem laws_inlineLives.mono : ∀ k, LeO (laws_inlineLives.f k) (laws_inlineLives.f (k + 1)) := fun _ => LeO.refl _
theorem laws_inlineLives.calls (k : Nat) (r : Bool) (w : World) (h : laws_inlineLives.f k = some r) :
    Calls Try.prog 15 #[] w fun e w' => e = .returned (.bool r) ∧ Below w.heap.size w w' := by
  obtain rfl := Option.some.inj h
  have HQ := Aside0.mk quoted_a
  have HNA := Aside0.mk norm_ab
  clear h
  go_enter Try.func15, Try.ntmps15
  go_wp2_with (first
    | (go_at_call 38; go_must (refine (blanks_calls _ w (by decide) (by decide)).mono ?_; rw [HNA.out]; rintro e w1 ⟨rfl, hB⟩; have HB := Aside0.mk hB; clear hB))
    | (go_at_call 39; go_must (refine (impl_Quoted.calls 5 _ _ _ HQ.out).mono ?_; rintro e w2 ⟨rfl, hB2⟩; have HB2 := Aside0.mk (below_step HB.out hB2); clear hB2)))
  go_ret
  exact ⟨rfl, HB2.out⟩
end Go.Proofs.Ytmfjbljdbkmkgaa.PDom

/- A cut tree: what it is like, and what the printed functions tell of it. Plain facts. -/
namespace Go.Proofs.Ytmfjbljdbkmkgaa.PDom
open Go.RowKit Go.Proofs.YtmfjbljdbkmkgaaW.PrintWords Go.Proofs.YtmfjbljdbkmkgaaW.PrintLast Go.Proofs.YtmfjbljdbkmkgaaW.PrintMore Go.Proofs.Ytmfjbljdbkmkgaa.Dom Go.Proofs.Ytmfjbljdbkmkgaa.Txt
set_option linter.unusedVariables false
set_option linter.unusedSimpArgs false

theorem cut_txt {t : T} (h : CutOk t) : (txT t).length ≤ 300 * countT t := by
  induction h with
  | text k r hk hr hl =>
    rw [txT, countT]
    split
    · show (strOfNums r).data.toList.length ≤ _
      have := str_size r
      have e : (strOfNums r).data.toList.length = (strOfNums r).size := rfl
      omega
    · simp [txTL]
  | elem n ks hn hv hk ih =>
    rw [txT, if_neg (by decide), countT]
    have : (txTL ks).length ≤ 300 * countTL ks := by
      clear hv hk
      induction ks with
      | nil => simp [txTL]
      | cons y ks ih2 =>
        rw [txTL, List.length_append, countTL]
        have := ih y (by simp)
        have := ih2 (fun z hz => ih z (by simp [hz]))
        omega
    omega
theorem cutR_facts (t : T) (hf : FitX t) : CutOk (cutR t) ∧ countT (cutR t) ≤ 60 ∧ okT (cutR t) = true ∧ Fit (cutR t) ∧ (txT (cutR t)).length ≤ 18000 := by
  have hfx : FitX ⟨0, t.f1, t.f2, t.f3, t.f4⟩ := by obtain ⟨_, h1, h2, h3, h4, h5⟩ := hf; exact ⟨_, h1, h2, h3, h4, h5⟩
  have h1 := cut_ok ⟨0, t.f1, t.f2, t.f3, t.f4⟩ hfx 8 60
  obtain ⟨h2, h3, _⟩ := cut_count ⟨0, t.f1, t.f2, t.f3, t.f4⟩ 8 60 (by decide)
  obtain ⟨e0, e2, e3⟩ := cutT_0 t
  have hc : countT (cutR t) = countT (cutT 8 60 ⟨0, t.f1, t.f2, t.f3, t.f4⟩).1 := by rw [countT_eq, countT_eq]; rfl
  have hk : CutOk (cutR t) := by
    unfold cutR
    generalize (cutT 8 60 ⟨0, t.f1, t.f2, t.f3, t.f4⟩).1 = u at *
    cases h1 with
    | text k r hk hr hl => exact .elem divN [] (List.mem_cons_self) (fun _ => rfl) (fun y hy => by simp at hy)
    | elem n ks hn hv hk => exact .elem divN ks (List.mem_cons_self) (fun h => by rcases h with h | h <;> exact absurd h (by decide)) hk
  have hc60 : countT (cutR t) ≤ 60 := by omega
  have hok := cutOk_ok hk (by omega)
  exact ⟨hk, hc60, hok, ok_fit _ hok, by have := cut_txt hk; omega⟩
theorem cutR_ev (t : T) (hf : FitX t) : Ev (fun k => laws_inlineCutTree.f k t.f0 t.f1 t.f2 t.f3 t.f4) ((cutR t).f0, (cutR t).f1, (cutR t).f2, (cutR t).f3, (cutR t).f4) := by
  refine ⟨0, fun k _ => ?_⟩
  show laws_inlineCutTree.f k _ _ _ _ _ = _
  have hg := (fitXB_iff t).2 hf
  cases t
  unfold laws_inlineCutTree.f
  rw [if_pos hg]
theorem lives_ev : Ev (fun k => laws_inlineLives.f k) true := Ev.now _
end Go.Proofs.Ytmfjbljdbkmkgaa.PDom
