/- A part of the proof of FnCollapse: EDomx4, EvT, QuotX, Lives, CutF, AnyP, StpP, StpQ, EDomx7, one behind the other. -/
import Derived.Test.YtmfjbljdbkmkgaaMFnCollapse2
import Derived.Test.YtmfjbljdbkmkgaaMFnCollapse4
import Derived.Test.YtmfjbljdbkmkgaaMFnCollapse3
import Derived.Deep.DeepMust
/- Printed by the program extprint.py of this session, out of the kit's print and contracts of this session's own; Lean checks it. -/
namespace Go.Proofs.Ytmfjbljdbkmkgaa.PDom
open Go.RowKit Go.Proofs.YtmfjbljdbkmkgaaW.PrintWords Go.Proofs.YtmfjbljdbkmkgaaW.PrintLast Go.Proofs.YtmfjbljdbkmkgaaW.PrintMore
attribute [local go_sem] max2_int min2_int max_two min_two max_three min_three max_four min_four   -- for this text's walks alone
set_option linter.unusedVariables false
set_option linter.unusedSimpArgs false

attribute [local go_sem high] eqA53

/-! ### spec_SameTree: function 14 -/
mutual
def spec_SameTree.j0 : Nat → Bool → Int → ByteArray → ByteArray → List (S53) → List (S25) → Int → ByteArray → ByteArray → List (S53) → List (S25) → Option (Bool)
 | 0, _, _, _, _, _, _, _, _, _, _, _ => none
 | k + 1, x43, x152000, x152001, x152002, x152003, x152004, x153000, x153001, x153002, x153003, x153004 => if x43 = true then (some false) else (spec_SameTree.l0 k (x152003.length : Int) 0 x152000 x152001 x152002 x152003 x152004 x153000 x153001 x153002 x153003 x153004)
def spec_SameTree.l0 : Nat → Int → Int → Int → ByteArray → ByteArray → List (S53) → List (S25) → Int → ByteArray → ByteArray → List (S53) → List (S25) → Option (Bool)
 | 0, _, _, _, _, _, _, _, _, _, _, _, _ => none
 | k + 1, x46, x47, x152000, x152001, x152002, x152003, x152004, x153000, x153001, x153002, x153003, x153004 => if x47 < x46 then (if 0 ≤ x47 then (if x47 < (x152003.length : Int) then (if x47 < (x153003.length : Int) then (if (!((((rd_T53 x152003 x47).f0).toList) == (((rd_T53 x153003 x47).f0).toList)) || (!((((rd_T53 x152003 x47).f1).toList) == (((rd_T53 x153003 x47).f1).toList)))) = true then (some false) else (spec_SameTree.l0 k x46 (wrap64 (x47 + 1)) x152000 x152001 x152002 x152003 x152004 x153000 x153001 x153002 x153003 x153004)) else (none)) else (none)) else (none)) else (spec_SameTree.l1 k (x152004.length : Int) 0 x152000 x152001 x152002 x152003 x152004 x153000 x153001 x153002 x153003 x153004)
def spec_SameTree.l1 : Nat → Int → Int → Int → ByteArray → ByteArray → List (S53) → List (S25) → Int → ByteArray → ByteArray → List (S53) → List (S25) → Option (Bool)
 | 0, _, _, _, _, _, _, _, _, _, _, _, _ => none
 | k + 1, x64, x65, x152000, x152001, x152002, x152003, x152004, x153000, x153001, x153002, x153003, x153004 => if x65 < x64 then (if 0 ≤ x65 then (if x65 < (x152004.length : Int) then (if x65 < (x153004.length : Int) then ((spec_SameTree.f k ((rd_T25 x152004 x65).f0) ((rd_T25 x152004 x65).f1) ((rd_T25 x152004 x65).f2) ((rd_T25 x152004 x65).f3) ((rd_T25 x152004 x65).f4) ((rd_T25 x153004 x65).f0) ((rd_T25 x153004 x65).f1) ((rd_T25 x153004 x65).f2) ((rd_T25 x153004 x65).f3) ((rd_T25 x153004 x65).f4)).bind fun t157 => (if t157 = true then (spec_SameTree.l1 k x64 (wrap64 (x65 + 1)) x152000 x152001 x152002 x152003 x152004 x153000 x153001 x153002 x153003 x153004) else (some false))) else (none)) else (none)) else (none)) else (some true)
def spec_SameTree.f : Nat → Int → ByteArray → ByteArray → List (S53) → List (S25) → Int → ByteArray → ByteArray → List (S53) → List (S25) → Option (Bool)
 | 0, _, _, _, _, _, _, _, _, _, _ => none
 | k + 1, a0_0, a0_1, a0_2, l0_3, l0_4, a1_0, a1_1, a1_2, l1_3, l1_4 => if a0_0 = a1_0 then (if a0_1.toList = a1_1.toList then (if a0_2.toList = a1_2.toList then (if (l0_3.length : Int) = (l1_3.length : Int) then (spec_SameTree.j0 k ((l0_4.length : Int) != (l1_4.length : Int)) a0_0 a0_1 a0_2 l0_3 l0_4 a1_0 a1_1 a1_2 l1_3 l1_4) else (spec_SameTree.j0 k true a0_0 a0_1 a0_2 l0_3 l0_4 a1_0 a1_1 a1_2 l1_3 l1_4)) else (spec_SameTree.j0 k true a0_0 a0_1 a0_2 l0_3 l0_4 a1_0 a1_1 a1_2 l1_3 l1_4)) else (spec_SameTree.j0 k true a0_0 a0_1 a0_2 l0_3 l0_4 a1_0 a1_1 a1_2 l1_3 l1_4)) else (spec_SameTree.j0 k true a0_0 a0_1 a0_2 l0_3 l0_4 a1_0 a1_1 a1_2 l1_3 l1_4)
end
theorem spec_SameTree.mono_l : ∀ k, (∀ y0 y1 y2 y3 y4 y5 y6 y7 y8 y9, LeO (spec_SameTree.f k y0 y1 y2 y3 y4 y5 y6 y7 y8 y9) (spec_SameTree.f (k + 1) y0 y1 y2 y3 y4 y5 y6 y7 y8 y9)) ∧ (∀ y0 y1 y2 y3 y4 y5 y6 y7 y8 y9 y10, LeO (spec_SameTree.j0 k y0 y1 y2 y3 y4 y5 y6 y7 y8 y9 y10) (spec_SameTree.j0 (k + 1) y0 y1 y2 y3 y4 y5 y6 y7 y8 y9 y10)) ∧ (∀ y0 y1 y2 y3 y4 y5 y6 y7 y8 y9 y10 y11, LeO (spec_SameTree.l0 k y0 y1 y2 y3 y4 y5 y6 y7 y8 y9 y10 y11) (spec_SameTree.l0 (k + 1) y0 y1 y2 y3 y4 y5 y6 y7 y8 y9 y10 y11)) ∧ (∀ y0 y1 y2 y3 y4 y5 y6 y7 y8 y9 y10 y11, LeO (spec_SameTree.l1 k y0 y1 y2 y3 y4 y5 y6 y7 y8 y9 y10 y11) (spec_SameTree.l1 (k + 1) y0 y1 y2 y3 y4 y5 y6 y7 y8 y9 y10 y11))
 | 0 => ⟨fun _ _ _ _ _ _ _ _ _ _ r h => by simp [spec_SameTree.f] at h, fun _ _ _ _ _ _ _ _ _ _ _ r h => by simp [spec_SameTree.j0] at h, fun _ _ _ _ _ _ _ _ _ _ _ _ r h => by simp [spec_SameTree.l0] at h, fun _ _ _ _ _ _ _ _ _ _ _ _ r h => by simp [spec_SameTree.l1] at h⟩
 | k + 1 => by
  obtain ⟨ih0, ih1, ih2, ih3⟩ := spec_SameTree.mono_l k
  refine ⟨?_, ?_, ?_, ?_⟩
  ·intro y0 y1 y2 y3 y4 y5 y6 y7 y8 y9
   unfold spec_SameTree.f
   repeat' first
   | (with_reducible exact ih0 _ _ _ _ _ _ _ _ _ _)
   | (with_reducible exact ih1 _ _ _ _ _ _ _ _ _ _ _)
   | (with_reducible exact ih2 _ _ _ _ _ _ _ _ _ _ _ _)
   | (with_reducible exact ih3 _ _ _ _ _ _ _ _ _ _ _ _)
   | (with_reducible exact LeO.refl _)
   | (with_reducible exact LeO.none _)
   | (with_reducible refine LeO.ite ?_ ?_)
   | (with_reducible refine LeO.bind ?_ (fun _ => ?_))
   | exact ih0 _ _ _ _ _ _ _ _ _ _
   | exact ih1 _ _ _ _ _ _ _ _ _ _ _
   | exact ih2 _ _ _ _ _ _ _ _ _ _ _ _
   | exact ih3 _ _ _ _ _ _ _ _ _ _ _ _
   | exact LeO.none _
   | refine LeO.ite ?_ ?_
   | refine LeO.bind ?_ (fun _ => ?_)
  ·intro y0 y1 y2 y3 y4 y5 y6 y7 y8 y9 y10
   unfold spec_SameTree.j0
   repeat' first
   | (with_reducible exact ih0 _ _ _ _ _ _ _ _ _ _)
   | (with_reducible exact ih1 _ _ _ _ _ _ _ _ _ _ _)
   | (with_reducible exact ih2 _ _ _ _ _ _ _ _ _ _ _ _)
   | (with_reducible exact ih3 _ _ _ _ _ _ _ _ _ _ _ _)
   | (with_reducible exact LeO.refl _)
   | (with_reducible exact LeO.none _)
   | (with_reducible refine LeO.ite ?_ ?_)
   | (with_reducible refine LeO.bind ?_ (fun _ => ?_))
   | exact ih0 _ _ _ _ _ _ _ _ _ _
   | exact ih1 _ _ _ _ _ _ _ _ _ _ _
   | exact ih2 _ _ _ _ _ _ _ _ _ _ _ _
   | exact ih3 _ _ _ _ _ _ _ _ _ _ _ _
   | exact LeO.none _
   | refine LeO.ite ?_ ?_
   | refine LeO.bind ?_ (fun _ => ?_)
  ·intro y0 y1 y2 y3 y4 y5 y6 y7 y8 y9 y10 y11
   unfold spec_SameTree.l0
   repeat' first
   | (with_reducible exact ih0 _ _ _ _ _ _ _ _ _ _)
   | (with_reducible exact ih1 _ _ _ _ _ _ _ _ _ _ _)
   | (with_reducible exact ih2 _ _ _ _ _ _ _ _ _ _ _ _)
   | (with_reducible exact ih3 _ _ _ _ _ _ _ _ _ _ _ _)
   | (with_reducible exact LeO.refl _)
   | (with_reducible exact LeO.none _)
   | (with_reducible refine LeO.ite ?_ ?_)
   | (with_reducible refine LeO.bind ?_ (fun _ => ?_))
   | exact ih0 _ _ _ _ _ _ _ _ _ _
   | exact ih1 _ _ _ _ _ _ _ _ _ _ _
   | exact ih2 _ _ _ _ _ _ _ _ _ _ _ _
   | exact ih3 _ _ _ _ _ _ _ _ _ _ _ _
   | exact LeO.none _
   | refine LeO.ite ?_ ?_
   | refine LeO.bind ?_ (fun _ => ?_)
  ·intro y0 y1 y2 y3 y4 y5 y6 y7 y8 y9 y10 y11
   unfold spec_SameTree.l1
   repeat' first
   | (with_reducible exact ih0 _ _ _ _ _ _ _ _ _ _)
   | (with_reducible exact ih1 _ _ _ _ _ _ _ _ _ _ _)
   | (with_reducible exact ih2 _ _ _ _ _ _ _ _ _ _ _ _)
   | (with_reducible exact ih3 _ _ _ _ _ _ _ _ _ _ _ _)
   | (with_reducible exact LeO.refl _)
   | (with_reducible exact LeO.none _)
   | (with_reducible refine LeO.ite ?_ ?_)
   | (with_reducible refine LeO.bind ?_ (fun _ => ?_))
   | exact ih0 _ _ _ _ _ _ _ _ _ _
   | exact ih1 _ _ _ _ _ _ _ _ _ _ _
   | exact ih2 _ _ _ _ _ _ _ _ _ _ _ _
   | exact ih3 _ _ _ _ _ _ _ _ _ _ _ _
   | exact LeO.none _
   | refine LeO.ite ?_ ?_
   | refine LeO.bind ?_ (fun _ => ?_)
theorem spec_SameTree.mono : ∀ a0 a1 a2 a3 a4 a5 a6 a7 a8 a9 k, LeO (spec_SameTree.f k a0 a1 a2 a3 a4 a5 a6 a7 a8 a9) (spec_SameTree.f (k + 1) a0 a1 a2 a3 a4 a5 a6 a7 a8 a9) := by
 intro a0 a1 a2 a3 a4 a5 a6 a7 a8 a9 k
 obtain ⟨ih0, ih1, ih2, ih3⟩ := spec_SameTree.mono_l k
 exact ih0 a0 a1 a2 a3 a4 a5 a6 a7 a8 a9
def spec_SameTree.T6 : Bool × List (List Nat × List Nat) := (true, [([], []), ([0], [0]), ([], []), ([1, 2], [1, 2]), ([3], [3]), ([], []), ([5], [5]), ([], []), ([6, 7], [6, 7]), ([8], [8]), ([4, 9], [4, 9])])
def spec_SameTree.B6 : List Nat := [0, 1, 0, 7, 15, 0, 32, 0, 224, 480, 1023]
theorem spec_SameTree.tab6 : rtab .any (opsOf Try.f14 6) = spec_SameTree.T6 := by kernel_rfl
theorem spec_SameTree.bits6 : waitsOk spec_SameTree.T6.2 spec_SameTree.B6 = true := by kernel_rfl
def spec_SameTree.T12 : Bool × List (List Nat × List Nat) := (true, [([], []), ([0], [0]), ([], []), ([1, 2], [1, 2]), ([3], [3]), ([], []), ([5], [5]), ([], []), ([6, 7], [6, 7]), ([8], [8]), ([4, 9], [4, 9]), ([10], [10])])
def spec_SameTree.B12 : List Nat := [0, 1, 0, 7, 15, 0, 32, 0, 224, 480, 1023, 2047]
theorem spec_SameTree.tab12 : rtab .any (opsOf Try.f14 12) = spec_SameTree.T12 := by kernel_rfl
theorem spec_SameTree.bits12 : waitsOk spec_SameTree.T12.2 spec_SameTree.B12 = true := by kernel_rfl
set_option maxHeartbeats 8000000 in
set_option maxRecDepth 100000 in
theorem spec_SameTree.calls (k : Nat) : ∀ (a0_0 : Int) (a0_1 : ByteArray) (a0_2 : ByteArray) (A0_3 : Option Addr) (c0_3 : Nat) (l0_3 : List (S53)) (A0_4 : Option Addr) (c0_4 : Nat) (l0_4 : List (S25)) (a1_0 : Int) (a1_1 : ByteArray) (a1_2 : ByteArray) (A1_3 : Option Addr) (c1_3 : Nat) (l1_3 : List (S53)) (A1_4 : Option Addr) (c1_4 : Nat) (l1_4 : List (S25)) (r : Bool) (w : World) (hr0_3 : Kd.C k53 w A0_3 l0_3.length l0_3) (hc0_3 : l0_3.length ≤ c0_3) (hr0_4 : Kd.C k25 w A0_4 l0_4.length l0_4) (hc0_4 : l0_4.length ≤ c0_4) (hr1_3 : Kd.C k53 w A1_3 l1_3.length l1_3) (hc1_3 : l1_3.length ≤ c1_3) (hr1_4 : Kd.C k25 w A1_4 l1_4.length l1_4) (hc1_4 : l1_4.length ≤ c1_4) (h : spec_SameTree.f k a0_0 a0_1 a0_2 l0_3 l0_4 a1_0 a1_1 a1_2 l1_3 l1_4 = some r),
  Calls Try.prog 14 #[.agg #[.int .i64 a0_0, .string a0_1, .string a0_2, .slice A0_3 l0_3.length c0_3, .slice A0_4 l0_4.length c0_4], .agg #[.int .i64 a1_0, .string a1_1, .string a1_2, .slice A1_3 l1_3.length c1_3, .slice A1_4 l1_4.length c1_4]] w fun e w' => e = .returned (.bool r) ∧ Below w.heap.size w w' := by
 induction k using Nat.strongRecOn with
 | _ k ih =>
 intro a0_0 a0_1 a0_2 A0_3 c0_3 l0_3 A0_4 c0_4 l0_4 a1_0 a1_1 a1_2 A1_3 c1_3 l1_3 A1_4 c1_4 l1_4 r w hr0_3 hc0_3 hr0_4 hc0_4 hr1_3 hc1_3 hr1_4 hc1_4 h
 cases k with
 | zero => exact absurd h (by simp [spec_SameTree.f])
 | succ k =>
 simp only [spec_SameTree.f] at h
 have hu25 := Try.underlying25
 have hu53 := Try.underlying53
 have HR0_3 := Aside0.mk hr0_3
 have HC0_3 := Aside0.mk hc0_3
 clear hr0_3 hc0_3
 have HR0_4 := Aside0.mk hr0_4
 have HC0_4 := Aside0.mk hc0_4
 clear hr0_4 hc0_4
 have HR1_3 := Aside0.mk hr1_3
 have HC1_3 := Aside0.mk hc1_3
 clear hr1_3 hc1_3
 have HR1_4 := Aside0.mk hr1_4
 have HC1_4 := Aside0.mk hc1_4
 clear hr1_4 hc1_4
 have HB := Aside0.mk (Below.refl w.heap.size w)
 have H : (if a0_0 = a1_0 then (if a0_1.toList = a1_1.toList then (if a0_2.toList = a1_2.toList then (if (l0_3.length : Int) = (l1_3.length : Int) then (spec_SameTree.j0 k ((l0_4.length : Int) != (l1_4.length : Int)) a0_0 a0_1 a0_2 l0_3 l0_4 a1_0 a1_1 a1_2 l1_3 l1_4) else (spec_SameTree.j0 k true a0_0 a0_1 a0_2 l0_3 l0_4 a1_0 a1_1 a1_2 l1_3 l1_4)) else (spec_SameTree.j0 k true a0_0 a0_1 a0_2 l0_3 l0_4 a1_0 a1_1 a1_2 l1_3 l1_4)) else (spec_SameTree.j0 k true a0_0 a0_1 a0_2 l0_3 l0_4 a1_0 a1_1 a1_2 l1_3 l1_4)) else (spec_SameTree.j0 k true a0_0 a0_1 a0_2 l0_3 l0_4 a1_0 a1_1 a1_2 l1_3 l1_4)) = some r := h
 clear h
 have HC3 := Aside0.mk H
 clear H
 go_enter Try.func14, Try.ntmps14
 go_upto_region 1 with (first | ((with_reducible refine gate_dst (N := 2) rfl ?_); (try (refine gate_guard (by rfl) ?_; dsimp only)); refine box_event ?hg (N := 2) ?hd (cs := #[.int .i64 a0_0, .string a0_1, .string a0_2, .slice A0_3 l0_3.length c0_3, .slice A0_4 l0_4.length c0_4]) (t := 25) ?hr ?_; (case hd => rfl); (case hg => rfl); (case hr => first | (go_simp; done) | (go_simp; rfl)); intro gb151 hg w4 hbox hb; have n0_ := Aside0.mk (below_step (by repeat (first | (with_reducible first | exact HB.out | apply below_alloc | apply pw_below_drewN | apply below_drew1) | exact HB.out)) hb); have n1_ := Aside0.mk (hbox); have n2_ := Aside0.mk ((by rw [hg]; exact (below_size (by repeat (first | (with_reducible first | exact HB.out | apply below_alloc | apply pw_below_drewN | apply below_drew1) | exact HB.out))) : w.heap.size ≤ gb151)); have n3_ := Aside0.mk ((by rw [hg]; exact (below_size (by repeat (first | (with_reducible first | exact HB.out | apply below_alloc | apply pw_below_drewN | apply below_drew1) | exact HB.out))) : w.heap.size ≤ gb151)); clear HB; have HB := n0_; have BK151 := n1_; have GW151 := n2_; have GE151 := n3_; clear n0_ n1_ n2_ n3_; clear hb hbox hg) | ((with_reducible refine gate_dst (N := 3) rfl ?_); (try (refine gate_guard (by rfl) ?_; dsimp only)); refine box_event ?hg (N := 3) ?hd (cs := #[.int .i64 a1_0, .string a1_1, .string a1_2, .slice A1_3 l1_3.length c1_3, .slice A1_4 l1_4.length c1_4]) (t := 25) ?hr ?_; (case hd => rfl); (case hg => rfl); (case hr => first | (go_simp; done) | (go_simp; rfl)); intro gb152 hg w5 hbox hb; have n0_ := Aside0.mk (blk_below (g := gb151) (o := .cells #[.int .i64 a0_0, .string a0_1, .string a0_2, .slice A0_3 l0_3.length c0_3, .slice A0_4 l0_4.length c0_4] 25 (0, 0)) (by (with_reducible repeat (first | refine blk_drewN ?_ _ | refine blk_drew ?_ | refine blk_alloc ?_ _)); exact BK151.out) hb); have n1_ := Aside0.mk (below_step (by repeat (first | (with_reducible first | exact HB.out | apply below_alloc | apply pw_below_drewN | apply below_drew1 | refine below_set ?_ GE151.out) | exact HB.out)) hb); have n2_ := Aside0.mk (hbox); have n3_ := Aside0.mk ((by rw [hg]; exact (below_size (by repeat (first | (with_reducible first | exact HB.out | apply below_alloc | apply pw_below_drewN | apply below_drew1 | refine below_set ?_ GE151.out) | exact HB.out))) : w.heap.size ≤ gb152)); have n4_ := Aside0.mk ((by rw [hg]; exact (below_size (by repeat (first | (with_reducible first | exact HB.out | apply below_alloc | apply pw_below_drewN | apply below_drew1 | refine below_set ?_ GE151.out) | exact HB.out))) : w.heap.size ≤ gb152)); have n5_ := Aside0.mk ((by rw [hg]; exact Nat.ne_of_lt (blk_lt (g := gb151) (o := .cells #[.int .i64 a0_0, .string a0_1, .string a0_2, .slice A0_3 l0_3.length c0_3, .slice A0_4 l0_4.length c0_4] 25 (0, 0)) (by (with_reducible repeat (first | refine blk_drewN ?_ _ | refine blk_drew ?_ | refine blk_alloc ?_ _)); exact BK151.out)) : gb151 ≠ gb152)); have n6_ := Aside0.mk ((by rw [hg]; exact Nat.ne_of_gt (blk_lt (g := gb151) (o := .cells #[.int .i64 a0_0, .string a0_1, .string a0_2, .slice A0_3 l0_3.length c0_3, .slice A0_4 l0_4.length c0_4] 25 (0, 0)) (by (with_reducible repeat (first | refine blk_drewN ?_ _ | refine blk_drew ?_ | refine blk_alloc ?_ _)); exact BK151.out)) : gb152 ≠ gb151)); clear BK151; clear HB; have BK151 := n0_; have HB := n1_; have BK152 := n2_; have GW152 := n3_; have GE152 := n4_; have NB151_152 := n5_; have NB152_151 := n6_; clear n0_ n1_ n2_ n3_ n4_ n5_ n6_; clear hb hbox hg))
 (try simp only [Act.put, List.setIfInBounds_toArray, List.set_cons_zero, List.set_cons_succ])
 go_cut [43] (fun v43 wc => ∃ (kq : Nat) (x43_2 : Bool), v43 = .bool x43_2 ∧ Aside0 (spec_SameTree.j0 kq x43_2 a0_0 a0_1 a0_2 l0_3 l0_4 a1_0 a1_1 a1_2 l1_3 l1_4 = some r) ∧ Aside0 (kq ≤ k) ∧ Aside0 (wc.heap[gb151]? = some (.cells #[.int .i64 a0_0, .string a0_1, .string a0_2, (.slice A0_3 l0_3.length c0_3), (.slice A0_4 l0_4.length c0_4)] 25 (0, 0))) ∧ Aside0 (wc.heap[gb152]? = some (.cells #[.int .i64 a1_0, .string a1_1, .string a1_2, (.slice A1_3 l1_3.length c1_3), (.slice A1_4 l1_4.length c1_4)] 25 (0, 0))) ∧ Aside0 (Below w.heap.size w wc))
 case first =>
  have H := HC3.out
  clear HC3
  by_cases c6 : a0_0 = a1_0
  ·rw [if_pos c6] at H
   have c6b0 : (a0_0 == a1_0) = true := beq_iff_eq.mpr c6
   have c6b1 : (a0_0 != a1_0) = false := bne_eq_false_iff_eq.mpr c6
   clear c6
   (first | rw [c6b0] | (simp only [i64_w, i32_w]; rw [c6b0]) | skip)
   by_cases c7 : a0_1.toList = a1_1.toList
   ·rw [if_pos c7] at H
    have c7b0 : (a0_1.toList == a1_1.toList) = true := beq_iff_eq.mpr c7
    have c7b1 : (a0_1.toList != a1_1.toList) = false := bne_eq_false_iff_eq.mpr c7
    clear c7
    by_cases c8 : a0_2.toList = a1_2.toList
    ·rw [if_pos c8] at H
     have c8b0 : (a0_2.toList == a1_2.toList) = true := beq_iff_eq.mpr c8
     have c8b1 : (a0_2.toList != a1_2.toList) = false := bne_eq_false_iff_eq.mpr c8
     clear c8
     by_cases c9 : (l0_3.length : Int) = (l1_3.length : Int)
     ·rw [if_pos c9] at H
      have c9b0 : ((l0_3.length : Int) == (l1_3.length : Int)) = true := beq_iff_eq.mpr c9
      have c9b1 : ((l0_3.length : Int) != (l1_3.length : Int)) = false := bne_eq_false_iff_eq.mpr c9
      have c9b2 : (l0_3.length == l1_3.length) = true := by first | simpa using c9 | (simp at c9 ⊢; omega)
      clear c9
      have H' := Aside0.mk H
      clear H
      have hnb10 := NB151_152.out
      have hnc10 := NB152_151.out
      have hcz11_0 : w5.cell? ⟨gb151, 0, none⟩ = some (.int .i64 a0_0) := (blk_cell BK151.out 0).trans rfl
      have hcz11_1 : w5.cell? ⟨gb151, 1, none⟩ = some (.string a0_1) := (blk_cell BK151.out 1).trans rfl
      have hcz11_2 : w5.cell? ⟨gb151, 2, none⟩ = some (.string a0_2) := (blk_cell BK151.out 2).trans rfl
      have hcz11_3 : w5.cell? ⟨gb151, 3, none⟩ = some (.slice A0_3 l0_3.length c0_3) := (blk_cell BK151.out 3).trans rfl
      have hcz11_4 : w5.cell? ⟨gb151, 4, none⟩ = some (.slice A0_4 l0_4.length c0_4) := (blk_cell BK151.out 4).trans rfl
      have hfz11_0 := blk_frozen BK151.out 0
      have hfz11_1 := blk_frozen BK151.out 1
      have hfz11_2 := blk_frozen BK151.out 2
      have hfz11_3 := blk_frozen BK151.out 3
      have hfz11_4 := blk_frozen BK151.out 4
      have hcz12_0 : w5.cell? ⟨gb152, 0, none⟩ = some (.int .i64 a1_0) := (blk_cell BK152.out 0).trans rfl
      have hcz12_1 : w5.cell? ⟨gb152, 1, none⟩ = some (.string a1_1) := (blk_cell BK152.out 1).trans rfl
      have hcz12_2 : w5.cell? ⟨gb152, 2, none⟩ = some (.string a1_2) := (blk_cell BK152.out 2).trans rfl
      have hcz12_3 : w5.cell? ⟨gb152, 3, none⟩ = some (.slice A1_3 l1_3.length c1_3) := (blk_cell BK152.out 3).trans rfl
      have hcz12_4 : w5.cell? ⟨gb152, 4, none⟩ = some (.slice A1_4 l1_4.length c1_4) := (blk_cell BK152.out 4).trans rfl
      have hfz12_0 := blk_frozen BK152.out 0
      have hfz12_1 := blk_frozen BK152.out 1
      have hfz12_2 := blk_frozen BK152.out 2
      have hfz12_3 := blk_frozen BK152.out 3
      have hfz12_4 := blk_frozen BK152.out 4
      go_wp2
      go_meet
      case rel => exact ⟨_, (((l0_4.length : Int) != (l1_4.length : Int))), (by first | rfl | (simp; done) | (simp [*]; done)), H', ⟨by first | omega | exact Nat.le_refl _⟩, ⟨by (with_reducible repeat (first | refine blk_drewN ?_ _ | refine blk_drew ?_ | refine blk_alloc ?_ _)); exact BK151.out⟩, ⟨by (with_reducible repeat (first | refine blk_drewN ?_ _ | refine blk_drew ?_ | refine blk_alloc ?_ _)); exact BK152.out⟩, ⟨by repeat (first | (with_reducible first | exact HB.out | apply below_alloc | apply pw_below_drewN | apply below_drew1 | refine below_set ?_ GE151.out | refine below_set ?_ GE152.out) | exact HB.out)⟩⟩
     ·rw [if_neg c9] at H
      have c9b0 : ((l0_3.length : Int) == (l1_3.length : Int)) = false := beq_eq_false_iff_ne.mpr c9
      have c9b1 : ((l0_3.length : Int) != (l1_3.length : Int)) = true := bne_iff_ne.mpr c9
      have c9b2 : (l0_3.length == l1_3.length) = false := by first | simpa using c9 | (simp at c9 ⊢; omega)
      have H' := Aside0.mk H
      clear H
      have hnb13 := NB151_152.out
      have hnc13 := NB152_151.out
      have hcz14_0 : w5.cell? ⟨gb151, 0, none⟩ = some (.int .i64 a0_0) := (blk_cell BK151.out 0).trans rfl
      have hcz14_1 : w5.cell? ⟨gb151, 1, none⟩ = some (.string a0_1) := (blk_cell BK151.out 1).trans rfl
      have hcz14_2 : w5.cell? ⟨gb151, 2, none⟩ = some (.string a0_2) := (blk_cell BK151.out 2).trans rfl
      have hcz14_3 : w5.cell? ⟨gb151, 3, none⟩ = some (.slice A0_3 l0_3.length c0_3) := (blk_cell BK151.out 3).trans rfl
      have hcz14_4 : w5.cell? ⟨gb151, 4, none⟩ = some (.slice A0_4 l0_4.length c0_4) := (blk_cell BK151.out 4).trans rfl
      have hfz14_0 := blk_frozen BK151.out 0
      have hfz14_1 := blk_frozen BK151.out 1
      have hfz14_2 := blk_frozen BK151.out 2
      have hfz14_3 := blk_frozen BK151.out 3
      have hfz14_4 := blk_frozen BK151.out 4
      have hcz15_0 : w5.cell? ⟨gb152, 0, none⟩ = some (.int .i64 a1_0) := (blk_cell BK152.out 0).trans rfl
      have hcz15_1 : w5.cell? ⟨gb152, 1, none⟩ = some (.string a1_1) := (blk_cell BK152.out 1).trans rfl
      have hcz15_2 : w5.cell? ⟨gb152, 2, none⟩ = some (.string a1_2) := (blk_cell BK152.out 2).trans rfl
      have hcz15_3 : w5.cell? ⟨gb152, 3, none⟩ = some (.slice A1_3 l1_3.length c1_3) := (blk_cell BK152.out 3).trans rfl
      have hcz15_4 : w5.cell? ⟨gb152, 4, none⟩ = some (.slice A1_4 l1_4.length c1_4) := (blk_cell BK152.out 4).trans rfl
      have hfz15_0 := blk_frozen BK152.out 0
      have hfz15_1 := blk_frozen BK152.out 1
      have hfz15_2 := blk_frozen BK152.out 2
      have hfz15_3 := blk_frozen BK152.out 3
      have hfz15_4 := blk_frozen BK152.out 4
      go_wp2
      go_meet
      case rel => exact ⟨_, (true), (by first | rfl | (simp; done) | (simp [*]; done)), H', ⟨by first | omega | exact Nat.le_refl _⟩, ⟨by (with_reducible repeat (first | refine blk_drewN ?_ _ | refine blk_drew ?_ | refine blk_alloc ?_ _)); exact BK151.out⟩, ⟨by (with_reducible repeat (first | refine blk_drewN ?_ _ | refine blk_drew ?_ | refine blk_alloc ?_ _)); exact BK152.out⟩, ⟨by repeat (first | (with_reducible first | exact HB.out | apply below_alloc | apply pw_below_drewN | apply below_drew1 | refine below_set ?_ GE151.out | refine below_set ?_ GE152.out) | exact HB.out)⟩⟩
    ·rw [if_neg c8] at H
     have c8b0 : (a0_2.toList == a1_2.toList) = false := beq_eq_false_iff_ne.mpr c8
     have c8b1 : (a0_2.toList != a1_2.toList) = true := bne_iff_ne.mpr c8
     have H' := Aside0.mk H
     clear H
     have hnb16 := NB151_152.out
     have hnc16 := NB152_151.out
     have hcz17_0 : w5.cell? ⟨gb151, 0, none⟩ = some (.int .i64 a0_0) := (blk_cell BK151.out 0).trans rfl
     have hcz17_1 : w5.cell? ⟨gb151, 1, none⟩ = some (.string a0_1) := (blk_cell BK151.out 1).trans rfl
     have hcz17_2 : w5.cell? ⟨gb151, 2, none⟩ = some (.string a0_2) := (blk_cell BK151.out 2).trans rfl
     have hcz17_3 : w5.cell? ⟨gb151, 3, none⟩ = some (.slice A0_3 l0_3.length c0_3) := (blk_cell BK151.out 3).trans rfl
     have hcz17_4 : w5.cell? ⟨gb151, 4, none⟩ = some (.slice A0_4 l0_4.length c0_4) := (blk_cell BK151.out 4).trans rfl
     have hfz17_0 := blk_frozen BK151.out 0
     have hfz17_1 := blk_frozen BK151.out 1
     have hfz17_2 := blk_frozen BK151.out 2
     have hfz17_3 := blk_frozen BK151.out 3
     have hfz17_4 := blk_frozen BK151.out 4
     have hcz18_0 : w5.cell? ⟨gb152, 0, none⟩ = some (.int .i64 a1_0) := (blk_cell BK152.out 0).trans rfl
     have hcz18_1 : w5.cell? ⟨gb152, 1, none⟩ = some (.string a1_1) := (blk_cell BK152.out 1).trans rfl
     have hcz18_2 : w5.cell? ⟨gb152, 2, none⟩ = some (.string a1_2) := (blk_cell BK152.out 2).trans rfl
     have hcz18_3 : w5.cell? ⟨gb152, 3, none⟩ = some (.slice A1_3 l1_3.length c1_3) := (blk_cell BK152.out 3).trans rfl
     have hcz18_4 : w5.cell? ⟨gb152, 4, none⟩ = some (.slice A1_4 l1_4.length c1_4) := (blk_cell BK152.out 4).trans rfl
     have hfz18_0 := blk_frozen BK152.out 0
     have hfz18_1 := blk_frozen BK152.out 1
     have hfz18_2 := blk_frozen BK152.out 2
     have hfz18_3 := blk_frozen BK152.out 3
     have hfz18_4 := blk_frozen BK152.out 4
     go_wp2
     go_meet
     case rel => exact ⟨_, (true), (by first | rfl | (simp; done) | (simp [*]; done)), H', ⟨by first | omega | exact Nat.le_refl _⟩, ⟨by (with_reducible repeat (first | refine blk_drewN ?_ _ | refine blk_drew ?_ | refine blk_alloc ?_ _)); exact BK151.out⟩, ⟨by (with_reducible repeat (first | refine blk_drewN ?_ _ | refine blk_drew ?_ | refine blk_alloc ?_ _)); exact BK152.out⟩, ⟨by repeat (first | (with_reducible first | exact HB.out | apply below_alloc | apply pw_below_drewN | apply below_drew1 | refine below_set ?_ GE151.out | refine below_set ?_ GE152.out) | exact HB.out)⟩⟩
   ·rw [if_neg c7] at H
    have c7b0 : (a0_1.toList == a1_1.toList) = false := beq_eq_false_iff_ne.mpr c7
    have c7b1 : (a0_1.toList != a1_1.toList) = true := bne_iff_ne.mpr c7
    have H' := Aside0.mk H
    clear H
    have hnb19 := NB151_152.out
    have hnc19 := NB152_151.out
    have hcz20_0 : w5.cell? ⟨gb151, 0, none⟩ = some (.int .i64 a0_0) := (blk_cell BK151.out 0).trans rfl
    have hcz20_1 : w5.cell? ⟨gb151, 1, none⟩ = some (.string a0_1) := (blk_cell BK151.out 1).trans rfl
    have hcz20_2 : w5.cell? ⟨gb151, 2, none⟩ = some (.string a0_2) := (blk_cell BK151.out 2).trans rfl
    have hcz20_3 : w5.cell? ⟨gb151, 3, none⟩ = some (.slice A0_3 l0_3.length c0_3) := (blk_cell BK151.out 3).trans rfl
    have hcz20_4 : w5.cell? ⟨gb151, 4, none⟩ = some (.slice A0_4 l0_4.length c0_4) := (blk_cell BK151.out 4).trans rfl
    have hfz20_0 := blk_frozen BK151.out 0
    have hfz20_1 := blk_frozen BK151.out 1
    have hfz20_2 := blk_frozen BK151.out 2
    have hfz20_3 := blk_frozen BK151.out 3
    have hfz20_4 := blk_frozen BK151.out 4
    have hcz21_0 : w5.cell? ⟨gb152, 0, none⟩ = some (.int .i64 a1_0) := (blk_cell BK152.out 0).trans rfl
    have hcz21_1 : w5.cell? ⟨gb152, 1, none⟩ = some (.string a1_1) := (blk_cell BK152.out 1).trans rfl
    have hcz21_2 : w5.cell? ⟨gb152, 2, none⟩ = some (.string a1_2) := (blk_cell BK152.out 2).trans rfl
    have hcz21_3 : w5.cell? ⟨gb152, 3, none⟩ = some (.slice A1_3 l1_3.length c1_3) := (blk_cell BK152.out 3).trans rfl
    have hcz21_4 : w5.cell? ⟨gb152, 4, none⟩ = some (.slice A1_4 l1_4.length c1_4) := (blk_cell BK152.out 4).trans rfl
    have hfz21_0 := blk_frozen BK152.out 0
    have hfz21_1 := blk_frozen BK152.out 1
    have hfz21_2 := blk_frozen BK152.out 2
    have hfz21_3 := blk_frozen BK152.out 3
    have hfz21_4 := blk_frozen BK152.out 4
    go_wp2
    go_meet
    case rel => exact ⟨_, (true), (by first | rfl | (simp; done) | (simp [*]; done)), H', ⟨by first | omega | exact Nat.le_refl _⟩, ⟨by (with_reducible repeat (first | refine blk_drewN ?_ _ | refine blk_drew ?_ | refine blk_alloc ?_ _)); exact BK151.out⟩, ⟨by (with_reducible repeat (first | refine blk_drewN ?_ _ | refine blk_drew ?_ | refine blk_alloc ?_ _)); exact BK152.out⟩, ⟨by repeat (first | (with_reducible first | exact HB.out | apply below_alloc | apply pw_below_drewN | apply below_drew1 | refine below_set ?_ GE151.out | refine below_set ?_ GE152.out) | exact HB.out)⟩⟩
  ·rw [if_neg c6] at H
   have c6b0 : (a0_0 == a1_0) = false := beq_eq_false_iff_ne.mpr c6
   have c6b1 : (a0_0 != a1_0) = true := bne_iff_ne.mpr c6
   (first | rw [c6b0] | (simp only [i64_w, i32_w]; rw [c6b0]) | skip)
   have H' := Aside0.mk H
   clear H
   have hnb22 := NB151_152.out
   have hnc22 := NB152_151.out
   have hcz23_0 : w5.cell? ⟨gb151, 0, none⟩ = some (.int .i64 a0_0) := (blk_cell BK151.out 0).trans rfl
   have hcz23_1 : w5.cell? ⟨gb151, 1, none⟩ = some (.string a0_1) := (blk_cell BK151.out 1).trans rfl
   have hcz23_2 : w5.cell? ⟨gb151, 2, none⟩ = some (.string a0_2) := (blk_cell BK151.out 2).trans rfl
   have hcz23_3 : w5.cell? ⟨gb151, 3, none⟩ = some (.slice A0_3 l0_3.length c0_3) := (blk_cell BK151.out 3).trans rfl
   have hcz23_4 : w5.cell? ⟨gb151, 4, none⟩ = some (.slice A0_4 l0_4.length c0_4) := (blk_cell BK151.out 4).trans rfl
   have hfz23_0 := blk_frozen BK151.out 0
   have hfz23_1 := blk_frozen BK151.out 1
   have hfz23_2 := blk_frozen BK151.out 2
   have hfz23_3 := blk_frozen BK151.out 3
   have hfz23_4 := blk_frozen BK151.out 4
   have hcz24_0 : w5.cell? ⟨gb152, 0, none⟩ = some (.int .i64 a1_0) := (blk_cell BK152.out 0).trans rfl
   have hcz24_1 : w5.cell? ⟨gb152, 1, none⟩ = some (.string a1_1) := (blk_cell BK152.out 1).trans rfl
   have hcz24_2 : w5.cell? ⟨gb152, 2, none⟩ = some (.string a1_2) := (blk_cell BK152.out 2).trans rfl
   have hcz24_3 : w5.cell? ⟨gb152, 3, none⟩ = some (.slice A1_3 l1_3.length c1_3) := (blk_cell BK152.out 3).trans rfl
   have hcz24_4 : w5.cell? ⟨gb152, 4, none⟩ = some (.slice A1_4 l1_4.length c1_4) := (blk_cell BK152.out 4).trans rfl
   have hfz24_0 := blk_frozen BK152.out 0
   have hfz24_1 := blk_frozen BK152.out 1
   have hfz24_2 := blk_frozen BK152.out 2
   have hfz24_3 := blk_frozen BK152.out 3
   have hfz24_4 := blk_frozen BK152.out 4
   go_wp2
   go_meet
   case rel => exact ⟨_, (true), (by first | rfl | (simp; done) | (simp [*]; done)), H', ⟨by first | omega | exact Nat.le_refl _⟩, ⟨by (with_reducible repeat (first | refine blk_drewN ?_ _ | refine blk_drew ?_ | refine blk_alloc ?_ _)); exact BK151.out⟩, ⟨by (with_reducible repeat (first | refine blk_drewN ?_ _ | refine blk_drew ?_ | refine blk_alloc ?_ _)); exact BK152.out⟩, ⟨by repeat (first | (with_reducible first | exact HB.out | apply below_alloc | apply pw_below_drewN | apply below_drew1 | refine below_set ?_ GE151.out | refine below_set ?_ GE152.out) | exact HB.out)⟩⟩
 case rest =>
  clear HC3
  try clear c1
  try clear c2
  try clear p2
  try clear c6
  try clear c6b0
  try clear c6b1
  try clear c7
  try clear c7b0
  try clear c7b1
  try clear c8
  try clear c8b0
  try clear c8b1
  try clear c9
  try clear c9b0
  try clear c9b1
  try clear c9b2
  try clear c10
  try clear c13
  try clear c14
  try clear c16
  try clear c19
  try clear c22
  try clear hcz11_0
  try clear hcz11_1
  try clear hcz11_2
  try clear hcz11_3
  try clear hcz11_4
  try clear hcz12_0
  try clear hcz12_1
  try clear hcz12_2
  try clear hcz12_3
  try clear hcz12_4
  try clear hcz14_0
  try clear hcz14_1
  try clear hcz14_2
  try clear hcz14_3
  try clear hcz14_4
  try clear hcz15_0
  try clear hcz15_1
  try clear hcz15_2
  try clear hcz15_3
  try clear hcz15_4
  try clear hcz17_0
  try clear hcz17_1
  try clear hcz17_2
  try clear hcz17_3
  try clear hcz17_4
  try clear hcz18_0
  try clear hcz18_1
  try clear hcz18_2
  try clear hcz18_3
  try clear hcz18_4
  try clear hcz20_0
  try clear hcz20_1
  try clear hcz20_2
  try clear hcz20_3
  try clear hcz20_4
  try clear hcz21_0
  try clear hcz21_1
  try clear hcz21_2
  try clear hcz21_3
  try clear hcz21_4
  try clear hcz23_0
  try clear hcz23_1
  try clear hcz23_2
  try clear hcz23_3
  try clear hcz23_4
  try clear hcz24_0
  try clear hcz24_1
  try clear hcz24_2
  try clear hcz24_3
  try clear hcz24_4
  try clear hfz11_0
  try clear hfz11_1
  try clear hfz11_2
  try clear hfz11_3
  try clear hfz11_4
  try clear hfz12_0
  try clear hfz12_1
  try clear hfz12_2
  try clear hfz12_3
  try clear hfz12_4
  try clear hfz14_0
  try clear hfz14_1
  try clear hfz14_2
  try clear hfz14_3
  try clear hfz14_4
  try clear hfz15_0
  try clear hfz15_1
  try clear hfz15_2
  try clear hfz15_3
  try clear hfz15_4
  try clear hfz17_0
  try clear hfz17_1
  try clear hfz17_2
  try clear hfz17_3
  try clear hfz17_4
  try clear hfz18_0
  try clear hfz18_1
  try clear hfz18_2
  try clear hfz18_3
  try clear hfz18_4
  try clear hfz20_0
  try clear hfz20_1
  try clear hfz20_2
  try clear hfz20_3
  try clear hfz20_4
  try clear hfz21_0
  try clear hfz21_1
  try clear hfz21_2
  try clear hfz21_3
  try clear hfz21_4
  try clear hfz23_0
  try clear hfz23_1
  try clear hfz23_2
  try clear hfz23_3
  try clear hfz23_4
  try clear hfz24_0
  try clear hfz24_1
  try clear hfz24_2
  try clear hfz24_3
  try clear hfz24_4
  obtain ⟨kq, x43_2, rfl, HA, HJ2, BK151, BK152, HB⟩ := hcut
  cases kq with
  | zero => exact absurd HA.out (by simp [spec_SameTree.j0])
  | succ kj2 =>
   have H := HA.out
   clear HA
   simp only [spec_SameTree.j0] at H
   by_cases c25 : x43_2 = true
   ·subst c25
    have H1 : (some false) = some r := by rw [if_pos rfl] at H; exact H
    clear H
    have H := H1
    clear H1
    obtain rfl := Option.some.inj H
    go_wp2
    go_ret
    exact ⟨by first | rfl | (simp [errW_none, errW_some] <;> rfl) | (simp [*, errW_none, errW_some] <;> rfl), by repeat (first | (with_reducible first | exact HB.out | apply below_alloc | apply pw_below_drewN | apply below_drew1 | refine below_set ?_ GE151.out | refine below_set ?_ GE152.out) | exact HB.out)⟩
   ·replace c25 := Bool.eq_false_iff.mpr c25
    subst c25
    have H1 : (spec_SameTree.l0 kj2 (l0_3.length : Int) 0 a0_0 a0_1 a0_2 l0_3 l0_4 a1_0 a1_1 a1_2 l1_3 l1_4) = some r := by rw [if_neg (show ¬ (false = true) by decide)] at H; exact H
    clear H
    have H := H1
    clear H1
    have H' := Aside0.mk H
    clear H
    have hnb26 := NB151_152.out
    have hnc26 := NB152_151.out
    have hcz27_0 : wc.cell? ⟨gb151, 0, none⟩ = some (.int .i64 a0_0) := (blk_cell BK151.out 0).trans rfl
    have hcz27_1 : wc.cell? ⟨gb151, 1, none⟩ = some (.string a0_1) := (blk_cell BK151.out 1).trans rfl
    have hcz27_2 : wc.cell? ⟨gb151, 2, none⟩ = some (.string a0_2) := (blk_cell BK151.out 2).trans rfl
    have hcz27_3 : wc.cell? ⟨gb151, 3, none⟩ = some (.slice A0_3 l0_3.length c0_3) := (blk_cell BK151.out 3).trans rfl
    have hcz27_4 : wc.cell? ⟨gb151, 4, none⟩ = some (.slice A0_4 l0_4.length c0_4) := (blk_cell BK151.out 4).trans rfl
    have hfz27_0 := blk_frozen BK151.out 0
    have hfz27_1 := blk_frozen BK151.out 1
    have hfz27_2 := blk_frozen BK151.out 2
    have hfz27_3 := blk_frozen BK151.out 3
    have hfz27_4 := blk_frozen BK151.out 4
    go_wp2
    go_loopg [47] kj2 (fun kq v47 w' => ∃ (x47_2 : Int), v47 = .int .i64 x47_2 ∧ Aside0 (spec_SameTree.l0 kq (l0_3.length : Int) x47_2 a0_0 a0_1 a0_2 l0_3 l0_4 a1_0 a1_1 a1_2 l1_3 l1_4 = some r) ∧ Aside0 (kq ≤ kj2) ∧ Aside0 (w'.heap[gb151]? = some (.cells #[.int .i64 a0_0, .string a0_1, .string a0_2, (.slice A0_3 l0_3.length c0_3), (.slice A0_4 l0_4.length c0_4)] 25 (0, 0))) ∧ Aside0 (w'.heap[gb152]? = some (.cells #[.int .i64 a1_0, .string a1_1, .string a1_2, (.slice A1_3 l1_3.length c1_3), (.slice A1_4 l1_4.length c1_4)] 25 (0, 0))) ∧ Aside0 (Below w.heap.size w w'))
    case atStart => exact ⟨(0), (by first | rfl | (simp; done) | (simp [*]; done)), H', ⟨Nat.le_refl _⟩, ⟨by (with_reducible repeat (first | refine blk_drewN ?_ _ | refine blk_drew ?_ | refine blk_alloc ?_ _)); exact BK151.out⟩, ⟨by (with_reducible repeat (first | refine blk_drewN ?_ _ | refine blk_drew ?_ | refine blk_alloc ?_ _)); exact BK152.out⟩, ⟨by repeat (first | (with_reducible first | exact HB.out | apply below_alloc | apply pw_below_drewN | apply below_drew1 | refine below_set ?_ GE151.out | refine below_set ?_ GE152.out) | exact HB.out)⟩⟩
    case round =>
     clear H'
     try clear c1
     try clear c2
     try clear p2
     try clear c6
     try clear c6b0
     try clear c6b1
     try clear c7
     try clear c7b0
     try clear c7b1
     try clear c8
     try clear c8b0
     try clear c8b1
     try clear c9
     try clear c9b0
     try clear c9b1
     try clear c9b2
     try clear c10
     try clear c13
     try clear c14
     try clear c16
     try clear c19
     try clear c22
     try clear c25
     try clear c26
     try clear hcz11_0
     try clear hcz11_1
     try clear hcz11_2
     try clear hcz11_3
     try clear hcz11_4
     try clear hcz12_0
     try clear hcz12_1
     try clear hcz12_2
     try clear hcz12_3
     try clear hcz12_4
     try clear hcz14_0
     try clear hcz14_1
     try clear hcz14_2
     try clear hcz14_3
     try clear hcz14_4
     try clear hcz15_0
     try clear hcz15_1
     try clear hcz15_2
     try clear hcz15_3
     try clear hcz15_4
     try clear hcz17_0
     try clear hcz17_1
     try clear hcz17_2
     try clear hcz17_3
     try clear hcz17_4
     try clear hcz18_0
     try clear hcz18_1
     try clear hcz18_2
     try clear hcz18_3
     try clear hcz18_4
     try clear hcz20_0
     try clear hcz20_1
     try clear hcz20_2
     try clear hcz20_3
     try clear hcz20_4
     try clear hcz21_0
     try clear hcz21_1
     try clear hcz21_2
     try clear hcz21_3
     try clear hcz21_4
     try clear hcz23_0
     try clear hcz23_1
     try clear hcz23_2
     try clear hcz23_3
     try clear hcz23_4
     try clear hcz24_0
     try clear hcz24_1
     try clear hcz24_2
     try clear hcz24_3
     try clear hcz24_4
     try clear hcz27_0
     try clear hcz27_1
     try clear hcz27_2
     try clear hcz27_3
     try clear hcz27_4
     try clear hfz11_0
     try clear hfz11_1
     try clear hfz11_2
     try clear hfz11_3
     try clear hfz11_4
     try clear hfz12_0
     try clear hfz12_1
     try clear hfz12_2
     try clear hfz12_3
     try clear hfz12_4
     try clear hfz14_0
     try clear hfz14_1
     try clear hfz14_2
     try clear hfz14_3
     try clear hfz14_4
     try clear hfz15_0
     try clear hfz15_1
     try clear hfz15_2
     try clear hfz15_3
     try clear hfz15_4
     try clear hfz17_0
     try clear hfz17_1
     try clear hfz17_2
     try clear hfz17_3
     try clear hfz17_4
     try clear hfz18_0
     try clear hfz18_1
     try clear hfz18_2
     try clear hfz18_3
     try clear hfz18_4
     try clear hfz20_0
     try clear hfz20_1
     try clear hfz20_2
     try clear hfz20_3
     try clear hfz20_4
     try clear hfz21_0
     try clear hfz21_1
     try clear hfz21_2
     try clear hfz21_3
     try clear hfz21_4
     try clear hfz23_0
     try clear hfz23_1
     try clear hfz23_2
     try clear hfz23_3
     try clear hfz23_4
     try clear hfz24_0
     try clear hfz24_1
     try clear hfz24_2
     try clear hfz24_3
     try clear hfz24_4
     try clear hfz27_0
     try clear hfz27_1
     try clear hfz27_2
     try clear hfz27_3
     try clear hfz27_4
     try clear p2
     obtain ⟨x47_2, rfl, HA, HK2, BK151, BK152, HB⟩ := hrel
     cases gk with
     | zero => exact absurd HA.out (by simp [spec_SameTree.l0])
     | succ k2 =>
      have H := HA.out
      clear HA
      simp only [spec_SameTree.l0] at H
      by_cases c28 : x47_2 < (l0_3.length : Int)
      ·rw [if_pos c28] at H
       have c28b0 : decide (x47_2 < (l0_3.length : Int)) = true := decide_eq_true c28
       clear c28
       by_cases c29 : 0 ≤ x47_2
       ·rw [if_pos c29] at H
        have c29b0 : decide (0 ≤ x47_2) = true := decide_eq_true c29
        clear c29
        by_cases c30 : x47_2 < (l0_3.length : Int)
        ·rw [if_pos c30] at H
         have c30b0 : decide (x47_2 < (l0_3.length : Int)) = true := decide_eq_true c30
         clear c30
         by_cases c31 : x47_2 < (l1_3.length : Int)
         ·rw [if_pos c31] at H
          have c31b0 : decide (x47_2 < (l1_3.length : Int)) = true := decide_eq_true c31
          clear c31
          by_cases c32 : (!((((rd_T53 l0_3 x47_2).f0).toList) == (((rd_T53 l1_3 x47_2).f0).toList)) || (!((((rd_T53 l0_3 x47_2).f1).toList) == (((rd_T53 l1_3 x47_2).f1).toList)))) = true
          ·rw [if_pos c32] at H
           have c32b0 : (!((((rd_T53 l0_3 x47_2).f0).toList) == (((rd_T53 l1_3 x47_2).f0).toList)) || (!((((rd_T53 l0_3 x47_2).f1).toList) == (((rd_T53 l1_3 x47_2).f1).toList)))) = true := c32
           clear c32
           obtain rfl := Option.some.inj H
           try go_wp2
           have n0_ := Aside0.mk (blk_drew BK151.out)
           have n1_ := Aside0.mk (blk_drew BK152.out)
           have n2_ := Aside0.mk (below_drew1 HB.out)
           clear BK151
           clear BK152
           clear HB
           have BK151 := n0_
           have BK152 := n1_
           have HB := n2_
           clear n0_ n1_ n2_
           have p153 : 0 ≤ (x47_2 : Int) := of_decide_eq_true (by first | (with_reducible assumption) | assumption)
           have q153 : x47_2 < (l0_3.length : Int) := of_decide_eq_true (by first | (with_reducible assumption) | assumption)
           obtain ⟨ad153, e153, hx153_0, hx153_1⟩ := at_T53 HR0_3.out x47_2 p153 q153
           have hw153_1 := hx153_1
           have hw153_0 := hx153_0
           cases e153
           replace hx153_0 := (HB.out.cell (World.block_lt_of_cell? w _ hx153_0)).trans hx153_0
           replace hx153_1 := (HB.out.cell (World.block_lt_of_cell? w _ hx153_1)).trans hx153_1
           replace p153 := eq_true p153
           replace q153 := eq_true q153
           have p154 : 0 ≤ (x47_2 : Int) := of_decide_eq_true (by first | (with_reducible assumption) | assumption)
           have q154 : x47_2 < (l1_3.length : Int) := of_decide_eq_true (by first | (with_reducible assumption) | assumption)
           obtain ⟨ad154, e154, hx154_0, hx154_1⟩ := at_T53 HR1_3.out x47_2 p154 q154
           have hw154_1 := hx154_1
           have hw154_0 := hx154_0
           cases e154
           replace hx154_0 := (HB.out.cell (World.block_lt_of_cell? w _ hx154_0)).trans hx154_0
           replace hx154_1 := (HB.out.cell (World.block_lt_of_cell? w _ hx154_1)).trans hx154_1
           replace p154 := eq_true p154
           replace q154 := eq_true q154
           refine start_ (n := 11) (S := fun w' => w'.cell? ⟨gb151, 0, none⟩ = some (.int .i64 a0_0) ∧ w'.cell? ⟨gb151, 1, none⟩ = some (.string a0_1) ∧ w'.cell? ⟨gb151, 2, none⟩ = some (.string a0_2) ∧ w'.cell? ⟨gb151, 3, none⟩ = some (.slice (some ad153) l0_3.length c0_3) ∧ w'.cell? ⟨gb151, 4, none⟩ = some (.slice A0_4 l0_4.length c0_4) ∧ w'.cell? ⟨gb152, 0, none⟩ = some (.int .i64 a1_0) ∧ w'.cell? ⟨gb152, 1, none⟩ = some (.string a1_1) ∧ w'.cell? ⟨gb152, 2, none⟩ = some (.string a1_2) ∧ w'.cell? ⟨gb152, 3, none⟩ = some (.slice (some ad154) l1_3.length c1_3) ∧ w'.cell? ⟨gb152, 4, none⟩ = some (.slice A1_4 l1_4.length c1_4) ∧ w'.cell? (ad153.add ((x47_2).toNat * 2)) = some (.string ((rd_T53 l0_3 x47_2).f0)) ∧ w'.cell? ⟨(ad153.add ((x47_2).toNat * 2)).block, (ad153.add ((x47_2).toNat * 2)).off + 1, none⟩ = some (.string ((rd_T53 l0_3 x47_2).f1)) ∧ w'.cell? (ad154.add ((x47_2).toNat * 2)) = some (.string ((rd_T53 l1_3 x47_2).f0)) ∧ w'.cell? ⟨(ad154.add ((x47_2).toNat * 2)).block, (ad154.add ((x47_2).toNat * 2)).off + 1, none⟩ = some (.string ((rd_T53 l1_3 x47_2).f1))) (ds := []) #[false, false, false, false, false, false, false, false, false, false, false] (by kernel_rfl) rfl rfl ⟨(blk_cell BK151.out 0).trans rfl, (blk_cell BK151.out 1).trans rfl, (blk_cell BK151.out 2).trans rfl, (blk_cell BK151.out 3).trans rfl, (blk_cell BK151.out 4).trans rfl, (blk_cell BK152.out 0).trans rfl, (blk_cell BK152.out 1).trans rfl, (blk_cell BK152.out 2).trans rfl, (blk_cell BK152.out 3).trans rfl, (blk_cell BK152.out 4).trans rfl, ((HB.out.cell (World.block_lt_of_cell? w _ hw153_0)).trans hw153_0), ((HB.out.cell (World.block_lt_of_cell? w _ hw153_1)).trans hw153_1), ((HB.out.cell (World.block_lt_of_cell? w _ hw154_0)).trans hw154_0), ((HB.out.cell (World.block_lt_of_cell? w _ hw154_1)).trans hw154_1)⟩ (fun hHeld => ?_); refine with_tabW spec_SameTree.tab6 spec_SameTree.bits6 (fun HT_ HW_ => ?_)
           generalize wr.drew = w33 at BK151 BK152 HB hx153_0 hx153_1 hx154_0 hx154_1 hHeld ⊢
           refine pure_ (i := 0) (N := some 50) (v := ?_) (a' := ?_) #[true, false, false, false, false, false, false, false, false, false, false] rfl rfl (any_of HT_.out (by kernel_rfl)) (fun _ _ _ h => h) (Or.inl ⟨by rfl, ?_⟩) ?_ ?_
           rotate_left
           ·intro w'
            go_simp
            with_reducible rfl
           rotate_left
           ·simp only [Act.put, List.setIfInBounds_toArray, List.set_cons_zero, List.set_cons_succ, i64_w, i32_w]
            rfl
           refine pure_ (i := 2) (N := some 52) (v := ?_) (a' := ?_) #[true, false, true, false, false, false, false, false, false, false, false] rfl rfl (any_of HT_.out (by kernel_rfl)) (fun _ _ _ h => h) (Or.inl ⟨by rfl, ?_⟩) ?_ ?_
           rotate_left
           ·intro w'
            go_simp
            with_reducible rfl
           rotate_left
           ·simp only [Act.put, List.setIfInBounds_toArray, List.set_cons_zero, List.set_cons_succ, i64_w, i32_w]
            rfl
           refine pure_ (i := 5) (N := some 55) (v := ?_) (a' := ?_) #[true, false, true, false, false, true, false, false, false, false, false] rfl rfl (any_of HT_.out (by kernel_rfl)) (fun _ _ _ h => h) (Or.inl ⟨by rfl, ?_⟩) ?_ ?_
           rotate_left
           ·intro w'
            go_simp
            with_reducible rfl
           rotate_left
           ·simp only [Act.put, List.setIfInBounds_toArray, List.set_cons_zero, List.set_cons_succ, i64_w, i32_w]
            rfl
           refine pure_ (i := 7) (N := some 57) (v := ?_) (a' := ?_) #[true, false, true, false, false, true, false, true, false, false, false] rfl rfl (any_of HT_.out (by kernel_rfl)) (fun _ _ _ h => h) (Or.inl ⟨by rfl, ?_⟩) ?_ ?_
           rotate_left
           ·intro w'
            go_simp
            with_reducible rfl
           rotate_left
           ·simp only [Act.put, List.setIfInBounds_toArray, List.set_cons_zero, List.set_cons_succ, i64_w, i32_w]
            rfl
           refine take_ (i := 1) (N := some 51) (v := ?_) (a' := ?_) #[true, true, true, false, false, true, false, true, false, false, false] rfl rfl (take_ofW HT_.out HW_.out (by kernel_rfl)) (fun _ _ _ h => h) (Or.inl ⟨by rfl, ?_⟩) hHeld ?_ ?_
           rotate_left
           ·rintro w' ⟨s0, s1, s2, s3, s4, s5, s6, s7, s8, s9, s10, s11, s12, s13⟩
            go_simp
            with_reducible rfl
           rotate_left
           ·simp only [Act.put, List.setIfInBounds_toArray, List.set_cons_zero, List.set_cons_succ, i64_w, i32_w]
            rfl
           refine pure_ (i := 3) (N := some 53) (v := ?_) (a' := ?_) #[true, true, true, true, false, true, false, true, false, false, false] rfl rfl (any_of HT_.out (by kernel_rfl)) (fun _ _ _ h => h) (Or.inl ⟨by rfl, ?_⟩) ?_ ?_
           rotate_left
           ·intro w'
            go_simp
            with_reducible rfl
           rotate_left
           ·simp only [Act.put, List.setIfInBounds_toArray, List.set_cons_zero, List.set_cons_succ, i64_w, i32_w]
            rfl
           refine take_ (i := 4) (N := some 54) (v := ?_) (a' := ?_) #[true, true, true, true, true, true, false, true, false, false, false] rfl rfl (take_ofW HT_.out HW_.out (by kernel_rfl)) (fun _ _ _ h => h) (Or.inl ⟨by rfl, ?_⟩) hHeld ?_ ?_
           rotate_left
           ·rintro w' ⟨s0, s1, s2, s3, s4, s5, s6, s7, s8, s9, s10, s11, s12, s13⟩
            go_simp
            with_reducible rfl
           rotate_left
           ·simp only [Act.put, List.setIfInBounds_toArray, List.set_cons_zero, List.set_cons_succ, i64_w, i32_w]
            rfl
           refine take_ (i := 6) (N := some 56) (v := ?_) (a' := ?_) #[true, true, true, true, true, true, true, true, false, false, false] rfl rfl (take_ofW HT_.out HW_.out (by kernel_rfl)) (fun _ _ _ h => h) (Or.inl ⟨by rfl, ?_⟩) hHeld ?_ ?_
           rotate_left
           ·rintro w' ⟨s0, s1, s2, s3, s4, s5, s6, s7, s8, s9, s10, s11, s12, s13⟩
            go_simp
            with_reducible rfl
           rotate_left
           ·simp only [Act.put, List.setIfInBounds_toArray, List.set_cons_zero, List.set_cons_succ, i64_w, i32_w]
            rfl
           refine pure_ (i := 8) (N := some 58) (v := ?_) (a' := ?_) #[true, true, true, true, true, true, true, true, true, false, false] rfl rfl (any_of HT_.out (by kernel_rfl)) (fun _ _ _ h => h) (Or.inl ⟨by rfl, ?_⟩) ?_ ?_
           rotate_left
           ·intro w'
            go_simp
            with_reducible rfl
           rotate_left
           ·simp only [Act.put, List.setIfInBounds_toArray, List.set_cons_zero, List.set_cons_succ, i64_w, i32_w]
            rfl
           refine take_ (i := 9) (N := some 59) (v := ?_) (a' := ?_) #[true, true, true, true, true, true, true, true, true, true, false] rfl rfl (take_ofW HT_.out HW_.out (by kernel_rfl)) (fun _ _ _ h => h) (Or.inl ⟨by rfl, ?_⟩) hHeld ?_ ?_
           rotate_left
           ·rintro w' ⟨s0, s1, s2, s3, s4, s5, s6, s7, s8, s9, s10, s11, s12, s13⟩
            go_simp
            with_reducible rfl
           rotate_left
           ·simp only [Act.put, List.setIfInBounds_toArray, List.set_cons_zero, List.set_cons_succ, i64_w, i32_w]
            rfl
           refine pure_ (i := 10) (N := some 60) (v := ?_) (a' := ?_) #[true, true, true, true, true, true, true, true, true, true, true] rfl rfl (any_of HT_.out (by kernel_rfl)) (fun _ _ _ h => h) (Or.inl ⟨by rfl, ?_⟩) ?_ ?_
           rotate_left
           ·intro w'
            go_simp
            with_reducible rfl
           rotate_left
           ·simp only [Act.put, List.setIfInBounds_toArray, List.set_cons_zero, List.set_cons_succ, i64_w, i32_w]
            rfl
           refine done_ (done_of HT_.out (by kernel_rfl)) ?_
           try go_wp2
           go_ret
           exact ⟨by first | rfl | (simp [errW_none, errW_some] <;> rfl) | (simp [*, errW_none, errW_some] <;> rfl), by repeat (first | (with_reducible first | exact HB.out | apply below_alloc | apply pw_below_drewN | apply below_drew1 | refine below_set ?_ GE151.out | refine below_set ?_ GE152.out) | exact HB.out)⟩
          ·rw [if_neg c32] at H
           have c32b0 : (!((((rd_T53 l0_3 x47_2).f0).toList) == (((rd_T53 l1_3 x47_2).f0).toList)) || (!((((rd_T53 l0_3 x47_2).f1).toList) == (((rd_T53 l1_3 x47_2).f1).toList)))) = false := by simpa using c32
           clear c32
           have H' := Aside0.mk H
           clear H
           try go_wp2
           have n0_ := Aside0.mk (blk_drew BK151.out)
           have n1_ := Aside0.mk (blk_drew BK152.out)
           have n2_ := Aside0.mk (below_drew1 HB.out)
           clear BK151
           clear BK152
           clear HB
           have BK151 := n0_
           have BK152 := n1_
           have HB := n2_
           clear n0_ n1_ n2_
           have p153 : 0 ≤ (x47_2 : Int) := of_decide_eq_true (by first | (with_reducible assumption) | assumption)
           have q153 : x47_2 < (l0_3.length : Int) := of_decide_eq_true (by first | (with_reducible assumption) | assumption)
           obtain ⟨ad153, e153, hx153_0, hx153_1⟩ := at_T53 HR0_3.out x47_2 p153 q153
           have hw153_1 := hx153_1
           have hw153_0 := hx153_0
           cases e153
           replace hx153_0 := (HB.out.cell (World.block_lt_of_cell? w _ hx153_0)).trans hx153_0
           replace hx153_1 := (HB.out.cell (World.block_lt_of_cell? w _ hx153_1)).trans hx153_1
           replace p153 := eq_true p153
           replace q153 := eq_true q153
           have p154 : 0 ≤ (x47_2 : Int) := of_decide_eq_true (by first | (with_reducible assumption) | assumption)
           have q154 : x47_2 < (l1_3.length : Int) := of_decide_eq_true (by first | (with_reducible assumption) | assumption)
           obtain ⟨ad154, e154, hx154_0, hx154_1⟩ := at_T53 HR1_3.out x47_2 p154 q154
           have hw154_1 := hx154_1
           have hw154_0 := hx154_0
           cases e154
           replace hx154_0 := (HB.out.cell (World.block_lt_of_cell? w _ hx154_0)).trans hx154_0
           replace hx154_1 := (HB.out.cell (World.block_lt_of_cell? w _ hx154_1)).trans hx154_1
           replace p154 := eq_true p154
           replace q154 := eq_true q154
           refine start_ (n := 11) (S := fun w' => w'.cell? ⟨gb151, 0, none⟩ = some (.int .i64 a0_0) ∧ w'.cell? ⟨gb151, 1, none⟩ = some (.string a0_1) ∧ w'.cell? ⟨gb151, 2, none⟩ = some (.string a0_2) ∧ w'.cell? ⟨gb151, 3, none⟩ = some (.slice (some ad153) l0_3.length c0_3) ∧ w'.cell? ⟨gb151, 4, none⟩ = some (.slice A0_4 l0_4.length c0_4) ∧ w'.cell? ⟨gb152, 0, none⟩ = some (.int .i64 a1_0) ∧ w'.cell? ⟨gb152, 1, none⟩ = some (.string a1_1) ∧ w'.cell? ⟨gb152, 2, none⟩ = some (.string a1_2) ∧ w'.cell? ⟨gb152, 3, none⟩ = some (.slice (some ad154) l1_3.length c1_3) ∧ w'.cell? ⟨gb152, 4, none⟩ = some (.slice A1_4 l1_4.length c1_4) ∧ w'.cell? (ad153.add ((x47_2).toNat * 2)) = some (.string ((rd_T53 l0_3 x47_2).f0)) ∧ w'.cell? ⟨(ad153.add ((x47_2).toNat * 2)).block, (ad153.add ((x47_2).toNat * 2)).off + 1, none⟩ = some (.string ((rd_T53 l0_3 x47_2).f1)) ∧ w'.cell? (ad154.add ((x47_2).toNat * 2)) = some (.string ((rd_T53 l1_3 x47_2).f0)) ∧ w'.cell? ⟨(ad154.add ((x47_2).toNat * 2)).block, (ad154.add ((x47_2).toNat * 2)).off + 1, none⟩ = some (.string ((rd_T53 l1_3 x47_2).f1))) (ds := []) #[false, false, false, false, false, false, false, false, false, false, false] (by kernel_rfl) rfl rfl ⟨(blk_cell BK151.out 0).trans rfl, (blk_cell BK151.out 1).trans rfl, (blk_cell BK151.out 2).trans rfl, (blk_cell BK151.out 3).trans rfl, (blk_cell BK151.out 4).trans rfl, (blk_cell BK152.out 0).trans rfl, (blk_cell BK152.out 1).trans rfl, (blk_cell BK152.out 2).trans rfl, (blk_cell BK152.out 3).trans rfl, (blk_cell BK152.out 4).trans rfl, ((HB.out.cell (World.block_lt_of_cell? w _ hw153_0)).trans hw153_0), ((HB.out.cell (World.block_lt_of_cell? w _ hw153_1)).trans hw153_1), ((HB.out.cell (World.block_lt_of_cell? w _ hw154_0)).trans hw154_0), ((HB.out.cell (World.block_lt_of_cell? w _ hw154_1)).trans hw154_1)⟩ (fun hHeld => ?_); refine with_tabW spec_SameTree.tab6 spec_SameTree.bits6 (fun HT_ HW_ => ?_)
           generalize wr.drew = w34 at BK151 BK152 HB hx153_0 hx153_1 hx154_0 hx154_1 hHeld ⊢
           refine pure_ (i := 0) (N := some 50) (v := ?_) (a' := ?_) #[true, false, false, false, false, false, false, false, false, false, false] rfl rfl (any_of HT_.out (by kernel_rfl)) (fun _ _ _ h => h) (Or.inl ⟨by rfl, ?_⟩) ?_ ?_
           rotate_left
           ·intro w'
            go_simp
            with_reducible rfl
           rotate_left
           ·simp only [Act.put, List.setIfInBounds_toArray, List.set_cons_zero, List.set_cons_succ, i64_w, i32_w]
            rfl
           refine pure_ (i := 2) (N := some 52) (v := ?_) (a' := ?_) #[true, false, true, false, false, false, false, false, false, false, false] rfl rfl (any_of HT_.out (by kernel_rfl)) (fun _ _ _ h => h) (Or.inl ⟨by rfl, ?_⟩) ?_ ?_
           rotate_left
           ·intro w'
            go_simp
            with_reducible rfl
           rotate_left
           ·simp only [Act.put, List.setIfInBounds_toArray, List.set_cons_zero, List.set_cons_succ, i64_w, i32_w]
            rfl
           refine pure_ (i := 5) (N := some 55) (v := ?_) (a' := ?_) #[true, false, true, false, false, true, false, false, false, false, false] rfl rfl (any_of HT_.out (by kernel_rfl)) (fun _ _ _ h => h) (Or.inl ⟨by rfl, ?_⟩) ?_ ?_
           rotate_left
           ·intro w'
            go_simp
            with_reducible rfl
           rotate_left
           ·simp only [Act.put, List.setIfInBounds_toArray, List.set_cons_zero, List.set_cons_succ, i64_w, i32_w]
            rfl
           refine pure_ (i := 7) (N := some 57) (v := ?_) (a' := ?_) #[true, false, true, false, false, true, false, true, false, false, false] rfl rfl (any_of HT_.out (by kernel_rfl)) (fun _ _ _ h => h) (Or.inl ⟨by rfl, ?_⟩) ?_ ?_
           rotate_left
           ·intro w'
            go_simp
            with_reducible rfl
           rotate_left
           ·simp only [Act.put, List.setIfInBounds_toArray, List.set_cons_zero, List.set_cons_succ, i64_w, i32_w]
            rfl
           refine take_ (i := 1) (N := some 51) (v := ?_) (a' := ?_) #[true, true, true, false, false, true, false, true, false, false, false] rfl rfl (take_ofW HT_.out HW_.out (by kernel_rfl)) (fun _ _ _ h => h) (Or.inl ⟨by rfl, ?_⟩) hHeld ?_ ?_
           rotate_left
           ·rintro w' ⟨s0, s1, s2, s3, s4, s5, s6, s7, s8, s9, s10, s11, s12, s13⟩
            go_simp
            with_reducible rfl
           rotate_left
           ·simp only [Act.put, List.setIfInBounds_toArray, List.set_cons_zero, List.set_cons_succ, i64_w, i32_w]
            rfl
           refine pure_ (i := 3) (N := some 53) (v := ?_) (a' := ?_) #[true, true, true, true, false, true, false, true, false, false, false] rfl rfl (any_of HT_.out (by kernel_rfl)) (fun _ _ _ h => h) (Or.inl ⟨by rfl, ?_⟩) ?_ ?_
           rotate_left
           ·intro w'
            go_simp
            with_reducible rfl
           rotate_left
           ·simp only [Act.put, List.setIfInBounds_toArray, List.set_cons_zero, List.set_cons_succ, i64_w, i32_w]
            rfl
           refine take_ (i := 4) (N := some 54) (v := ?_) (a' := ?_) #[true, true, true, true, true, true, false, true, false, false, false] rfl rfl (take_ofW HT_.out HW_.out (by kernel_rfl)) (fun _ _ _ h => h) (Or.inl ⟨by rfl, ?_⟩) hHeld ?_ ?_
           rotate_left
           ·rintro w' ⟨s0, s1, s2, s3, s4, s5, s6, s7, s8, s9, s10, s11, s12, s13⟩
            go_simp
            with_reducible rfl
           rotate_left
           ·simp only [Act.put, List.setIfInBounds_toArray, List.set_cons_zero, List.set_cons_succ, i64_w, i32_w]
            rfl
           refine take_ (i := 6) (N := some 56) (v := ?_) (a' := ?_) #[true, true, true, true, true, true, true, true, false, false, false] rfl rfl (take_ofW HT_.out HW_.out (by kernel_rfl)) (fun _ _ _ h => h) (Or.inl ⟨by rfl, ?_⟩) hHeld ?_ ?_
           rotate_left
           ·rintro w' ⟨s0, s1, s2, s3, s4, s5, s6, s7, s8, s9, s10, s11, s12, s13⟩
            go_simp
            with_reducible rfl
           rotate_left
           ·simp only [Act.put, List.setIfInBounds_toArray, List.set_cons_zero, List.set_cons_succ, i64_w, i32_w]
            rfl
           refine pure_ (i := 8) (N := some 58) (v := ?_) (a' := ?_) #[true, true, true, true, true, true, true, true, true, false, false] rfl rfl (any_of HT_.out (by kernel_rfl)) (fun _ _ _ h => h) (Or.inl ⟨by rfl, ?_⟩) ?_ ?_
           rotate_left
           ·intro w'
            go_simp
            with_reducible rfl
           rotate_left
           ·simp only [Act.put, List.setIfInBounds_toArray, List.set_cons_zero, List.set_cons_succ, i64_w, i32_w]
            rfl
           refine take_ (i := 9) (N := some 59) (v := ?_) (a' := ?_) #[true, true, true, true, true, true, true, true, true, true, false] rfl rfl (take_ofW HT_.out HW_.out (by kernel_rfl)) (fun _ _ _ h => h) (Or.inl ⟨by rfl, ?_⟩) hHeld ?_ ?_
           rotate_left
           ·rintro w' ⟨s0, s1, s2, s3, s4, s5, s6, s7, s8, s9, s10, s11, s12, s13⟩
            go_simp
            with_reducible rfl
           rotate_left
           ·simp only [Act.put, List.setIfInBounds_toArray, List.set_cons_zero, List.set_cons_succ, i64_w, i32_w]
            rfl
           refine pure_ (i := 10) (N := some 60) (v := ?_) (a' := ?_) #[true, true, true, true, true, true, true, true, true, true, true] rfl rfl (any_of HT_.out (by kernel_rfl)) (fun _ _ _ h => h) (Or.inl ⟨by rfl, ?_⟩) ?_ ?_
           rotate_left
           ·intro w'
            go_simp
            with_reducible rfl
           rotate_left
           ·simp only [Act.put, List.setIfInBounds_toArray, List.set_cons_zero, List.set_cons_succ, i64_w, i32_w]
            rfl
           refine done_ (done_of HT_.out (by kernel_rfl)) ?_
           try go_wp2
           go_roundg k2
           case measure => have := HJ2.out; have := HK2.out; omega
           case rel => exact ⟨(wrap64 (x47_2 + 1)), (by first | rfl | (simp; done) | (simp [*]; done)), H', ⟨by have := HJ2.out; have := HK2.out; omega⟩, ⟨by (with_reducible repeat (first | refine blk_drewN ?_ _ | refine blk_drew ?_ | refine blk_alloc ?_ _)); exact BK151.out⟩, ⟨by (with_reducible repeat (first | refine blk_drewN ?_ _ | refine blk_drew ?_ | refine blk_alloc ?_ _)); exact BK152.out⟩, ⟨by repeat (first | (with_reducible first | exact HB.out | apply below_alloc | apply pw_below_drewN | apply below_drew1 | refine below_set ?_ GE151.out | refine below_set ?_ GE152.out) | exact HB.out)⟩⟩
         ·rw [if_neg c31] at H
          exact absurd H (by simp)
        ·rw [if_neg c30] at H
         exact absurd H (by simp)
       ·rw [if_neg c29] at H
        exact absurd H (by simp)
      ·rw [if_neg c28] at H
       have c28b0 : decide (x47_2 < (l0_3.length : Int)) = false := decide_eq_false c28
       clear c28
       have H' := Aside0.mk H
       clear H
       have hnb35 := NB151_152.out
       have hnc35 := NB152_151.out
       have hcz36_0 : wr.cell? ⟨gb151, 0, none⟩ = some (.int .i64 a0_0) := (blk_cell BK151.out 0).trans rfl
       have hcz36_1 : wr.cell? ⟨gb151, 1, none⟩ = some (.string a0_1) := (blk_cell BK151.out 1).trans rfl
       have hcz36_2 : wr.cell? ⟨gb151, 2, none⟩ = some (.string a0_2) := (blk_cell BK151.out 2).trans rfl
       have hcz36_3 : wr.cell? ⟨gb151, 3, none⟩ = some (.slice A0_3 l0_3.length c0_3) := (blk_cell BK151.out 3).trans rfl
       have hcz36_4 : wr.cell? ⟨gb151, 4, none⟩ = some (.slice A0_4 l0_4.length c0_4) := (blk_cell BK151.out 4).trans rfl
       have hfz36_0 := blk_frozen BK151.out 0
       have hfz36_1 := blk_frozen BK151.out 1
       have hfz36_2 := blk_frozen BK151.out 2
       have hfz36_3 := blk_frozen BK151.out 3
       have hfz36_4 := blk_frozen BK151.out 4
       go_wp2
       go_loopg [65] k2 (fun kq v65 w' => ∃ (x65_3 : Int), v65 = .int .i64 x65_3 ∧ Aside0 (spec_SameTree.l1 kq (l0_4.length : Int) x65_3 a0_0 a0_1 a0_2 l0_3 l0_4 a1_0 a1_1 a1_2 l1_3 l1_4 = some r) ∧ Aside0 (kq ≤ k2) ∧ Aside0 (w'.heap[gb151]? = some (.cells #[.int .i64 a0_0, .string a0_1, .string a0_2, (.slice A0_3 l0_3.length c0_3), (.slice A0_4 l0_4.length c0_4)] 25 (0, 0))) ∧ Aside0 (w'.heap[gb152]? = some (.cells #[.int .i64 a1_0, .string a1_1, .string a1_2, (.slice A1_3 l1_3.length c1_3), (.slice A1_4 l1_4.length c1_4)] 25 (0, 0))) ∧ Aside0 (Below w.heap.size w w'))
       case atStart => exact ⟨(0), (by first | rfl | (simp; done) | (simp [*]; done)), H', ⟨Nat.le_refl _⟩, ⟨by (with_reducible repeat (first | refine blk_drewN ?_ _ | refine blk_drew ?_ | refine blk_alloc ?_ _)); exact BK151.out⟩, ⟨by (with_reducible repeat (first | refine blk_drewN ?_ _ | refine blk_drew ?_ | refine blk_alloc ?_ _)); exact BK152.out⟩, ⟨by repeat (first | (with_reducible first | exact HB.out | apply below_alloc | apply pw_below_drewN | apply below_drew1 | refine below_set ?_ GE151.out | refine below_set ?_ GE152.out) | exact HB.out)⟩⟩
       case round =>
        clear H'
        try clear c1
        try clear p1
        try clear q1
        try clear hx1
        try clear c2
        try clear p2
        try clear c3
        try clear c6
        try clear c6b0
        try clear c6b1
        try clear p6
        try clear c7
        try clear c7b0
        try clear c7b1
        try clear c8
        try clear c8b0
        try clear c8b1
        try clear c9
        try clear c9b0
        try clear c9b1
        try clear c9b2
        try clear c10
        try clear c13
        try clear c14
        try clear p15
        try clear q15
        try clear hx15
        try clear c16
        try clear c19
        try clear c22
        try clear c25
        try clear c26
        try clear c28
        try clear c28b0
        try clear c29
        try clear c29b0
        try clear c30
        try clear c30b0
        try clear c31
        try clear c31b0
        try clear c32
        try clear c32b0
        try clear c35
        try clear hcz11_0
        try clear hcz11_1
        try clear hcz11_2
        try clear hcz11_3
        try clear hcz11_4
        try clear hcz12_0
        try clear hcz12_1
        try clear hcz12_2
        try clear hcz12_3
        try clear hcz12_4
        try clear hcz14_0
        try clear hcz14_1
        try clear hcz14_2
        try clear hcz14_3
        try clear hcz14_4
        try clear hcz15_0
        try clear hcz15_1
        try clear hcz15_2
        try clear hcz15_3
        try clear hcz15_4
        try clear hcz17_0
        try clear hcz17_1
        try clear hcz17_2
        try clear hcz17_3
        try clear hcz17_4
        try clear hcz18_0
        try clear hcz18_1
        try clear hcz18_2
        try clear hcz18_3
        try clear hcz18_4
        try clear hcz20_0
        try clear hcz20_1
        try clear hcz20_2
        try clear hcz20_3
        try clear hcz20_4
        try clear hcz21_0
        try clear hcz21_1
        try clear hcz21_2
        try clear hcz21_3
        try clear hcz21_4
        try clear hcz23_0
        try clear hcz23_1
        try clear hcz23_2
        try clear hcz23_3
        try clear hcz23_4
        try clear hcz24_0
        try clear hcz24_1
        try clear hcz24_2
        try clear hcz24_3
        try clear hcz24_4
        try clear hcz27_0
        try clear hcz27_1
        try clear hcz27_2
        try clear hcz27_3
        try clear hcz27_4
        try clear hcz36_0
        try clear hcz36_1
        try clear hcz36_2
        try clear hcz36_3
        try clear hcz36_4
        try clear hfz11_0
        try clear hfz11_1
        try clear hfz11_2
        try clear hfz11_3
        try clear hfz11_4
        try clear hfz12_0
        try clear hfz12_1
        try clear hfz12_2
        try clear hfz12_3
        try clear hfz12_4
        try clear hfz14_0
        try clear hfz14_1
        try clear hfz14_2
        try clear hfz14_3
        try clear hfz14_4
        try clear hfz15_0
        try clear hfz15_1
        try clear hfz15_2
        try clear hfz15_3
        try clear hfz15_4
        try clear hfz17_0
        try clear hfz17_1
        try clear hfz17_2
        try clear hfz17_3
        try clear hfz17_4
        try clear hfz18_0
        try clear hfz18_1
        try clear hfz18_2
        try clear hfz18_3
        try clear hfz18_4
        try clear hfz20_0
        try clear hfz20_1
        try clear hfz20_2
        try clear hfz20_3
        try clear hfz20_4
        try clear hfz21_0
        try clear hfz21_1
        try clear hfz21_2
        try clear hfz21_3
        try clear hfz21_4
        try clear hfz23_0
        try clear hfz23_1
        try clear hfz23_2
        try clear hfz23_3
        try clear hfz23_4
        try clear hfz24_0
        try clear hfz24_1
        try clear hfz24_2
        try clear hfz24_3
        try clear hfz24_4
        try clear hfz27_0
        try clear hfz27_1
        try clear hfz27_2
        try clear hfz27_3
        try clear hfz27_4
        try clear hfz36_0
        try clear hfz36_1
        try clear hfz36_2
        try clear hfz36_3
        try clear hfz36_4
        try clear hx153_0
        try clear hx153_1
        try clear hx154_0
        try clear hx154_1
        try clear p153
        try clear p154
        try clear p2
        try clear q153
        try clear q154
        obtain ⟨x65_3, rfl, HA, HK3, BK151, BK152, HB⟩ := hrel
        cases gk with
        | zero => exact absurd HA.out (by simp [spec_SameTree.l1])
        | succ k3 =>
         have H := HA.out
         clear HA
         simp only [spec_SameTree.l1] at H
         by_cases c37 : x65_3 < (l0_4.length : Int)
         ·rw [if_pos c37] at H
          have c37b0 : decide (x65_3 < (l0_4.length : Int)) = true := decide_eq_true c37
          clear c37
          by_cases c38 : 0 ≤ x65_3
          ·rw [if_pos c38] at H
           have c38b0 : decide (0 ≤ x65_3) = true := decide_eq_true c38
           clear c38
           by_cases c39 : x65_3 < (l0_4.length : Int)
           ·rw [if_pos c39] at H
            have c39b0 : decide (x65_3 < (l0_4.length : Int)) = true := decide_eq_true c39
            clear c39
            by_cases c40 : x65_3 < (l1_4.length : Int)
            ·rw [if_pos c40] at H
             have c40b0 : decide (x65_3 < (l1_4.length : Int)) = true := decide_eq_true c40
             clear c40
             replace H := Option.bind_eq_some_iff.mp H
             obtain ⟨t157, A410, H⟩ := H
             replace H : (if t157 = true then (spec_SameTree.l1 k3 (l0_4.length : Int) (wrap64 (x65_3 + 1)) a0_0 a0_1 a0_2 l0_3 l0_4 a1_0 a1_1 a1_2 l1_3 l1_4) else (some false)) = some r := H
             have A41 := Aside0.mk A410
             clear A410
             by_cases c42 : t157 = true
             ·subst c42
              have H1 : (spec_SameTree.l1 k3 (l0_4.length : Int) (wrap64 (x65_3 + 1)) a0_0 a0_1 a0_2 l0_3 l0_4 a1_0 a1_1 a1_2 l1_3 l1_4) = some r := by rw [if_pos rfl] at H; exact H
              clear H
              have H := H1
              clear H1
              have H' := Aside0.mk H
              clear H
              try go_wp2
              have n0_ := Aside0.mk (blk_drew BK151.out)
              have n1_ := Aside0.mk (blk_drew BK152.out)
              have n2_ := Aside0.mk (below_drew1 HB.out)
              clear BK151
              clear BK152
              clear HB
              have BK151 := n0_
              have BK152 := n1_
              have HB := n2_
              clear n0_ n1_ n2_
              have p155 : 0 ≤ (x65_3 : Int) := of_decide_eq_true (by first | (with_reducible assumption) | assumption)
              have q155 : x65_3 < (l0_4.length : Int) := of_decide_eq_true (by first | (with_reducible assumption) | assumption)
              obtain ⟨ad155, A155_3, c155_3, A155_4, c155_4, e155, hx155_0, hx155_1, hx155_2, hx155_3, hx155_4, hl155_3, hi155_3, hl155_4, hi155_4⟩ := at_T25 HR0_4.out x65_3 p155 q155
              have hw155_4 := hx155_4
              have hw155_3 := hx155_3
              have hw155_2 := hx155_2
              have hw155_1 := hx155_1
              have hw155_0 := hx155_0
              cases e155
              replace hx155_0 := (HB.out.cell (World.block_lt_of_cell? w _ hx155_0)).trans hx155_0
              replace hx155_1 := (HB.out.cell (World.block_lt_of_cell? w _ hx155_1)).trans hx155_1
              replace hx155_2 := (HB.out.cell (World.block_lt_of_cell? w _ hx155_2)).trans hx155_2
              replace hx155_3 := (HB.out.cell (World.block_lt_of_cell? w _ hx155_3)).trans hx155_3
              replace hx155_4 := (HB.out.cell (World.block_lt_of_cell? w _ hx155_4)).trans hx155_4
              have HR155_3 := Aside0.mk hi155_3
              have HC155_3 := Aside0.mk hl155_3
              clear hi155_3 hl155_3
              have HR155_4 := Aside0.mk hi155_4
              have HC155_4 := Aside0.mk hl155_4
              clear hi155_4 hl155_4
              replace p155 := eq_true p155
              replace q155 := eq_true q155
              have p156 : 0 ≤ (x65_3 : Int) := of_decide_eq_true (by first | (with_reducible assumption) | assumption)
              have q156 : x65_3 < (l1_4.length : Int) := of_decide_eq_true (by first | (with_reducible assumption) | assumption)
              obtain ⟨ad156, A156_3, c156_3, A156_4, c156_4, e156, hx156_0, hx156_1, hx156_2, hx156_3, hx156_4, hl156_3, hi156_3, hl156_4, hi156_4⟩ := at_T25 HR1_4.out x65_3 p156 q156
              have hw156_4 := hx156_4
              have hw156_3 := hx156_3
              have hw156_2 := hx156_2
              have hw156_1 := hx156_1
              have hw156_0 := hx156_0
              cases e156
              replace hx156_0 := (HB.out.cell (World.block_lt_of_cell? w _ hx156_0)).trans hx156_0
              replace hx156_1 := (HB.out.cell (World.block_lt_of_cell? w _ hx156_1)).trans hx156_1
              replace hx156_2 := (HB.out.cell (World.block_lt_of_cell? w _ hx156_2)).trans hx156_2
              replace hx156_3 := (HB.out.cell (World.block_lt_of_cell? w _ hx156_3)).trans hx156_3
              replace hx156_4 := (HB.out.cell (World.block_lt_of_cell? w _ hx156_4)).trans hx156_4
              have HR156_3 := Aside0.mk hi156_3
              have HC156_3 := Aside0.mk hl156_3
              clear hi156_3 hl156_3
              have HR156_4 := Aside0.mk hi156_4
              have HC156_4 := Aside0.mk hl156_4
              clear hi156_4 hl156_4
              replace p156 := eq_true p156
              replace q156 := eq_true q156
              refine start_ (n := 12) (S := fun w' => w'.cell? ⟨gb151, 0, none⟩ = some (.int .i64 a0_0) ∧ w'.cell? ⟨gb151, 1, none⟩ = some (.string a0_1) ∧ w'.cell? ⟨gb151, 2, none⟩ = some (.string a0_2) ∧ w'.cell? ⟨gb151, 3, none⟩ = some (.slice A0_3 l0_3.length c0_3) ∧ w'.cell? ⟨gb151, 4, none⟩ = some (.slice (some ad155) l0_4.length c0_4) ∧ w'.cell? ⟨gb152, 0, none⟩ = some (.int .i64 a1_0) ∧ w'.cell? ⟨gb152, 1, none⟩ = some (.string a1_1) ∧ w'.cell? ⟨gb152, 2, none⟩ = some (.string a1_2) ∧ w'.cell? ⟨gb152, 3, none⟩ = some (.slice A1_3 l1_3.length c1_3) ∧ w'.cell? ⟨gb152, 4, none⟩ = some (.slice (some ad156) l1_4.length c1_4) ∧ w'.cell? (ad155.add ((x65_3).toNat * 5)) = some (.int .i64 ((rd_T25 l0_4 x65_3).f0)) ∧ w'.cell? ⟨(ad155.add ((x65_3).toNat * 5)).block, (ad155.add ((x65_3).toNat * 5)).off + 1, none⟩ = some (.string ((rd_T25 l0_4 x65_3).f1)) ∧ w'.cell? ⟨(ad155.add ((x65_3).toNat * 5)).block, (ad155.add ((x65_3).toNat * 5)).off + 2, none⟩ = some (.string ((rd_T25 l0_4 x65_3).f2)) ∧ w'.cell? ⟨(ad155.add ((x65_3).toNat * 5)).block, (ad155.add ((x65_3).toNat * 5)).off + 3, none⟩ = some (.slice A155_3 ((rd_T25 l0_4 x65_3).f3).length c155_3) ∧ w'.cell? ⟨(ad155.add ((x65_3).toNat * 5)).block, (ad155.add ((x65_3).toNat * 5)).off + 4, none⟩ = some (.slice A155_4 ((rd_T25 l0_4 x65_3).f4).length c155_4) ∧ w'.cell? (ad156.add ((x65_3).toNat * 5)) = some (.int .i64 ((rd_T25 l1_4 x65_3).f0)) ∧ w'.cell? ⟨(ad156.add ((x65_3).toNat * 5)).block, (ad156.add ((x65_3).toNat * 5)).off + 1, none⟩ = some (.string ((rd_T25 l1_4 x65_3).f1)) ∧ w'.cell? ⟨(ad156.add ((x65_3).toNat * 5)).block, (ad156.add ((x65_3).toNat * 5)).off + 2, none⟩ = some (.string ((rd_T25 l1_4 x65_3).f2)) ∧ w'.cell? ⟨(ad156.add ((x65_3).toNat * 5)).block, (ad156.add ((x65_3).toNat * 5)).off + 3, none⟩ = some (.slice A156_3 ((rd_T25 l1_4 x65_3).f3).length c156_3) ∧ w'.cell? ⟨(ad156.add ((x65_3).toNat * 5)).block, (ad156.add ((x65_3).toNat * 5)).off + 4, none⟩ = some (.slice A156_4 ((rd_T25 l1_4 x65_3).f4).length c156_4)) (ds := []) #[false, false, false, false, false, false, false, false, false, false, false, false] (by kernel_rfl) rfl rfl ⟨(blk_cell BK151.out 0).trans rfl, (blk_cell BK151.out 1).trans rfl, (blk_cell BK151.out 2).trans rfl, (blk_cell BK151.out 3).trans rfl, (blk_cell BK151.out 4).trans rfl, (blk_cell BK152.out 0).trans rfl, (blk_cell BK152.out 1).trans rfl, (blk_cell BK152.out 2).trans rfl, (blk_cell BK152.out 3).trans rfl, (blk_cell BK152.out 4).trans rfl, ((HB.out.cell (World.block_lt_of_cell? w _ hw155_0)).trans hw155_0), ((HB.out.cell (World.block_lt_of_cell? w _ hw155_1)).trans hw155_1), ((HB.out.cell (World.block_lt_of_cell? w _ hw155_2)).trans hw155_2), ((HB.out.cell (World.block_lt_of_cell? w _ hw155_3)).trans hw155_3), ((HB.out.cell (World.block_lt_of_cell? w _ hw155_4)).trans hw155_4), ((HB.out.cell (World.block_lt_of_cell? w _ hw156_0)).trans hw156_0), ((HB.out.cell (World.block_lt_of_cell? w _ hw156_1)).trans hw156_1), ((HB.out.cell (World.block_lt_of_cell? w _ hw156_2)).trans hw156_2), ((HB.out.cell (World.block_lt_of_cell? w _ hw156_3)).trans hw156_3), ((HB.out.cell (World.block_lt_of_cell? w _ hw156_4)).trans hw156_4)⟩ (fun hHeld => ?_); refine with_tabW spec_SameTree.tab12 spec_SameTree.bits12 (fun HT_ HW_ => ?_)
              generalize wr.drew = w43 at BK151 BK152 HB HR155_3 HR155_4 HR156_3 HR156_4 hx155_0 hx155_1 hx155_2 hx155_3 hx155_4 hx156_0 hx156_1 hx156_2 hx156_3 hx156_4 hHeld ⊢
              refine pure_ (i := 0) (N := some 68) (v := ?_) (a' := ?_) #[true, false, false, false, false, false, false, false, false, false, false, false] rfl rfl (any_of HT_.out (by kernel_rfl)) (fun _ _ _ h => h) (Or.inl ⟨by rfl, ?_⟩) ?_ ?_
              rotate_left
              ·intro w'
               go_simp
               with_reducible rfl
              rotate_left
              ·simp only [Act.put, List.setIfInBounds_toArray, List.set_cons_zero, List.set_cons_succ, i64_w, i32_w]
               rfl
              refine pure_ (i := 2) (N := some 70) (v := ?_) (a' := ?_) #[true, false, true, false, false, false, false, false, false, false, false, false] rfl rfl (any_of HT_.out (by kernel_rfl)) (fun _ _ _ h => h) (Or.inl ⟨by rfl, ?_⟩) ?_ ?_
              rotate_left
              ·intro w'
               go_simp
               with_reducible rfl
              rotate_left
              ·simp only [Act.put, List.setIfInBounds_toArray, List.set_cons_zero, List.set_cons_succ, i64_w, i32_w]
               rfl
              refine pure_ (i := 5) (N := some 73) (v := ?_) (a' := ?_) #[true, false, true, false, false, true, false, false, false, false, false, false] rfl rfl (any_of HT_.out (by kernel_rfl)) (fun _ _ _ h => h) (Or.inl ⟨by rfl, ?_⟩) ?_ ?_
              rotate_left
              ·intro w'
               go_simp
               with_reducible rfl
              rotate_left
              ·simp only [Act.put, List.setIfInBounds_toArray, List.set_cons_zero, List.set_cons_succ, i64_w, i32_w]
               rfl
              refine pure_ (i := 7) (N := some 75) (v := ?_) (a' := ?_) #[true, false, true, false, false, true, false, true, false, false, false, false] rfl rfl (any_of HT_.out (by kernel_rfl)) (fun _ _ _ h => h) (Or.inl ⟨by rfl, ?_⟩) ?_ ?_
              rotate_left
              ·intro w'
               go_simp
               with_reducible rfl
              rotate_left
              ·simp only [Act.put, List.setIfInBounds_toArray, List.set_cons_zero, List.set_cons_succ, i64_w, i32_w]
               rfl
              refine take_ (i := 1) (N := some 69) (v := ?_) (a' := ?_) #[true, true, true, false, false, true, false, true, false, false, false, false] rfl rfl (take_ofW HT_.out HW_.out (by kernel_rfl)) (fun _ _ _ h => h) (Or.inl ⟨by rfl, ?_⟩) hHeld ?_ ?_
              rotate_left
              ·rintro w' ⟨s0, s1, s2, s3, s4, s5, s6, s7, s8, s9, s10, s11, s12, s13, s14, s15, s16, s17, s18, s19⟩
               go_simp
               with_reducible rfl
              rotate_left
              ·simp only [Act.put, List.setIfInBounds_toArray, List.set_cons_zero, List.set_cons_succ, i64_w, i32_w]
               rfl
              refine pure_ (i := 3) (N := some 71) (v := ?_) (a' := ?_) #[true, true, true, true, false, true, false, true, false, false, false, false] rfl rfl (any_of HT_.out (by kernel_rfl)) (fun _ _ _ h => h) (Or.inl ⟨by rfl, ?_⟩) ?_ ?_
              rotate_left
              ·intro w'
               go_simp
               with_reducible rfl
              rotate_left
              ·simp only [Act.put, List.setIfInBounds_toArray, List.set_cons_zero, List.set_cons_succ, i64_w, i32_w]
               rfl
              refine take_ (i := 4) (N := some 72) (v := ?_) (a' := ?_) #[true, true, true, true, true, true, false, true, false, false, false, false] rfl rfl (take_ofW HT_.out HW_.out (by kernel_rfl)) (fun _ _ _ h => h) (Or.inl ⟨by rfl, ?_⟩) hHeld ?_ ?_
              rotate_left
              ·rintro w' ⟨s0, s1, s2, s3, s4, s5, s6, s7, s8, s9, s10, s11, s12, s13, s14, s15, s16, s17, s18, s19⟩
               go_simp
               with_reducible rfl
              rotate_left
              ·simp only [Act.put, List.setIfInBounds_toArray, List.set_cons_zero, List.set_cons_succ, i64_w, i32_w]
               rfl
              refine take_ (i := 6) (N := some 74) (v := ?_) (a' := ?_) #[true, true, true, true, true, true, true, true, false, false, false, false] rfl rfl (take_ofW HT_.out HW_.out (by kernel_rfl)) (fun _ _ _ h => h) (Or.inl ⟨by rfl, ?_⟩) hHeld ?_ ?_
              rotate_left
              ·rintro w' ⟨s0, s1, s2, s3, s4, s5, s6, s7, s8, s9, s10, s11, s12, s13, s14, s15, s16, s17, s18, s19⟩
               go_simp
               with_reducible rfl
              rotate_left
              ·simp only [Act.put, List.setIfInBounds_toArray, List.set_cons_zero, List.set_cons_succ, i64_w, i32_w]
               rfl
              refine pure_ (i := 8) (N := some 76) (v := ?_) (a' := ?_) #[true, true, true, true, true, true, true, true, true, false, false, false] rfl rfl (any_of HT_.out (by kernel_rfl)) (fun _ _ _ h => h) (Or.inl ⟨by rfl, ?_⟩) ?_ ?_
              rotate_left
              ·intro w'
               go_simp
               with_reducible rfl
              rotate_left
              ·simp only [Act.put, List.setIfInBounds_toArray, List.set_cons_zero, List.set_cons_succ, i64_w, i32_w]
               rfl
              refine take_ (i := 9) (N := some 77) (v := ?_) (a' := ?_) #[true, true, true, true, true, true, true, true, true, true, false, false] rfl rfl (take_ofW HT_.out HW_.out (by kernel_rfl)) (fun _ _ _ h => h) (Or.inl ⟨by rfl, ?_⟩) hHeld ?_ ?_
              rotate_left
              ·rintro w' ⟨s0, s1, s2, s3, s4, s5, s6, s7, s8, s9, s10, s11, s12, s13, s14, s15, s16, s17, s18, s19⟩
               go_simp
               with_reducible rfl
              rotate_left
              ·simp only [Act.put, List.setIfInBounds_toArray, List.set_cons_zero, List.set_cons_succ, i64_w, i32_w]
               rfl
              refine one_ (i := 10) (N := some 78) #[true, true, true, true, true, true, true, true, true, true, true, false] rfl rfl (one_of HT_.out (by kernel_rfl)) (by decide) (fun K hK => ?_)
              refine goes_ Try.func14 (by kernel_rfl) rfl #[.agg #[.int .i64 ((rd_T25 l0_4 x65_3).f0), .string ((rd_T25 l0_4 x65_3).f1), .string ((rd_T25 l0_4 x65_3).f2), .slice A155_3 ((rd_T25 l0_4 x65_3).f3).length c155_3, .slice A155_4 ((rd_T25 l0_4 x65_3).f4).length c155_4], .agg #[.int .i64 ((rd_T25 l1_4 x65_3).f0), .string ((rd_T25 l1_4 x65_3).f1), .string ((rd_T25 l1_4 x65_3).f2), .slice A156_3 ((rd_T25 l1_4 x65_3).f3).length c156_3, .slice A156_4 ((rd_T25 l1_4 x65_3).f4).length c156_4]] (by rfl) rfl rfl (by (try simp only [List.map_toArray, List.map_cons, List.map_nil]); first | done | rfl | (simp only [List.length_drop, List.length_take]; rfl)) ?_
              with_reducible refine (ih k3 (by have := HJ2.out; have := HK2.out; have := HK3.out; omega) ((rd_T25 l0_4 x65_3).f0) ((rd_T25 l0_4 x65_3).f1) ((rd_T25 l0_4 x65_3).f2) _ _ ((rd_T25 l0_4 x65_3).f3) _ _ ((rd_T25 l0_4 x65_3).f4) ((rd_T25 l1_4 x65_3).f0) ((rd_T25 l1_4 x65_3).f1) ((rd_T25 l1_4 x65_3).f2) _ _ ((rd_T25 l1_4 x65_3).f3) _ _ ((rd_T25 l1_4 x65_3).f4) true _ ?side1 ?side2 ?side3 ?side4 ?side5 ?side6 ?side7 ?side8 A41.out).mono ?_
              (case side1 => repeat (first | exact (Kd.C_below HR155_3.out HB.out) | (with_reducible refine Kd.C_alloc ?_ _) | (with_reducible refine Kd.C_drewN ?_ _) | (with_reducible refine Kd.C_drew ?_)))
              (case side2 => exact HC155_3.out)
              (case side3 => repeat (first | exact (Kd.C_below HR155_4.out HB.out) | (with_reducible refine Kd.C_alloc ?_ _) | (with_reducible refine Kd.C_drewN ?_ _) | (with_reducible refine Kd.C_drew ?_)))
              (case side4 => exact HC155_4.out)
              (case side5 => repeat (first | exact (Kd.C_below HR156_3.out HB.out) | (with_reducible refine Kd.C_alloc ?_ _) | (with_reducible refine Kd.C_drewN ?_ _) | (with_reducible refine Kd.C_drew ?_)))
              (case side6 => exact HC156_3.out)
              (case side7 => repeat (first | exact (Kd.C_below HR156_4.out HB.out) | (with_reducible refine Kd.C_alloc ?_ _) | (with_reducible refine Kd.C_drewN ?_ _) | (with_reducible refine Kd.C_drew ?_)))
              (case side8 => exact HC156_4.out)
              rintro e w44 ⟨rfl, hb⟩
              refine ⟨_, rfl, ?_⟩
              have n0_ := Aside0.mk (blk_below (g := gb151) (o := .cells #[.int .i64 a0_0, .string a0_1, .string a0_2, .slice A0_3 l0_3.length c0_3, .slice (some ad155) l0_4.length c0_4] 25 (0, 0)) (by (with_reducible repeat (first | refine blk_drewN ?_ _ | refine blk_drew ?_ | refine blk_alloc ?_ _)); exact BK151.out) hb)
              have n1_ := Aside0.mk (blk_below (g := gb152) (o := .cells #[.int .i64 a1_0, .string a1_1, .string a1_2, .slice A1_3 l1_3.length c1_3, .slice (some ad156) l1_4.length c1_4] 25 (0, 0)) (by (with_reducible repeat (first | refine blk_drewN ?_ _ | refine blk_drew ?_ | refine blk_alloc ?_ _)); exact BK152.out) hb)
              have n2_ := Aside0.mk (below_step (by repeat (first | (with_reducible first | exact HB.out | apply below_alloc | apply pw_below_drewN | apply below_drew1 | refine below_set ?_ GE151.out | refine below_set ?_ GE152.out) | exact HB.out)) hb)
              clear BK151
              clear BK152
              clear HB
              have BK151 := n0_
              have BK152 := n1_
              have HB := n2_
              clear n0_ n1_ n2_
              (try clear hb)
              (try clear hb2)
              (try clear hk)
              (try clear hi)
              refine hK.out _ _ ⟨(blk_cell BK151.out 0).trans rfl, (blk_cell BK151.out 1).trans rfl, (blk_cell BK151.out 2).trans rfl, (blk_cell BK151.out 3).trans rfl, (blk_cell BK151.out 4).trans rfl, (blk_cell BK152.out 0).trans rfl, (blk_cell BK152.out 1).trans rfl, (blk_cell BK152.out 2).trans rfl, (blk_cell BK152.out 3).trans rfl, (blk_cell BK152.out 4).trans rfl, ((HB.out.cell (World.block_lt_of_cell? w _ hw155_0)).trans hw155_0), ((HB.out.cell (World.block_lt_of_cell? w _ hw155_1)).trans hw155_1), ((HB.out.cell (World.block_lt_of_cell? w _ hw155_2)).trans hw155_2), ((HB.out.cell (World.block_lt_of_cell? w _ hw155_3)).trans hw155_3), ((HB.out.cell (World.block_lt_of_cell? w _ hw155_4)).trans hw155_4), ((HB.out.cell (World.block_lt_of_cell? w _ hw156_0)).trans hw156_0), ((HB.out.cell (World.block_lt_of_cell? w _ hw156_1)).trans hw156_1), ((HB.out.cell (World.block_lt_of_cell? w _ hw156_2)).trans hw156_2), ((HB.out.cell (World.block_lt_of_cell? w _ hw156_3)).trans hw156_3), ((HB.out.cell (World.block_lt_of_cell? w _ hw156_4)).trans hw156_4)⟩ (fun hHeld => ?_)
              clear hK K
              refine norm_ (a' := ?_) ?_ ?_
              rotate_left
              ·show Act.put _ (some 78) _ = _
               simp only [Act.put, List.setIfInBounds_toArray, List.set_cons_zero, List.set_cons_succ, i64_w, i32_w]
               rfl
              refine pure_ (i := 11) (N := some 79) (v := ?_) (a' := ?_) #[true, true, true, true, true, true, true, true, true, true, true, true] rfl rfl (any_of HT_.out (by kernel_rfl)) (fun _ _ _ h => h) (Or.inl ⟨by rfl, ?_⟩) ?_ ?_
              rotate_left
              ·intro w'
               go_simp
               with_reducible rfl
              rotate_left
              ·simp only [Act.put, List.setIfInBounds_toArray, List.set_cons_zero, List.set_cons_succ, i64_w, i32_w]
               rfl
              refine done_ (done_of HT_.out (by kernel_rfl)) ?_
              try go_wp2
              go_roundg k3
              case measure => have := HJ2.out; have := HK2.out; have := HK3.out; omega
              case rel => exact ⟨(wrap64 (x65_3 + 1)), (by first | rfl | (simp; done) | (simp [*]; done)), H', ⟨by have := HJ2.out; have := HK2.out; have := HK3.out; omega⟩, ⟨by (with_reducible repeat (first | refine blk_drewN ?_ _ | refine blk_drew ?_ | refine blk_alloc ?_ _)); exact BK151.out⟩, ⟨by (with_reducible repeat (first | refine blk_drewN ?_ _ | refine blk_drew ?_ | refine blk_alloc ?_ _)); exact BK152.out⟩, ⟨by repeat (first | (with_reducible first | exact HB.out | apply below_alloc | apply pw_below_drewN | apply below_drew1 | refine below_set ?_ GE151.out | refine below_set ?_ GE152.out) | exact HB.out)⟩⟩
             ·replace c42 := Bool.eq_false_iff.mpr c42
              subst c42
              have H1 : (some false) = some r := by rw [if_neg (show ¬ (false = true) by decide)] at H; exact H
              clear H
              have H := H1
              clear H1
              obtain rfl := Option.some.inj H
              try go_wp2
              have n0_ := Aside0.mk (blk_drew BK151.out)
              have n1_ := Aside0.mk (blk_drew BK152.out)
              have n2_ := Aside0.mk (below_drew1 HB.out)
              clear BK151
              clear BK152
              clear HB
              have BK151 := n0_
              have BK152 := n1_
              have HB := n2_
              clear n0_ n1_ n2_
              have p155 : 0 ≤ (x65_3 : Int) := of_decide_eq_true (by first | (with_reducible assumption) | assumption)
              have q155 : x65_3 < (l0_4.length : Int) := of_decide_eq_true (by first | (with_reducible assumption) | assumption)
              obtain ⟨ad155, A155_3, c155_3, A155_4, c155_4, e155, hx155_0, hx155_1, hx155_2, hx155_3, hx155_4, hl155_3, hi155_3, hl155_4, hi155_4⟩ := at_T25 HR0_4.out x65_3 p155 q155
              have hw155_4 := hx155_4
              have hw155_3 := hx155_3
              have hw155_2 := hx155_2
              have hw155_1 := hx155_1
              have hw155_0 := hx155_0
              cases e155
              replace hx155_0 := (HB.out.cell (World.block_lt_of_cell? w _ hx155_0)).trans hx155_0
              replace hx155_1 := (HB.out.cell (World.block_lt_of_cell? w _ hx155_1)).trans hx155_1
              replace hx155_2 := (HB.out.cell (World.block_lt_of_cell? w _ hx155_2)).trans hx155_2
              replace hx155_3 := (HB.out.cell (World.block_lt_of_cell? w _ hx155_3)).trans hx155_3
              replace hx155_4 := (HB.out.cell (World.block_lt_of_cell? w _ hx155_4)).trans hx155_4
              have HR155_3 := Aside0.mk hi155_3
              have HC155_3 := Aside0.mk hl155_3
              clear hi155_3 hl155_3
              have HR155_4 := Aside0.mk hi155_4
              have HC155_4 := Aside0.mk hl155_4
              clear hi155_4 hl155_4
              replace p155 := eq_true p155
              replace q155 := eq_true q155
              have p156 : 0 ≤ (x65_3 : Int) := of_decide_eq_true (by first | (with_reducible assumption) | assumption)
              have q156 : x65_3 < (l1_4.length : Int) := of_decide_eq_true (by first | (with_reducible assumption) | assumption)
              obtain ⟨ad156, A156_3, c156_3, A156_4, c156_4, e156, hx156_0, hx156_1, hx156_2, hx156_3, hx156_4, hl156_3, hi156_3, hl156_4, hi156_4⟩ := at_T25 HR1_4.out x65_3 p156 q156
              have hw156_4 := hx156_4
              have hw156_3 := hx156_3
              have hw156_2 := hx156_2
              have hw156_1 := hx156_1
              have hw156_0 := hx156_0
              cases e156
              replace hx156_0 := (HB.out.cell (World.block_lt_of_cell? w _ hx156_0)).trans hx156_0
              replace hx156_1 := (HB.out.cell (World.block_lt_of_cell? w _ hx156_1)).trans hx156_1
              replace hx156_2 := (HB.out.cell (World.block_lt_of_cell? w _ hx156_2)).trans hx156_2
              replace hx156_3 := (HB.out.cell (World.block_lt_of_cell? w _ hx156_3)).trans hx156_3
              replace hx156_4 := (HB.out.cell (World.block_lt_of_cell? w _ hx156_4)).trans hx156_4
              have HR156_3 := Aside0.mk hi156_3
              have HC156_3 := Aside0.mk hl156_3
              clear hi156_3 hl156_3
              have HR156_4 := Aside0.mk hi156_4
              have HC156_4 := Aside0.mk hl156_4
              clear hi156_4 hl156_4
              replace p156 := eq_true p156
              replace q156 := eq_true q156
              refine start_ (n := 12) (S := fun w' => w'.cell? ⟨gb151, 0, none⟩ = some (.int .i64 a0_0) ∧ w'.cell? ⟨gb151, 1, none⟩ = some (.string a0_1) ∧ w'.cell? ⟨gb151, 2, none⟩ = some (.string a0_2) ∧ w'.cell? ⟨gb151, 3, none⟩ = some (.slice A0_3 l0_3.length c0_3) ∧ w'.cell? ⟨gb151, 4, none⟩ = some (.slice (some ad155) l0_4.length c0_4) ∧ w'.cell? ⟨gb152, 0, none⟩ = some (.int .i64 a1_0) ∧ w'.cell? ⟨gb152, 1, none⟩ = some (.string a1_1) ∧ w'.cell? ⟨gb152, 2, none⟩ = some (.string a1_2) ∧ w'.cell? ⟨gb152, 3, none⟩ = some (.slice A1_3 l1_3.length c1_3) ∧ w'.cell? ⟨gb152, 4, none⟩ = some (.slice (some ad156) l1_4.length c1_4) ∧ w'.cell? (ad155.add ((x65_3).toNat * 5)) = some (.int .i64 ((rd_T25 l0_4 x65_3).f0)) ∧ w'.cell? ⟨(ad155.add ((x65_3).toNat * 5)).block, (ad155.add ((x65_3).toNat * 5)).off + 1, none⟩ = some (.string ((rd_T25 l0_4 x65_3).f1)) ∧ w'.cell? ⟨(ad155.add ((x65_3).toNat * 5)).block, (ad155.add ((x65_3).toNat * 5)).off + 2, none⟩ = some (.string ((rd_T25 l0_4 x65_3).f2)) ∧ w'.cell? ⟨(ad155.add ((x65_3).toNat * 5)).block, (ad155.add ((x65_3).toNat * 5)).off + 3, none⟩ = some (.slice A155_3 ((rd_T25 l0_4 x65_3).f3).length c155_3) ∧ w'.cell? ⟨(ad155.add ((x65_3).toNat * 5)).block, (ad155.add ((x65_3).toNat * 5)).off + 4, none⟩ = some (.slice A155_4 ((rd_T25 l0_4 x65_3).f4).length c155_4) ∧ w'.cell? (ad156.add ((x65_3).toNat * 5)) = some (.int .i64 ((rd_T25 l1_4 x65_3).f0)) ∧ w'.cell? ⟨(ad156.add ((x65_3).toNat * 5)).block, (ad156.add ((x65_3).toNat * 5)).off + 1, none⟩ = some (.string ((rd_T25 l1_4 x65_3).f1)) ∧ w'.cell? ⟨(ad156.add ((x65_3).toNat * 5)).block, (ad156.add ((x65_3).toNat * 5)).off + 2, none⟩ = some (.string ((rd_T25 l1_4 x65_3).f2)) ∧ w'.cell? ⟨(ad156.add ((x65_3).toNat * 5)).block, (ad156.add ((x65_3).toNat * 5)).off + 3, none⟩ = some (.slice A156_3 ((rd_T25 l1_4 x65_3).f3).length c156_3) ∧ w'.cell? ⟨(ad156.add ((x65_3).toNat * 5)).block, (ad156.add ((x65_3).toNat * 5)).off + 4, none⟩ = some (.slice A156_4 ((rd_T25 l1_4 x65_3).f4).length c156_4)) (ds := []) #[false, false, false, false, false, false, false, false, false, false, false, false] (by kernel_rfl) rfl rfl ⟨(blk_cell BK151.out 0).trans rfl, (blk_cell BK151.out 1).trans rfl, (blk_cell BK151.out 2).trans rfl, (blk_cell BK151.out 3).trans rfl, (blk_cell BK151.out 4).trans rfl, (blk_cell BK152.out 0).trans rfl, (blk_cell BK152.out 1).trans rfl, (blk_cell BK152.out 2).trans rfl, (blk_cell BK152.out 3).trans rfl, (blk_cell BK152.out 4).trans rfl, ((HB.out.cell (World.block_lt_of_cell? w _ hw155_0)).trans hw155_0), ((HB.out.cell (World.block_lt_of_cell? w _ hw155_1)).trans hw155_1), ((HB.out.cell (World.block_lt_of_cell? w _ hw155_2)).trans hw155_2), ((HB.out.cell (World.block_lt_of_cell? w _ hw155_3)).trans hw155_3), ((HB.out.cell (World.block_lt_of_cell? w _ hw155_4)).trans hw155_4), ((HB.out.cell (World.block_lt_of_cell? w _ hw156_0)).trans hw156_0), ((HB.out.cell (World.block_lt_of_cell? w _ hw156_1)).trans hw156_1), ((HB.out.cell (World.block_lt_of_cell? w _ hw156_2)).trans hw156_2), ((HB.out.cell (World.block_lt_of_cell? w _ hw156_3)).trans hw156_3), ((HB.out.cell (World.block_lt_of_cell? w _ hw156_4)).trans hw156_4)⟩ (fun hHeld => ?_); refine with_tabW spec_SameTree.tab12 spec_SameTree.bits12 (fun HT_ HW_ => ?_)
              generalize wr.drew = w45 at BK151 BK152 HB HR155_3 HR155_4 HR156_3 HR156_4 hx155_0 hx155_1 hx155_2 hx155_3 hx155_4 hx156_0 hx156_1 hx156_2 hx156_3 hx156_4 hHeld ⊢
              refine pure_ (i := 0) (N := some 68) (v := ?_) (a' := ?_) #[true, false, false, false, false, false, false, false, false, false, false, false] rfl rfl (any_of HT_.out (by kernel_rfl)) (fun _ _ _ h => h) (Or.inl ⟨by rfl, ?_⟩) ?_ ?_
              rotate_left
              ·intro w'
               go_simp
               with_reducible rfl
              rotate_left
              ·simp only [Act.put, List.setIfInBounds_toArray, List.set_cons_zero, List.set_cons_succ, i64_w, i32_w]
               rfl
              refine pure_ (i := 2) (N := some 70) (v := ?_) (a' := ?_) #[true, false, true, false, false, false, false, false, false, false, false, false] rfl rfl (any_of HT_.out (by kernel_rfl)) (fun _ _ _ h => h) (Or.inl ⟨by rfl, ?_⟩) ?_ ?_
              rotate_left
              ·intro w'
               go_simp
               with_reducible rfl
              rotate_left
              ·simp only [Act.put, List.setIfInBounds_toArray, List.set_cons_zero, List.set_cons_succ, i64_w, i32_w]
               rfl
              refine pure_ (i := 5) (N := some 73) (v := ?_) (a' := ?_) #[true, false, true, false, false, true, false, false, false, false, false, false] rfl rfl (any_of HT_.out (by kernel_rfl)) (fun _ _ _ h => h) (Or.inl ⟨by rfl, ?_⟩) ?_ ?_
              rotate_left
              ·intro w'
               go_simp
               with_reducible rfl
              rotate_left
              ·simp only [Act.put, List.setIfInBounds_toArray, List.set_cons_zero, List.set_cons_succ, i64_w, i32_w]
               rfl
              refine pure_ (i := 7) (N := some 75) (v := ?_) (a' := ?_) #[true, false, true, false, false, true, false, true, false, false, false, false] rfl rfl (any_of HT_.out (by kernel_rfl)) (fun _ _ _ h => h) (Or.inl ⟨by rfl, ?_⟩) ?_ ?_
              rotate_left
              ·intro w'
               go_simp
               with_reducible rfl
              rotate_left
              ·simp only [Act.put, List.setIfInBounds_toArray, List.set_cons_zero, List.set_cons_succ, i64_w, i32_w]
               rfl
              refine take_ (i := 1) (N := some 69) (v := ?_) (a' := ?_) #[true, true, true, false, false, true, false, true, false, false, false, false] rfl rfl (take_ofW HT_.out HW_.out (by kernel_rfl)) (fun _ _ _ h => h) (Or.inl ⟨by rfl, ?_⟩) hHeld ?_ ?_
              rotate_left
              ·rintro w' ⟨s0, s1, s2, s3, s4, s5, s6, s7, s8, s9, s10, s11, s12, s13, s14, s15, s16, s17, s18, s19⟩
               go_simp
               with_reducible rfl
              rotate_left
              ·simp only [Act.put, List.setIfInBounds_toArray, List.set_cons_zero, List.set_cons_succ, i64_w, i32_w]
               rfl
              refine pure_ (i := 3) (N := some 71) (v := ?_) (a' := ?_) #[true, true, true, true, false, true, false, true, false, false, false, false] rfl rfl (any_of HT_.out (by kernel_rfl)) (fun _ _ _ h => h) (Or.inl ⟨by rfl, ?_⟩) ?_ ?_
              rotate_left
              ·intro w'
               go_simp
               with_reducible rfl
              rotate_left
              ·simp only [Act.put, List.setIfInBounds_toArray, List.set_cons_zero, List.set_cons_succ, i64_w, i32_w]
               rfl
              refine take_ (i := 4) (N := some 72) (v := ?_) (a' := ?_) #[true, true, true, true, true, true, false, true, false, false, false, false] rfl rfl (take_ofW HT_.out HW_.out (by kernel_rfl)) (fun _ _ _ h => h) (Or.inl ⟨by rfl, ?_⟩) hHeld ?_ ?_
              rotate_left
              ·rintro w' ⟨s0, s1, s2, s3, s4, s5, s6, s7, s8, s9, s10, s11, s12, s13, s14, s15, s16, s17, s18, s19⟩
               go_simp
               with_reducible rfl
              rotate_left
              ·simp only [Act.put, List.setIfInBounds_toArray, List.set_cons_zero, List.set_cons_succ, i64_w, i32_w]
               rfl
              refine take_ (i := 6) (N := some 74) (v := ?_) (a' := ?_) #[true, true, true, true, true, true, true, true, false, false, false, false] rfl rfl (take_ofW HT_.out HW_.out (by kernel_rfl)) (fun _ _ _ h => h) (Or.inl ⟨by rfl, ?_⟩) hHeld ?_ ?_
              rotate_left
              ·rintro w' ⟨s0, s1, s2, s3, s4, s5, s6, s7, s8, s9, s10, s11, s12, s13, s14, s15, s16, s17, s18, s19⟩
               go_simp
               with_reducible rfl
              rotate_left
              ·simp only [Act.put, List.setIfInBounds_toArray, List.set_cons_zero, List.set_cons_succ, i64_w, i32_w]
               rfl
              refine pure_ (i := 8) (N := some 76) (v := ?_) (a' := ?_) #[true, true, true, true, true, true, true, true, true, false, false, false] rfl rfl (any_of HT_.out (by kernel_rfl)) (fun _ _ _ h => h) (Or.inl ⟨by rfl, ?_⟩) ?_ ?_
              rotate_left
              ·intro w'
               go_simp
               with_reducible rfl
              rotate_left
              ·simp only [Act.put, List.setIfInBounds_toArray, List.set_cons_zero, List.set_cons_succ, i64_w, i32_w]
               rfl
              refine take_ (i := 9) (N := some 77) (v := ?_) (a' := ?_) #[true, true, true, true, true, true, true, true, true, true, false, false] rfl rfl (take_ofW HT_.out HW_.out (by kernel_rfl)) (fun _ _ _ h => h) (Or.inl ⟨by rfl, ?_⟩) hHeld ?_ ?_
              rotate_left
              ·rintro w' ⟨s0, s1, s2, s3, s4, s5, s6, s7, s8, s9, s10, s11, s12, s13, s14, s15, s16, s17, s18, s19⟩
               go_simp
               with_reducible rfl
              rotate_left
              ·simp only [Act.put, List.setIfInBounds_toArray, List.set_cons_zero, List.set_cons_succ, i64_w, i32_w]
               rfl
              refine one_ (i := 10) (N := some 78) #[true, true, true, true, true, true, true, true, true, true, true, false] rfl rfl (one_of HT_.out (by kernel_rfl)) (by decide) (fun K hK => ?_)
              refine goes_ Try.func14 (by kernel_rfl) rfl #[.agg #[.int .i64 ((rd_T25 l0_4 x65_3).f0), .string ((rd_T25 l0_4 x65_3).f1), .string ((rd_T25 l0_4 x65_3).f2), .slice A155_3 ((rd_T25 l0_4 x65_3).f3).length c155_3, .slice A155_4 ((rd_T25 l0_4 x65_3).f4).length c155_4], .agg #[.int .i64 ((rd_T25 l1_4 x65_3).f0), .string ((rd_T25 l1_4 x65_3).f1), .string ((rd_T25 l1_4 x65_3).f2), .slice A156_3 ((rd_T25 l1_4 x65_3).f3).length c156_3, .slice A156_4 ((rd_T25 l1_4 x65_3).f4).length c156_4]] (by rfl) rfl rfl (by (try simp only [List.map_toArray, List.map_cons, List.map_nil]); first | done | rfl | (simp only [List.length_drop, List.length_take]; rfl)) ?_
              with_reducible refine (ih k3 (by have := HJ2.out; have := HK2.out; have := HK3.out; omega) ((rd_T25 l0_4 x65_3).f0) ((rd_T25 l0_4 x65_3).f1) ((rd_T25 l0_4 x65_3).f2) _ _ ((rd_T25 l0_4 x65_3).f3) _ _ ((rd_T25 l0_4 x65_3).f4) ((rd_T25 l1_4 x65_3).f0) ((rd_T25 l1_4 x65_3).f1) ((rd_T25 l1_4 x65_3).f2) _ _ ((rd_T25 l1_4 x65_3).f3) _ _ ((rd_T25 l1_4 x65_3).f4) false _ ?side1 ?side2 ?side3 ?side4 ?side5 ?side6 ?side7 ?side8 A41.out).mono ?_
              (case side1 => repeat (first | exact (Kd.C_below HR155_3.out HB.out) | (with_reducible refine Kd.C_alloc ?_ _) | (with_reducible refine Kd.C_drewN ?_ _) | (with_reducible refine Kd.C_drew ?_)))
              (case side2 => exact HC155_3.out)
              (case side3 => repeat (first | exact (Kd.C_below HR155_4.out HB.out) | (with_reducible refine Kd.C_alloc ?_ _) | (with_reducible refine Kd.C_drewN ?_ _) | (with_reducible refine Kd.C_drew ?_)))
              (case side4 => exact HC155_4.out)
              (case side5 => repeat (first | exact (Kd.C_below HR156_3.out HB.out) | (with_reducible refine Kd.C_alloc ?_ _) | (with_reducible refine Kd.C_drewN ?_ _) | (with_reducible refine Kd.C_drew ?_)))
              (case side6 => exact HC156_3.out)
              (case side7 => repeat (first | exact (Kd.C_below HR156_4.out HB.out) | (with_reducible refine Kd.C_alloc ?_ _) | (with_reducible refine Kd.C_drewN ?_ _) | (with_reducible refine Kd.C_drew ?_)))
              (case side8 => exact HC156_4.out)
              rintro e w46 ⟨rfl, hb⟩
              refine ⟨_, rfl, ?_⟩
              have n0_ := Aside0.mk (blk_below (g := gb151) (o := .cells #[.int .i64 a0_0, .string a0_1, .string a0_2, .slice A0_3 l0_3.length c0_3, .slice (some ad155) l0_4.length c0_4] 25 (0, 0)) (by (with_reducible repeat (first | refine blk_drewN ?_ _ | refine blk_drew ?_ | refine blk_alloc ?_ _)); exact BK151.out) hb)
              have n1_ := Aside0.mk (blk_below (g := gb152) (o := .cells #[.int .i64 a1_0, .string a1_1, .string a1_2, .slice A1_3 l1_3.length c1_3, .slice (some ad156) l1_4.length c1_4] 25 (0, 0)) (by (with_reducible repeat (first | refine blk_drewN ?_ _ | refine blk_drew ?_ | refine blk_alloc ?_ _)); exact BK152.out) hb)
              have n2_ := Aside0.mk (below_step (by repeat (first | (with_reducible first | exact HB.out | apply below_alloc | apply pw_below_drewN | apply below_drew1 | refine below_set ?_ GE151.out | refine below_set ?_ GE152.out) | exact HB.out)) hb)
              clear BK151
              clear BK152
              clear HB
              have BK151 := n0_
              have BK152 := n1_
              have HB := n2_
              clear n0_ n1_ n2_
              (try clear hb)
              (try clear hb2)
              (try clear hk)
              (try clear hi)
              refine hK.out _ _ ⟨(blk_cell BK151.out 0).trans rfl, (blk_cell BK151.out 1).trans rfl, (blk_cell BK151.out 2).trans rfl, (blk_cell BK151.out 3).trans rfl, (blk_cell BK151.out 4).trans rfl, (blk_cell BK152.out 0).trans rfl, (blk_cell BK152.out 1).trans rfl, (blk_cell BK152.out 2).trans rfl, (blk_cell BK152.out 3).trans rfl, (blk_cell BK152.out 4).trans rfl, ((HB.out.cell (World.block_lt_of_cell? w _ hw155_0)).trans hw155_0), ((HB.out.cell (World.block_lt_of_cell? w _ hw155_1)).trans hw155_1), ((HB.out.cell (World.block_lt_of_cell? w _ hw155_2)).trans hw155_2), ((HB.out.cell (World.block_lt_of_cell? w _ hw155_3)).trans hw155_3), ((HB.out.cell (World.block_lt_of_cell? w _ hw155_4)).trans hw155_4), ((HB.out.cell (World.block_lt_of_cell? w _ hw156_0)).trans hw156_0), ((HB.out.cell (World.block_lt_of_cell? w _ hw156_1)).trans hw156_1), ((HB.out.cell (World.block_lt_of_cell? w _ hw156_2)).trans hw156_2), ((HB.out.cell (World.block_lt_of_cell? w _ hw156_3)).trans hw156_3), ((HB.out.cell (World.block_lt_of_cell? w _ hw156_4)).trans hw156_4)⟩ (fun hHeld => ?_)
              clear hK K
              refine norm_ (a' := ?_) ?_ ?_
              rotate_left
              ·show Act.put _ (some 78) _ = _
               simp only [Act.put, List.setIfInBounds_toArray, List.set_cons_zero, List.set_cons_succ, i64_w, i32_w]
               rfl
              refine pure_ (i := 11) (N := some 79) (v := ?_) (a' := ?_) #[true, true, true, true, true, true, true, true, true, true, true, true] rfl rfl (any_of HT_.out (by kernel_rfl)) (fun _ _ _ h => h) (Or.inl ⟨by rfl, ?_⟩) ?_ ?_
              rotate_left
              ·intro w'
               go_simp
               with_reducible rfl
              rotate_left
              ·simp only [Act.put, List.setIfInBounds_toArray, List.set_cons_zero, List.set_cons_succ, i64_w, i32_w]
               rfl
              refine done_ (done_of HT_.out (by kernel_rfl)) ?_
              try go_wp2
              go_ret
              exact ⟨by first | rfl | (simp [errW_none, errW_some] <;> rfl) | (simp [*, errW_none, errW_some] <;> rfl), by repeat (first | (with_reducible first | exact HB.out | apply below_alloc | apply pw_below_drewN | apply below_drew1 | refine below_set ?_ GE151.out | refine below_set ?_ GE152.out) | exact HB.out)⟩
            ·rw [if_neg c40] at H
             exact absurd H (by simp)
           ·rw [if_neg c39] at H
            exact absurd H (by simp)
          ·rw [if_neg c38] at H
           exact absurd H (by simp)
         ·rw [if_neg c37] at H
          have c37b0 : decide (x65_3 < (l0_4.length : Int)) = false := decide_eq_false c37
          clear c37
          obtain rfl := Option.some.inj H
          go_wp2
          go_ret
          exact ⟨by first | rfl | (simp [errW_none, errW_some] <;> rfl) | (simp [*, errW_none, errW_some] <;> rfl), by repeat (first | (with_reducible first | exact HB.out | apply below_alloc | apply pw_below_drewN | apply below_drew1 | refine below_set ?_ GE151.out | refine below_set ?_ GE152.out) | exact HB.out)⟩
end Go.Proofs.Ytmfjbljdbkmkgaa.PDom

/- What the printed functions on trees tell: the text, what stands within what, that a tree is itself. Plain facts. -/
namespace Go.Proofs.Ytmfjbljdbkmkgaa.PDom
open Go.RowKit Go.Proofs.YtmfjbljdbkmkgaaW.PrintWords Go.Proofs.YtmfjbljdbkmkgaaW.PrintLast Go.Proofs.YtmfjbljdbkmkgaaW.PrintMore Go.Proofs.Ytmfjbljdbkmkgaa.Dom Go.Proofs.Ytmfjbljdbkmkgaa.Txt
set_option linter.unusedVariables false
set_option linter.unusedSimpArgs false

theorem fit_kid {t y : T} (h : Fit t) (hy : y ∈ t.f4) : Fit y := by
 cases h with
 | mk _ _ _ h => exact h y hy
theorem fit_len {t : T} (h : Fit t) : t.f4.length ≤ 4398046510976 := by
 cases h with
 | mk _ _ h _ => exact h
theorem fit_len3 {t : T} (h : Fit t) : t.f3.length ≤ 4398046510976 := by
 cases h with
 | mk _ h _ _ => exact h
theorem fits2_ev (t : T) (ht : Fit t) : ∃ b, Ev (fun k => laws_zzFits2.f k t.f0 t.f1 t.f2 t.f3 t.f4) b := by
 obtain ⟨b, hb⟩ := fits2_tot t.f0 t.f1 t.f2 t.f3 t.f4 (Nat.le_trans (fit_len3 ht) (by decide)) (t.f3.length + 1) (by omega)
 exact ⟨b, Ev.of (fun k => laws_zzFits2.mono _ _ _ _ _ k) hb⟩
/-! ### The text -/
/-! ### A tree is itself -/
theorem same_l1 (u : T) (hk : u.f4.length ≤ 4398046510976) (ih : ∀ y ∈ u.f4, Ev (fun k => spec_SameTree.f k y.f0 y.f1 y.f2 y.f3 y.f4 y.f0 y.f1 y.f2 y.f3 y.f4) true) : ∀ (n j : Nat), u.f4.length = j + n →
  Ev (fun k => spec_SameTree.l1 k (u.f4.length : Int) (j : Int) u.f0 u.f1 u.f2 u.f3 u.f4 u.f0 u.f1 u.f2 u.f3 u.f4) true := by
 intro n
 induction n with
 | zero =>
  intro j hj
  refine Ev.step (f := fun _ => some true) (fun k => ?_) (Ev.now _)
  simp only [spec_SameTree.l1]
  rw [if_neg (by omega)]
 | succ n ihn =>
  intro j hj
  have hlt : j < u.f4.length := by omega
  refine Ev.step (f := fun k => (spec_SameTree.f k u.f4[j].f0 u.f4[j].f1 u.f4[j].f2 u.f4[j].f3 u.f4[j].f4 u.f4[j].f0 u.f4[j].f1 u.f4[j].f2 u.f4[j].f3 u.f4[j].f4).bind fun b => if b = true then spec_SameTree.l1 k (u.f4.length : Int) ((j + 1 : Nat) : Int) u.f0 u.f1 u.f2 u.f3 u.f4 u.f0 u.f1 u.f2 u.f3 u.f4 else some false) (fun k => ?_) ?_
  ·simp only [spec_SameTree.l1]
   rw [if_pos (by omega), if_pos (by omega), if_pos (by omega), if_pos (by omega), rd_at u.f4 hlt, succ_wrap j (by omega)]
  ·refine Ev.bind (ih _ (List.getElem_mem hlt)) ?_
   simpa using ihn (j + 1) (by omega)
theorem same_l0 (u : T) (ha : u.f3.length ≤ 4398046510976) (h1 : Ev (fun k => spec_SameTree.l1 k (u.f4.length : Int) ((0 : Nat) : Int) u.f0 u.f1 u.f2 u.f3 u.f4 u.f0 u.f1 u.f2 u.f3 u.f4) true) : ∀ (n j : Nat), u.f3.length = j + n →
  Ev (fun k => spec_SameTree.l0 k (u.f3.length : Int) (j : Int) u.f0 u.f1 u.f2 u.f3 u.f4 u.f0 u.f1 u.f2 u.f3 u.f4) true := by
 intro n
 induction n with
 | zero =>
  intro j hj
  refine Ev.step (f := fun k => spec_SameTree.l1 k (u.f4.length : Int) ((0 : Nat) : Int) u.f0 u.f1 u.f2 u.f3 u.f4 u.f0 u.f1 u.f2 u.f3 u.f4) (fun k => ?_) h1
  simp only [spec_SameTree.l0]
  rw [if_neg (by omega)]
  rfl
 | succ n ihn =>
  intro j hj
  refine Ev.step (f := fun k => spec_SameTree.l0 k (u.f3.length : Int) ((j + 1 : Nat) : Int) u.f0 u.f1 u.f2 u.f3 u.f4 u.f0 u.f1 u.f2 u.f3 u.f4) (fun k => ?_) (ihn (j + 1) (by omega))
  simp only [spec_SameTree.l0]
  rw [if_pos (by omega), if_pos (by omega), if_pos (by omega), if_pos (by omega), succ_wrap j (by omega)]
  simp
theorem same_ev (u : T) : Fit u → Ev (fun k => spec_SameTree.f k u.f0 u.f1 u.f2 u.f3 u.f4 u.f0 u.f1 u.f2 u.f3 u.f4) true := by
 induction u using T_induct with
 | h u ih =>
  intro hf
  have h1 := same_l1 u (fit_len hf) (fun y hy => ih y hy (fit_kid hf hy)) u.f4.length 0 (by omega)
  have h0 := same_l0 u (fit_len3 hf) h1 u.f3.length 0 (by omega)
  refine Ev.step (f := fun k => spec_SameTree.j0 k false u.f0 u.f1 u.f2 u.f3 u.f4 u.f0 u.f1 u.f2 u.f3 u.f4) (fun k => ?_) ?_
  ·simp [spec_SameTree.f]
  ·refine Ev.step (f := fun k => spec_SameTree.l0 k (u.f3.length : Int) ((0 : Nat) : Int) u.f0 u.f1 u.f2 u.f3 u.f4 u.f0 u.f1 u.f2 u.f3 u.f4) (fun k => ?_) h0
   simp only [spec_SameTree.j0]
   rw [if_neg (by simp)]
   rfl
/-! ### What stands within what -/
end Go.Proofs.Ytmfjbljdbkmkgaa.PDom

/- A cut tree: what it is like, and what the printed functions tell of it. Plain facts. -/
namespace Go.Proofs.Ytmfjbljdbkmkgaa.PDom
open Go.RowKit Go.Proofs.YtmfjbljdbkmkgaaW.PrintWords Go.Proofs.YtmfjbljdbkmkgaaW.PrintLast Go.Proofs.YtmfjbljdbkmkgaaW.PrintMore Go.Proofs.Ytmfjbljdbkmkgaa.Dom Go.Proofs.Ytmfjbljdbkmkgaa.Txt
set_option linter.unusedVariables false
set_option linter.unusedSimpArgs false

theorem cut_txt {t : T} (h : CutOk t) : (txT t).length ≤ 300 * countT t := by
 induction h with
 | text k r hk hr hl =>
  rw [txT, countT]
  split
  ·show (strOfNums r).data.toList.length ≤ _
   have := str_size r
   have e : (strOfNums r).data.toList.length = (strOfNums r).size := rfl
   omega
  ·simp [txTL]
 | elem n ks hn hv hk ih =>
  rw [txT, if_neg (by decide), countT]
  have : (txTL ks).length ≤ 300 * countTL ks := by
   clear hv hk
   induction ks with
   | nil => simp [txTL]
   | cons y ks ih2 =>
    rw [txTL, List.length_append, countTL]
    have := ih y (by simp)
    have := ih2 (fun z hz => ih z (by simp [hz]))
    omega
  omega
theorem cutR_facts (t : T) (hf : FitX t) : CutOk (cutR t) ∧ countT (cutR t) ≤ 60 ∧ okT (cutR t) = true ∧ Fit (cutR t) ∧ (txT (cutR t)).length ≤ 18000 := by
 have hfx : FitX ⟨0, t.f1, t.f2, t.f3, t.f4⟩ := by obtain ⟨_, h1, h2, h3, h4, h5⟩ := hf; exact ⟨_, h1, h2, h3, h4, h5⟩
 have h1 := cut_ok ⟨0, t.f1, t.f2, t.f3, t.f4⟩ hfx 8 60
 obtain ⟨h2, h3, _⟩ := cut_count ⟨0, t.f1, t.f2, t.f3, t.f4⟩ 8 60 (by decide)
 obtain ⟨e0, e2, e3⟩ := cutT_0 t
 have hc : countT (cutR t) = countT (cutT 8 60 ⟨0, t.f1, t.f2, t.f3, t.f4⟩).1 := by rw [countT_eq, countT_eq]; rfl
 have hk : CutOk (cutR t) := by
  unfold cutR
  generalize (cutT 8 60 ⟨0, t.f1, t.f2, t.f3, t.f4⟩).1 = u at *
  cases h1 with
  | text k r hk hr hl => exact .elem divN [] (List.mem_cons_self) (fun _ => rfl) (fun y hy => by simp at hy)
  | elem n ks hn hv hk => exact .elem divN ks (List.mem_cons_self) (fun h => by rcases h with h | h <;> exact absurd h (by decide)) hk
 have hc60 : countT (cutR t) ≤ 60 := by omega
 have hok := cutOk_ok hk (by omega)
 exact ⟨hk, hc60, hok, ok_fit _ hok, by have := cut_txt hk; omega⟩
end Go.Proofs.Ytmfjbljdbkmkgaa.PDom

/- FnCollapseAny: the plain law. -/
namespace Go.Proofs.Ytmfjbljdbkmkgaa.Dom
open Go.RowKit Go.Proofs.YtmfjbljdbkmkgaaW.PrintWords Go.Proofs.YtmfjbljdbkmkgaaW.PrintLast Go.Proofs.YtmfjbljdbkmkgaaW.PrintMore Go.Proofs.Ytmfjbljdbkmkgaa.PDom Go.Proofs.Ytmfjbljdbkmkgaa.Txt Go.Proofs.Ytmfjbljdbkmkgaa.Blank
set_option linter.unusedVariables false
set_option linter.unusedSimpArgs false

theorem cut_na {t : T} (h : CutOk t) : naT t = true := by
 induction h with
 | text k r hk hr hl => rfl
 | elem n ks hn hv hk ih =>
  rw [naT, Bool.and_eq_true]
  exact ⟨rfl, naTL_iff.2 ih⟩
theorem cut_tx {t : T} (h : CutOk t) : txB t = true := by
 induction h with
 | text k r hk hr hl =>
  rw [txB, Bool.and_eq_true]
  refine ⟨?_, rfl⟩
  rw [str_size, decide_eq_true (show r.length ≤ 2147483647 by omega), Bool.or_true]
 | elem n ks hn hv hk ih =>
  rw [txB, Bool.and_eq_true]
  exact ⟨rfl, txBL_iff.2 ih⟩
/-- What is collapsed fits. -/
theorem p1_fit (S : Srt) (t : T) : okT t = true → ∀ b, (∀ y ∈ (p1 S b t).2, okT y = true) ∧ (p1 S b t).2.length ≤ 1 := by
 induction t using T_induct with
 | h t ih =>
  intro hok b
  obtain ⟨h1, h2, h3, h4⟩ := okT_open hok
  obtain ⟨k, n, x, as_, ks⟩ := t
  simp only at h2 h3 h4 ih
  have same : ∀ y ∈ [(⟨k, n, x, as_, ks⟩ : T)], okT y = true := fun y hy => by
   have : y = _ := List.mem_singleton.1 hy
   rw [this]; exact hok
  have hL : ∀ (l : List T), (∀ y ∈ l, y ∈ ks) → ∀ b, (∀ y ∈ (p1L S b l).2, okT y = true) ∧ (p1L S b l).2.length ≤ l.length := by
   intro l
   induction l with
   | nil => intro _ b; exact ⟨fun y hy => (by cases hy), Nat.le_refl _⟩
   | cons y l ih2 =>
    intro hm b
    obtain ⟨a1, a2⟩ := ih y (hm y (by simp)) (h4 y (hm y (by simp))) b
    obtain ⟨b1, b2⟩ := ih2 (fun z hz => hm z (by simp [hz])) (p1 S b y).1
    rw [p1L]
    refine ⟨fun z hz => ?_, ?_⟩
    ·rcases List.mem_append.1 hz with hz | hz
     ·exact a1 z hz
     ·exact b1 z hz
    ·rw [List.length_append, List.length_cons]
     omega
  rw [p1]
  split
  ·rename_i e
   show (∀ y ∈ (if (b.ct (bytesOf x)).isEmpty = true then [] else [⟨k, n, strOfNums (b.ct (bytesOf x)), as_, ks⟩] : List T), okT y = true) ∧ (if (b.ct (bytesOf x)).isEmpty = true then [] else [⟨k, n, strOfNums (b.ct (bytesOf x)), as_, ks⟩] : List T).length ≤ 1
   split
   ·exact ⟨fun y hy => (by cases hy), Nat.zero_le _⟩
   ·refine ⟨fun y hy => ?_, Nat.le_refl _⟩
    have : y = _ := List.mem_singleton.1 hy
    rw [this]
    refine okT_mk ?_ h2 h3 h4
    rcases h1 with ⟨a, b, c, d⟩ | ⟨_, b, _⟩ | ⟨a, b⟩
    ·exact .inl ⟨a, b, c, d⟩
    ·cases b
    ·have a' : k = 0 := a
     rw [e] at a'
     exact absurd a' (by decide)
  ·split
   ·split
    ·exact ⟨same, Nat.le_refl _⟩
    ·obtain ⟨a1, a2⟩ := hL ks (fun y hy => hy) (b.ent (S.kind n))
     refine ⟨fun y hy => ?_, Nat.le_refl _⟩
     have : y = _ := List.mem_singleton.1 hy
     rw [this]
     refine okT_mk ?_ h2 (Nat.le_trans a2 h3) a1
     rename_i e _
     rcases h1 with ⟨a, _⟩ | ⟨_, b, _⟩ | ⟨a, b⟩
     ·have a' : k = 1 ∨ k = 2 := a
      rw [e] at a'
      exact absurd a' (by decide)
     ·cases b
     ·exact .inr (.inr ⟨a, b⟩)
   ·exact ⟨same, Nat.le_refl _⟩
theorem p1L_fit (S : Srt) (l : List T) : (∀ y ∈ l, okT y = true) → ∀ b, (∀ y ∈ (p1L S b l).2, okT y = true) ∧ (p1L S b l).2.length ≤ l.length := by
 induction l with
 | nil => intro _ b; exact ⟨fun y hy => (by cases hy), Nat.le_refl _⟩
 | cons y l ih =>
  intro h b
  obtain ⟨a1, a2⟩ := p1_fit S y (h y (by simp)) b
  obtain ⟨b1, b2⟩ := ih (fun z hz => h z (by simp [hz])) (p1 S b y).1
  rw [p1L]
  refine ⟨fun z hz => ?_, ?_⟩
  ·rcases List.mem_append.1 hz with hz | hz
   ·exact a1 z hz
   ·exact b1 z hz
  ·rw [List.length_append, List.length_cons]
   omega
theorem p2_fit (S : Srt) (t : T) : okT t = true → ∀ tr, (∀ y ∈ (p2 S tr t).2, okT y = true) ∧ (p2 S tr t).2.length ≤ 1 := by
 induction t using T_induct with
 | h t ih =>
  intro hok tr
  obtain ⟨h1, h2, h3, h4⟩ := okT_open hok
  obtain ⟨k, n, x, as_, ks⟩ := t
  simp only at h2 h3 h4 ih
  have same : ∀ y ∈ [(⟨k, n, x, as_, ks⟩ : T)], okT y = true := fun y hy => by
   have : y = _ := List.mem_singleton.1 hy
   rw [this]; exact hok
  have hL : ∀ (l : List T), (∀ y ∈ l, y ∈ ks) → ∀ tr, (∀ y ∈ (p2L S tr l).2, okT y = true) ∧ (p2L S tr l).2.length ≤ l.length := by
   intro l
   induction l with
   | nil => intro _ tr; exact ⟨fun y hy => (by cases hy), Nat.le_refl _⟩
   | cons y l ih2 =>
    intro hm tr
    obtain ⟨b1, b2⟩ := ih2 (fun z hz => hm z (by simp [hz])) tr
    obtain ⟨a1, a2⟩ := ih y (hm y (by simp)) (h4 y (hm y (by simp))) (p2L S tr l).1
    rw [p2L]
    refine ⟨fun z hz => ?_, ?_⟩
    ·rcases List.mem_append.1 hz with hz | hz
     ·exact a1 z hz
     ·exact b1 z hz
    ·rw [List.length_append, List.length_cons]
     omega
  rw [p2]
  split
  ·rename_i e
   have hno : NodeOk false (⟨k, n, strOfNums (trimB (bytesOf x)), as_, ks⟩ : T) := by
    rcases h1 with ⟨a, b, c, d⟩ | ⟨_, b, _⟩ | ⟨a, b⟩
    ·exact .inl ⟨a, b, c, d⟩
    ·cases b
    ·have a' : k = 0 := a
     rw [e] at a'
     exact absurd a' (by decide)
   show (∀ y ∈ (if tr = 0 then [⟨k, n, x, as_, ks⟩] else if tr = 2 ∧ trimB (bytesOf x) = [] then [] else [⟨k, n, strOfNums (trimB (bytesOf x)), as_, ks⟩] : List T), okT y = true) ∧ (if tr = 0 then [⟨k, n, x, as_, ks⟩] else if tr = 2 ∧ trimB (bytesOf x) = [] then [] else [⟨k, n, strOfNums (trimB (bytesOf x)), as_, ks⟩] : List T).length ≤ 1
   split
   ·exact ⟨same, Nat.le_refl _⟩
   ·split
    ·exact ⟨fun y hy => (by cases hy), Nat.zero_le _⟩
    ·refine ⟨fun y hy => ?_, Nat.le_refl _⟩
     have : y = _ := List.mem_singleton.1 hy
     rw [this]
     exact okT_mk hno h2 h3 h4
  ·split
   ·split
    ·exact ⟨same, Nat.le_refl _⟩
    ·obtain ⟨a1, a2⟩ := hL ks (fun y hy => hy) (aft (S.kind n) tr)
     refine ⟨fun y hy => ?_, Nat.le_refl _⟩
     have : y = _ := List.mem_singleton.1 hy
     rw [this]
     refine okT_mk ?_ h2 (Nat.le_trans a2 h3) a1
     rename_i e _
     rcases h1 with ⟨a, _⟩ | ⟨_, b, _⟩ | ⟨a, b⟩
     ·have a' : k = 1 ∨ k = 2 := a
      rw [e] at a'
      exact absurd a' (by decide)
     ·cases b
     ·exact .inr (.inr ⟨a, b⟩)
   ·exact ⟨same, Nat.le_refl _⟩
theorem p2L_fit (S : Srt) (l : List T) : (∀ y ∈ l, okT y = true) → ∀ tr, (∀ y ∈ (p2L S tr l).2, okT y = true) ∧ (p2L S tr l).2.length ≤ l.length := by
 induction l with
 | nil => intro _ tr; exact ⟨fun y hy => (by cases hy), Nat.le_refl _⟩
 | cons y l ih =>
  intro h tr
  obtain ⟨b1, b2⟩ := ih (fun z hz => h z (by simp [hz])) tr
  obtain ⟨a1, a2⟩ := p2_fit S y (h y (by simp)) (p2L S tr l).1
  rw [p2L]
  refine ⟨fun z hz => ?_, ?_⟩
  ·rcases List.mem_append.1 hz with hz | hz
   ·exact a1 z hz
   ·exact b1 z hz
  ·rw [List.length_append, List.length_cons]
   omega
theorem col_ok (S : Srt) (t : T) (hok : okT t = true) : okT (colT S t) = true := by
 obtain ⟨h1, h2, h3, h4⟩ := okT_open hok
 obtain ⟨k, n, x, as_, ks⟩ := t
 rw [colT]
 split
 ·exact hok
 ·obtain ⟨a1, a2⟩ := p1L_fit S ks h4 ⟨none, false⟩
  obtain ⟨b1, b2⟩ := p2L_fit S _ a1 2
  refine okT_mk ?_ h2 (by show _ ≤ _; exact Nat.le_trans b2 (Nat.le_trans a2 h3)) b1
  rcases h1 with ⟨a, b, c, d⟩ | ⟨_, b, _⟩ | ⟨a, b⟩
  ·have d' : ks = [] := d
   subst d'
   exact .inl ⟨a, b, c, rfl⟩
  ·cases b
  ·exact .inr (.inr ⟨a, b⟩)
end Go.Proofs.Ytmfjbljdbkmkgaa.Dom

/- White space collapsed as the reference does it: its steps, its texts, the tree filled again. Plain facts. -/
namespace Go.Proofs.Ytmfjbljdbkmkgaa.Dom
open Go.RowKit Go.Proofs.YtmfjbljdbkmkgaaW.PrintWords Go.Proofs.YtmfjbljdbkmkgaaW.PrintLast Go.Proofs.YtmfjbljdbkmkgaaW.PrintMore Go.Proofs.Ytmfjbljdbkmkgaa.PDom Go.Proofs.Ytmfjbljdbkmkgaa.Txt Go.Proofs.Ytmfjbljdbkmkgaa.Blank
set_option linter.unusedVariables false
set_option linter.unusedSimpArgs false

abbrev Stp := S100
def kindS (S : Srt) (n : ByteArray) : Nat := if (inL S.bk n || n.toList == brB.toList) = true then 1 else if (inL S.vd n || inL S.pr n) = true then 2 else 3
mutual
/-- A node's steps, its texts counted from m on. -/
def stp (S : Srt) (m : Nat) : T → List Stp
 | ⟨k, n, x, as_, ks⟩ => if k = 1 then [⟨0, m⟩] else if k = 0 then (if inL S.pr n = true then [⟨kindS S n, 0⟩] else ⟨kindS S n, 0⟩ :: (stpL S m ks ++ if ks.isEmpty = true then [] else [⟨kindS S n, 0⟩])) else []
def stpL (S : Srt) (m : Nat) : List T → List Stp
 | [] => []
 | k :: ks => stp S m k ++ stpL S (m + (txs S k).length) ks
/-- Its texts. -/
def txs (S : Srt) : T → List ByteArray
 | ⟨k, n, x, as_, ks⟩ => if k = 1 then [x] else if k = 0 then (if inL S.pr n = true then [] else txsL S ks) else []
def txsL (S : Srt) : List T → List ByteArray
 | [] => []
 | k :: ks => txs S k ++ txsL S ks
end
theorem txsL_append (S : Srt) (a b : List T) : txsL S (a ++ b) = txsL S a ++ txsL S b := by
 induction a with
 | nil => rfl
 | cons k a ih => rw [List.cons_append, txsL, txsL, ih, List.append_assoc]
theorem stpL_append (S : Srt) (a b : List T) : ∀ m, stpL S m (a ++ b) = stpL S m a ++ stpL S (m + (txsL S a).length) b := by
 induction a with
 | nil => intro m; rfl
 | cons k a ih =>
  intro m
  rw [List.cons_append, stpL, stpL, ih, List.append_assoc, txsL, List.length_append, Nat.add_assoc]
theorem stpL_take (S : Srt) (m : Nat) (l : List T) {j : Nat} (h : j < l.length) : stpL S m (l.take (j + 1)) = stpL S m (l.take j) ++ stp S (m + (txsL S (l.take j)).length) l[j] := by
 rw [List.take_succ_eq_append_getElem h, stpL_append]
 simp only [stpL, List.append_nil]
theorem txsL_take (S : Srt) (l : List T) {j : Nat} (h : j < l.length) : txsL S (l.take (j + 1)) = txsL S (l.take j) ++ txs S l[j] := by
 rw [List.take_succ_eq_append_getElem h, txsL_append]
 simp only [txsL, List.append_nil]
/-- How many there are at most. -/
theorem stp_len (S : Srt) (t : T) : ∀ m, (stp S m t).length ≤ 2 * countT t ∧ (txs S t).length ≤ countT t := by
 induction t using T_induct with
 | h t ih =>
  intro m
  obtain ⟨k, n, x, as_, ks⟩ := t
  have hL : ∀ (l : List T), (∀ y ∈ l, y ∈ ks) → ∀ m, (stpL S m l).length ≤ 2 * countTL l ∧ (txsL S l).length ≤ countTL l := by
   intro l
   induction l with
   | nil => intro _ m; exact ⟨Nat.le_refl _, Nat.le_refl _⟩
   | cons y l ih2 =>
    intro hm m
    obtain ⟨a1, a2⟩ := ih y (hm y (by simp)) m
    obtain ⟨b1, b2⟩ := ih2 (fun z hz => hm z (by simp [hz])) (m + (txs S y).length)
    rw [stpL, txsL, countTL, List.length_append, List.length_append]
    omega
  obtain ⟨a1, a2⟩ := hL ks (fun y hy => hy) m
  rw [stp, txs, countT]
  split
  ·simp
   omega
  ·split
   ·split
    ·simp
     omega
    ·rw [List.length_cons, List.length_append]
     refine ⟨?_, by omega⟩
     split
     ·simp; omega
     ·simp; omega
   ·simp
theorem stpL_len (S : Srt) (l : List T) : ∀ m, (stpL S m l).length ≤ 2 * countTL l ∧ (txsL S l).length ≤ countTL l := by
 induction l with
 | nil => intro m; exact ⟨Nat.le_refl _, Nat.le_refl _⟩
 | cons y l ih2 =>
  intro m
  obtain ⟨a1, a2⟩ := stp_len S y m
  obtain ⟨b1, b2⟩ := ih2 (m + (txs S y).length)
  rw [stpL, txsL, countTL, List.length_append, List.length_append]
  omega
/-! ### The tree as nodes, its texts numbered -/
mutual
def ofT : T → RT
 | ⟨k, n, x, as_, ks⟩ => if k = 1 then .node 0 1 0 x [] [] else if k = 0 then .node 0 3 0 n [] (ofTL ks) else .node 0 4 0 x [] []
def ofTL : List T → List RT
 | [] => []
 | k :: ks => ofT k :: ofTL ks
end
mutual
def lab (S : Srt) (m : Nat) : T → RT
 | ⟨k, n, x, as_, ks⟩ => if k = 1 then .node m 1 0 x [] [] else if k = 0 then (if inL S.pr n = true then .node 0 3 0 n [] (ofTL ks) else .node 0 3 0 n [] (labL S m ks)) else .node 0 4 0 x [] []
def labL (S : Srt) (m : Nat) : List T → List RT
 | [] => []
 | k :: ks => lab S m k :: labL S (m + (txs S k).length) ks
end
theorem ofT_toT (t : T) : okT t = true → naT t = true → (ofT t).toT = t := by
 induction t using T_induct with
 | h t ih =>
  intro hok hna
  obtain ⟨h1, _, _, h4⟩ := okT_open hok
  obtain ⟨n3, n4⟩ := naT_open hna
  obtain ⟨k, n, x, as_, ks⟩ := t
  have n3' : as_ = [] := n3
  subst n3'
  have hL : ∀ (l : List T), (∀ y ∈ l, y ∈ ks) → RT.toTL (ofTL l) = l := by
   intro l
   induction l with
   | nil => intro _; rfl
   | cons y l ih2 =>
    intro hm
    rw [ofTL, RT.toTL, ih y (hm y (by simp)) (h4 y (hm y (by simp))) (n4 y (hm y (by simp))), ih2 (fun z hz => hm z (by simp [hz]))]
  rw [ofT]
  rcases h1 with ⟨e, e1, _, e4⟩ | ⟨_, e, _⟩ | ⟨e, e1⟩
  ·have e1' : n = ⟨#[]⟩ := e1
   have e4' : ks = [] := e4
   subst e1' e4'
   rcases e with e | e
   ·have e' : k = 1 := e
    subst e'
    rfl
   ·have e' : k = 2 := e
    subst e'
    rfl
  ·cases e
  ·have e' : k = 0 := e
   have e1' : x = ⟨#[]⟩ := e1
   subst e' e1'
   rw [if_neg (by decide), if_pos rfl, RT.toT, if_pos rfl, hL ks (fun y hy => hy)]
   rfl
theorem ofTL_toT (l : List T) (h : ∀ t ∈ l, okT t = true ∧ naT t = true) : RT.toTL (ofTL l) = l := by
 induction l with
 | nil => rfl
 | cons y l ih => rw [ofTL, RT.toTL, ofT_toT y (h y (by simp)).1 (h y (by simp)).2, ih (fun z hz => h z (by simp [hz]))]
theorem range_two (m a b : Nat) : List.range' m a ++ List.range' (m + a) b = List.range' m (a + b) := by
 rw [List.range'_append_1]
theorem lab_tid (S : Srt) (t : T) : ∀ m, (lab S m t).tid S = List.range' m (txs S t).length := by
 induction t using T_induct with
 | h t ih =>
  intro m
  obtain ⟨k, n, x, as_, ks⟩ := t
  have hL : ∀ (l : List T), (∀ y ∈ l, y ∈ ks) → ∀ m, RT.tidL S (labL S m l) = List.range' m (txsL S l).length := by
   intro l
   induction l with
   | nil => intro _ m; rfl
   | cons y l ih2 =>
    intro hm m
    rw [labL, RT.tidL, ih y (hm y (by simp)), ih2 (fun z hz => hm z (by simp [hz])), txsL, List.length_append, range_two]
  rw [lab, txs]
  by_cases k1 : k = 1
  ·rw [if_pos k1, if_pos k1, RT.tid, if_pos rfl]
   rfl
  ·rw [if_neg k1, if_neg k1]
   by_cases k0 : k = 0
   ·rw [if_pos k0, if_pos k0]
    cases hp : inL S.pr n with
    | true =>
     rw [if_pos rfl, if_pos rfl, RT.tid, if_neg (by decide), hp, if_neg (by simp)]
     rfl
    | false =>
     rw [if_neg (by simp), if_neg (by simp), RT.tid, if_neg (by decide), hp, if_pos (by simp), hL ks (fun y hy => hy)]
   ·rw [if_neg k0, if_neg k0, RT.tid, if_neg (by decide), if_neg (by simp)]
    rfl
theorem labL_tid (S : Srt) (l : List T) : ∀ m, RT.tidL S (labL S m l) = List.range' m (txsL S l).length := by
 induction l with
 | nil => intro m; rfl
 | cons y l ih2 =>
  intro m
  rw [labL, RT.tidL, lab_tid, ih2, txsL, List.length_append, range_two]
/-- The store holds these texts from m on. -/
def Holds (σ : Nat → List Int) (m : Nat) (l : List ByteArray) : Prop := ∀ i (h : i < l.length), strOfNums (σ (m + i)) = l[i]
theorem Holds.left {σ : Nat → List Int} {m : Nat} {a b : List ByteArray} (h : Holds σ m (a ++ b)) : Holds σ m a := fun i hi => by
 have := h i (by rw [List.length_append]; omega)
 rw [List.getElem_append_left hi] at this
 exact this
theorem Holds.right {σ : Nat → List Int} {m : Nat} {a b : List ByteArray} (h : Holds σ m (a ++ b)) : Holds σ (m + a.length) b := fun i hi => by
 have := h (a.length + i) (by rw [List.length_append]; omega)
 rw [List.getElem_append_right (by omega)] at this
 simp only [Nat.add_sub_cancel_left] at this
 rw [Nat.add_assoc]
 exact this
theorem lab_dat (S : Srt) (σ : Nat → List Int) (t : T) : okT t = true → naT t = true → ∀ m, Holds σ m (txs S t) → ((lab S m t).dat S σ).toT = t := by
 induction t using T_induct with
 | h t ih =>
  intro hok hna m hσ
  obtain ⟨h1, _, _, h4⟩ := okT_open hok
  obtain ⟨n3, n4⟩ := naT_open hna
  obtain ⟨k, n, x, as_, ks⟩ := t
  have n3' : as_ = [] := n3
  subst n3'
  have hL : ∀ (l : List T), (∀ y ∈ l, y ∈ ks) → ∀ m, Holds σ m (txsL S l) → RT.toTL (RT.datL S σ (labL S m l)) = l := by
   intro l
   induction l with
   | nil => intro _ m _; rfl
   | cons y l ih2 =>
    intro hm m hs
    rw [txsL] at hs
    rw [labL, RT.datL, RT.toTL, ih y (hm y (by simp)) (h4 y (hm y (by simp))) (n4 y (hm y (by simp))) m hs.left, ih2 (fun z hz => hm z (by simp [hz])) _ hs.right]
  rw [lab]
  rw [txs] at hσ
  rcases h1 with ⟨e, e1, _, e4⟩ | ⟨_, e, _⟩ | ⟨e, e1⟩
  ·have e1' : n = ⟨#[]⟩ := e1
   have e4' : ks = [] := e4
   subst e1' e4'
   rcases e with e | e
   ·have e' : k = 1 := e
    subst e'
    rw [if_pos rfl] at hσ
    have := hσ 0 (by simp)
    simp only [Nat.add_zero, List.getElem_cons_zero] at this
    rw [if_pos rfl, RT.dat, if_pos rfl, this]
    rfl
   ·have e' : k = 2 := e
    subst e'
    rw [if_neg (by decide), if_neg (by decide), RT.dat, if_neg (by decide), if_neg (by simp)]
    rfl
  ·cases e
  ·have e' : k = 0 := e
   have e1' : x = ⟨#[]⟩ := e1
   subst e' e1'
   rw [if_neg (by decide), if_pos rfl] at hσ ⊢
   cases hp : inL S.pr n with
   | true =>
    rw [if_pos rfl, RT.dat, if_neg (by decide), hp, if_neg (by simp), RT.toT, if_pos rfl, ofTL_toT ks (fun y hy => ⟨h4 y hy, n4 y hy⟩)]
    rfl
   | false =>
    rw [hp, if_neg (by simp)] at hσ
    rw [if_neg (by simp), RT.dat, if_neg (by decide), hp, if_pos (by simp), RT.toT, if_pos rfl, hL ks (fun y hy => hy) m hσ]
    rfl
theorem labL_dat (S : Srt) (σ : Nat → List Int) (l : List T) (h : ∀ t ∈ l, okT t = true ∧ naT t = true) : ∀ m, Holds σ m (txsL S l) → RT.toTL (RT.datL S σ (labL S m l)) = l := by
 induction l with
 | nil => intro m _; rfl
 | cons y l ih =>
  intro m hs
  rw [txsL] at hs
  rw [labL, RT.datL, RT.toTL, lab_dat S σ y (h y (by simp)).1 (h y (by simp)).2 m hs.left, ih (fun z hz => h z (by simp [hz])) _ hs.right]
/-! ### The steps, one by one, are the run -/
def stepR (s : SR) (x : Stp) : SR := if x.f0 = 0 then s.txt x.f1.toNat else s.ent x.f0.toNat
theorem stepR_kind (S : Srt) (hk : ∀ n, kindS S n = S.kind n) (s : SR) (n : ByteArray) : stepR s ⟨kindS S n, 0⟩ = s.ent (S.kind n) := by
 unfold stepR
 have hz : ¬ ((kindS S n : Nat) : Int) = 0 := by
  rw [hk]
  rcases kind_cases S n with e | e | e <;> rw [e] <;> decide
 rw [if_neg hz, hk]
 rfl
theorem lab_run (S : Srt) (hk : ∀ n, kindS S n = S.kind n) (t : T) : okT t = true → ∀ m s, (run S s (lab S m t)).1 = (stp S m t).foldl stepR s := by
 induction t using T_induct with
 | h t ih =>
  intro hok m s
  obtain ⟨h1, _, _, h4⟩ := okT_open hok
  obtain ⟨k, n, x, as_, ks⟩ := t
  have hL : ∀ (l : List T), (∀ y ∈ l, y ∈ ks) → ∀ m s, (runL S s (labL S m l)).1 = (stpL S m l).foldl stepR s := by
   intro l
   induction l with
   | nil => intro _ m s; rfl
   | cons y l ih2 =>
    intro hm m s
    rw [labL, runL, stpL, List.foldl_append, ← ih y (hm y (by simp)) (h4 y (hm y (by simp))), ← ih2 (fun z hz => hm z (by simp [hz]))]
  rw [lab, stp]
  by_cases k1 : k = 1
  ·rw [if_pos k1, if_pos k1, run, if_pos rfl]
   rfl
  ·rw [if_neg k1, if_neg k1]
   by_cases k0 : k = 0
   ·rw [if_pos k0, if_pos k0]
    cases hp : inL S.pr n with
    | true =>
     rw [if_pos rfl, if_pos rfl, run, if_neg (by decide), if_pos rfl, hp, if_pos rfl, List.foldl_cons, List.foldl_nil, stepR_kind S hk]
    | false =>
     rw [if_neg (by simp), if_neg (by simp), run, if_neg (by decide), if_pos rfl, hp, if_neg (by simp), List.foldl_cons, List.foldl_append, stepR_kind S hk]
     show (runL S (s.ent (S.kind n)) (labL S m ks)).1.ent (S.kind n) = _
     rw [hL ks (fun y hy => hy)]
     cases ks with
     | nil =>
      rw [stpL, List.foldl_nil]
      show (s.ent (S.kind n)).ent (S.kind n) = s.ent (S.kind n)
      exact ent_ent _ _
     | cons y ks =>
      rw [if_neg (by simp), List.foldl_cons, List.foldl_nil, stepR_kind S hk]
   ·rw [if_neg k0, if_neg k0, run, if_neg (by decide), if_neg (by decide)]
    rfl
theorem labL_run (S : Srt) (hk : ∀ n, kindS S n = S.kind n) (l : List T) : (∀ t ∈ l, okT t = true) → ∀ m s, (runL S s (labL S m l)).1 = (stpL S m l).foldl stepR s := by
 induction l with
 | nil => intro _ m s; rfl
 | cons y l ih =>
  intro h m s
  rw [labL, runL, stpL, List.foldl_append, ← lab_run S hk y (h y (by simp)), ← ih (fun z hz => h z (by simp [hz]))]
theorem ofT_all (t : T) : RT.All okN (ofT t) := by
 induction t using T_induct with
 | h t ih =>
  obtain ⟨k, n, x, as_, ks⟩ := t
  have hL : ∀ (l : List T), (∀ y ∈ l, y ∈ ks) → ∀ r ∈ ofTL l, RT.All okN r := by
   intro l
   induction l with
   | nil => intro _ r hr; cases hr
   | cons y l ih2 =>
    intro hm r hr
    rcases List.mem_cons.1 (show r ∈ ofT y :: ofTL l from hr) with e | e
    ·rw [e]; exact ih y (hm y (by simp))
    ·exact ih2 (fun z hz => hm z (by simp [hz])) r e
  rw [ofT]
  split
  ·exact ⟨_, ⟨Nat.zero_le _, .inl rfl⟩, fun r hr => by cases hr⟩
  ·split
   ·exact ⟨_, ⟨Nat.zero_le _, .inr (.inl rfl)⟩, hL ks (fun y hy => hy)⟩
   ·exact ⟨_, ⟨Nat.zero_le _, .inr (.inr rfl)⟩, fun r hr => by cases hr⟩
theorem ofTL_all (l : List T) : ∀ r ∈ ofTL l, RT.All okN r := by
 induction l with
 | nil => intro r hr; cases hr
 | cons y l ih =>
  intro r hr
  rcases List.mem_cons.1 (show r ∈ ofT y :: ofTL l from hr) with e | e
  ·rw [e]; exact ofT_all y
  ·exact ih r e
theorem lab_all (S : Srt) (t : T) : ∀ m, RT.All okN (lab S m t) := by
 induction t using T_induct with
 | h t ih =>
  intro m
  obtain ⟨k, n, x, as_, ks⟩ := t
  have hL : ∀ (l : List T), (∀ y ∈ l, y ∈ ks) → ∀ m, ∀ r ∈ labL S m l, RT.All okN r := by
   intro l
   induction l with
   | nil => intro _ m r hr; cases hr
   | cons y l ih2 =>
    intro hm m r hr
    rcases List.mem_cons.1 (show r ∈ lab S m y :: labL S (m + (txs S y).length) l from hr) with e | e
    ·rw [e]; exact ih y (hm y (by simp)) m
    ·exact ih2 (fun z hz => hm z (by simp [hz])) _ r e
  rw [lab]
  split
  ·exact ⟨_, ⟨Nat.zero_le _, .inl rfl⟩, fun r hr => by cases hr⟩
  ·split
   ·split
    ·exact ⟨_, ⟨Nat.zero_le _, .inr (.inl rfl)⟩, ofTL_all ks⟩
    ·exact ⟨_, ⟨Nat.zero_le _, .inr (.inl rfl)⟩, hL ks (fun y hy => hy) m⟩
   ·exact ⟨_, ⟨Nat.zero_le _, .inr (.inr rfl)⟩, fun r hr => by cases hr⟩
theorem labL_all (S : Srt) (l : List T) : ∀ m, ∀ r ∈ labL S m l, RT.All okN r := by
 induction l with
 | nil => intro m r hr; cases hr
 | cons y l ih =>
  intro m r hr
  rcases List.mem_cons.1 (show r ∈ lab S m y :: labL S (m + (txs S y).length) l from hr) with e | e
  ·rw [e]; exact lab_all S y m
  ·exact ih _ r e
/-! ### Empty texts aside -/
theorem emp_text (i : Nat) (a : Int) (d : ByteArray) (at_ : List (ByteArray × ByteArray)) (ks : List RT) (S : Srt) (τ : Nat → List Int) (h : τ i = []) : emptyTx ((RT.node i 1 a d at_ ks).dat S τ).toT = true := by
 rw [RT.dat, if_pos rfl, RT.toT, if_neg (by decide), if_pos rfl, h]
 unfold emptyTx
 rw [ByteArray.toList_eq]
 rfl
theorem full_skip {t : T} (h : emptyTx t = true) (l : List T) : fullTL (t :: l) = fullTL l := by rw [fullTL, if_pos h]
/-- What is gone is empty. -/
theorem run_gone (S : Srt) (r : RT) : RT.All okN r → ∀ s : SR, (∀ b, Byt (s.st b)) → (r.tid S).Nodup → (∀ p, s.pt = some p → p ∉ r.tid S) → ∀ b ∈ r.tid S, b ∉ RT.tidL S (run S s r).2 → (run S s r).1.st b = [] ∧ (run S s r).1.pt ≠ some b := by
 induction r using RT.induct with
 | h i ty a d at_ ks ih =>
  intro hall s hb hn hp b hbm hbn
  have hsnd := (node_sound S _ hall s hb hn hp).2.2
  cases hall with
  | mk _ hok hks =>
   by_cases h1 : ty = 1
   ·subst h1
    have ht : RT.tid S (.node i 1 a d at_ ks) = [i] := by rw [RT.tid, if_pos rfl]
    rw [ht] at hbm hp
    have hbi : b = i := by simpa using hbm
    subst hbi
    rw [run, if_pos rfl] at hbn ⊢
    by_cases he : (s.ct b).isEmpty = true
    ·show (s.txt b).st b = [] ∧ (s.txt b).pt ≠ some b
     unfold SR.txt
     rw [if_pos he]
     exact ⟨upd_same _ _ _, fun e => hp b e (by simp)⟩
    ·exfalso
     apply hbn
     show b ∈ RT.tidL S (if (s.ct b).isEmpty = true then [] else [_])
     rw [if_neg he, RT.tidL, ht]
     simp
   ·by_cases h3 : ty = 3
    ·subst h3
     cases hpr : inL S.pr d with
     | true =>
      have ht : RT.tid S (.node i 3 a d at_ ks) = [] := by rw [RT.tid, if_neg (by decide), hpr, if_neg (by simp)]
      rw [ht] at hbm
      cases hbm
     | false =>
      have ht : ∀ K, RT.tid S (.node i 3 a d at_ K) = RT.tidL S K := fun K => by rw [RT.tid, if_neg (by decide), hpr, if_pos (by simp)]
      rw [ht] at hbm hn hp
      have hr : run S s (.node i 3 a d at_ ks) = ((runL S (s.ent (S.kind d)) ks).1.ent (S.kind d), [.node i 3 a d at_ (runL S (s.ent (S.kind d)) ks).2]) := by rw [run, if_neg (by decide), if_pos rfl, hpr, if_neg (by simp)]
      rw [hr] at hbn ⊢
      have hbn' : b ∉ RT.tidL S (runL S (s.ent (S.kind d)) ks).2 := fun h => hbn (by rw [RT.tidL, ht]; exact List.mem_append_left _ h)
      have hL : ∀ (l : List RT), (∀ k ∈ l, k ∈ ks) → ∀ s : SR, (∀ b, Byt (s.st b)) → (RT.tidL S l).Nodup → (∀ p, s.pt = some p → p ∉ RT.tidL S l) → ∀ b ∈ RT.tidL S l, b ∉ RT.tidL S (runL S s l).2 → (runL S s l).1.st b = [] ∧ (runL S s l).1.pt ≠ some b := by
       intro l
       induction l with
       | nil => intro _ s _ _ _ b hm; cases hm
       | cons k l ih2 =>
        intro hm s hb hn hp b hbm hbn
        have hn' : (k.tid S ++ RT.tidL S l).Nodup := hn
        obtain ⟨n1, n2, n3⟩ := List.nodup_append.1 hn'
        have hpk : ∀ p, s.pt = some p → p ∉ k.tid S := fun p e hm2 => hp p e (List.mem_append_left _ hm2)
        obtain ⟨b1, _, s1⟩ := node_sound S k (hks k (hm k (by simp))) s hb n1 hpk
        have hp1 : ∀ p, (run S s k).1.pt = some p → p ∉ RT.tidL S l := fun p e hm2 => by
         rcases s1.ptin p e with h1 | h1
         ·exact n3 p (s1.sub p h1) p hm2 rfl
         ·exact hp p h1 (List.mem_append_right _ hm2)
        obtain ⟨_, _, s2⟩ := list_sound S l (fun y hy => node_sound S y (hks y (hm y (by simp [hy])))) (run S s k).1 b1 n2 hp1
        rw [runL] at hbn ⊢
        rw [tidL_append] at hbn
        rcases List.mem_append.1 (show b ∈ k.tid S ++ RT.tidL S l from hbm) with h1 | h1
        ·obtain ⟨g1, g2⟩ := ih k (hm k (by simp)) (hks k (hm k (by simp))) s hb n1 hpk b h1 (fun h => hbn (List.mem_append_left _ h))
         have hbl : b ∉ RT.tidL S l := fun h => n3 b h1 b h rfl
         refine ⟨(s2.far b hbl g2).trans g1, fun e => ?_⟩
         rcases s2.ptin b e with h2 | h2
         ·exact hbl (s2.sub b h2)
         ·exact g2 h2
        ·exact ih2 (fun y hy => hm y (by simp [hy])) (run S s k).1 b1 n2 hp1 b h1 (fun h => hbn (List.mem_append_right _ h))
      have hs1 := snd_ent (S.kind d) s (kind_cases S d)
      have hp1 : ∀ p, (s.ent (S.kind d)).pt = some p → p ∉ RT.tidL S ks := fun p e => by
       rcases hs1.ptin p e with h | h
       ·cases h
       ·exact hp p h
      obtain ⟨g1, g2⟩ := hL ks (fun k hk => hk) (s.ent (S.kind d)) (ent_byt hb _) hn hp1 b hbm hbn'
      have hs2 := snd_ent (S.kind d) (runL S (s.ent (S.kind d)) ks).1 (kind_cases S d)
      refine ⟨(hs2.far b (by simp) g2).trans g1, fun e => ?_⟩
      rcases hs2.ptin b e with h2 | h2
      ·cases h2
      ·exact g2 h2
    ·have h4 : ty = 4 := by
      rcases hok.2 with e | e | e
      ·exact absurd e h1
      ·exact absurd e h3
      ·exact e
     subst h4
     have ht : RT.tid S (.node i 4 a d at_ ks) = [] := by rw [RT.tid, if_neg (by decide), if_neg (by simp)]
     rw [ht] at hbm
     cases hbm
end Go.Proofs.Ytmfjbljdbkmkgaa.Dom

/- White space collapsed as the reference does it is what collapse does, empty texts aside. Plain facts. -/
namespace Go.Proofs.Ytmfjbljdbkmkgaa.Dom
open Go.RowKit Go.Proofs.YtmfjbljdbkmkgaaW.PrintWords Go.Proofs.YtmfjbljdbkmkgaaW.PrintLast Go.Proofs.YtmfjbljdbkmkgaaW.PrintMore Go.Proofs.Ytmfjbljdbkmkgaa.PDom Go.Proofs.Ytmfjbljdbkmkgaa.Txt Go.Proofs.Ytmfjbljdbkmkgaa.Blank
set_option linter.unusedVariables false
set_option linter.unusedSimpArgs false

theorem list_gone (S : Srt) (l : List RT) : (∀ k ∈ l, RT.All okN k) → ∀ s : SR, (∀ b, Byt (s.st b)) → (RT.tidL S l).Nodup → (∀ p, s.pt = some p → p ∉ RT.tidL S l) → ∀ b ∈ RT.tidL S l, b ∉ RT.tidL S (runL S s l).2 → (runL S s l).1.st b = [] ∧ (runL S s l).1.pt ≠ some b := by
 induction l with
 | nil => intro _ s _ _ _ b hm; cases hm
 | cons k l ih2 =>
  intro hall s hb hn hp b hbm hbn
  have hn' : (k.tid S ++ RT.tidL S l).Nodup := hn
  obtain ⟨n1, n2, n3⟩ := List.nodup_append.1 hn'
  have hpk : ∀ p, s.pt = some p → p ∉ k.tid S := fun p e hm2 => hp p e (List.mem_append_left _ hm2)
  obtain ⟨b1, _, s1⟩ := node_sound S k (hall k (by simp)) s hb n1 hpk
  have hp1 : ∀ p, (run S s k).1.pt = some p → p ∉ RT.tidL S l := fun p e hm2 => by
   rcases s1.ptin p e with h1 | h1
   ·exact n3 p (s1.sub p h1) p hm2 rfl
   ·exact hp p h1 (List.mem_append_right _ hm2)
  obtain ⟨_, _, s2⟩ := list_sound S l (fun y hy => node_sound S y (hall y (by simp [hy]))) (run S s k).1 b1 n2 hp1
  rw [runL] at hbn ⊢
  rw [tidL_append] at hbn
  rcases List.mem_append.1 (show b ∈ k.tid S ++ RT.tidL S l from hbm) with h1 | h1
  ·obtain ⟨g1, g2⟩ := run_gone S k (hall k (by simp)) s hb n1 hpk b h1 (fun h => hbn (List.mem_append_left _ h))
   have hbl : b ∉ RT.tidL S l := fun h => n3 b h1 b h rfl
   refine ⟨(s2.far b hbl g2).trans g1, fun e => ?_⟩
   rcases s2.ptin b e with h2 | h2
   ·exact hbl (s2.sub b h2)
   ·exact g2 h2
  ·exact ih2 (fun y hy => hall y (by simp [hy])) (run S s k).1 b1 n2 hp1 b h1 (fun h => hbn (List.mem_append_right _ h))
theorem full_elem (n : ByteArray) (as_ : List At) (K : List T) (l : List T) : fullTL (⟨0, n, ⟨#[]⟩, as_, K⟩ :: l) = ⟨0, n, ⟨#[]⟩, as_, fullTL K⟩ :: fullTL l := by
 rw [fullTL, if_neg (by unfold emptyTx; simp), fullT]
theorem toT_elem (i : Nat) (a : Int) (d : ByteArray) (at_ : List (ByteArray × ByteArray)) (ks : List RT) : (RT.node i 3 a d at_ ks).toT = ⟨0, d, ⟨#[]⟩, at_.map (fun a => (⟨a.1, a.2⟩ : At)), RT.toTL ks⟩ := by rw [RT.toT, if_pos rfl]
theorem dat_elem {S : Srt} {d : ByteArray} (i : Nat) (a : Int) (at_ : List (ByteArray × ByteArray)) (h : ((3 : Int) == 3 && !inL S.pr d) = true) {τ : Nat → List Int} {ks : List RT} : (RT.node i 3 a d at_ ks).dat S τ = .node i 3 a d at_ (RT.datL S τ ks) := by rw [RT.dat, if_neg (by decide), if_pos h]
/-- Taking out what is empty changes nothing but that. -/
theorem rm_full (S : Srt) (q : Nat → Bool) (τ : Nat → List Int) (r : RT) : (∀ b ∈ r.tid S, q b = true → τ b = []) → fullTL (RT.toTL (RT.datL S τ (r.rm S q))) = fullTL [(r.dat S τ).toT] := by
 induction r using RT.induct with
 | h i ty a d at_ ks ih =>
  intro h
  rw [RT.tid] at h
  rw [RT.rm]
  by_cases h1 : ty = 1
  ·subst h1
   rw [if_pos rfl] at h ⊢
   by_cases hq : q i = true
   ·rw [if_pos hq, full_skip (emp_text i a d at_ ks S τ (h i (by simp) hq))]
    rfl
   ·rw [if_neg hq]
    rfl
  ·rw [if_neg h1] at h ⊢
   by_cases h2 : (ty == 3 && !inL S.pr d) = true
   ·rw [if_pos h2] at h ⊢
    have h3 : ty = 3 := by rw [Bool.and_eq_true] at h2; exact eq_of_beq h2.1
    subst h3
    have hL : ∀ l : List RT, (∀ k ∈ l, k ∈ ks) → fullTL (RT.toTL (RT.datL S τ (RT.rmL S q l))) = fullTL (RT.toTL (RT.datL S τ l)) := by
     intro l
     induction l with
     | nil => intro _; rfl
     | cons k l ih2 =>
      intro hm
      rw [RT.rmL, datL_append, toTL_append, fullTL_append, ih k (hm k (by simp)) (fun b hb => h b (mem_tidL.2 ⟨k, hm k (by simp), hb⟩)), ih2 (fun y hy => hm y (by simp [hy])), RT.datL, RT.toTL, ← fullTL_append]
      rfl
    rw [RT.datL, RT.datL, dat_elem _ _ _ h2, dat_elem _ _ _ h2, RT.toTL, RT.toTL, toT_elem, toT_elem, full_elem, full_elem, hL ks (fun k hk => hk)]
   ·rw [if_neg h2]
    rfl
theorem rmL_full (S : Srt) (q : Nat → Bool) (τ : Nat → List Int) (l : List RT) (h : ∀ b ∈ RT.tidL S l, q b = true → τ b = []) : fullTL (RT.toTL (RT.datL S τ (RT.rmL S q l))) = fullTL (RT.toTL (RT.datL S τ l)) := by
 induction l with
 | nil => rfl
 | cons k l ih =>
  rw [RT.rmL, datL_append, toTL_append, fullTL_append, rm_full S q τ k (fun b hb => h b (List.mem_append_left _ hb)), ih (fun b hb => h b (List.mem_append_right _ hb)), RT.datL, RT.toTL, ← fullTL_append]
  rfl
theorem run_sub (S : Srt) (r : RT) : ∀ s, ∀ b ∈ RT.tidL S (run S s r).2, b ∈ r.tid S := by
 induction r using RT.induct with
 | h i ty a d at_ ks ih =>
  intro s b hb
  have one : ∀ r : RT, RT.tidL S [r] = r.tid S := fun r => by rw [RT.tidL, RT.tidL, List.append_nil]
  rw [run] at hb
  by_cases h1 : ty = 1
  ·rw [if_pos h1] at hb
   have hb' : b ∈ RT.tidL S (if (s.ct i).isEmpty = true then [] else [.node i ty a d at_ ks]) := hb
   split at hb'
   ·cases hb'
   ·rw [one] at hb'; exact hb'
  ·rw [if_neg h1] at hb
   by_cases h3 : ty = 3
   ·rw [if_pos h3] at hb
    by_cases hpr : inL S.pr d = true
    ·rw [if_pos hpr, one] at hb
     exact hb
    ·rw [if_neg hpr, one] at hb
     have hpf : inL S.pr d = false := by simpa using hpr
     have h2 : (ty == 3 && !inL S.pr d) = true := by rw [hpf, h3]; rfl
     rw [RT.tid, if_neg h1, if_pos h2] at hb ⊢
     have hL : ∀ (l : List RT), (∀ k ∈ l, k ∈ ks) → ∀ s, ∀ b ∈ RT.tidL S (runL S s l).2, b ∈ RT.tidL S l := by
      intro l
      induction l with
      | nil => intro _ s b hb; exact hb
      | cons k l ih2 =>
       intro hm s b hb
       rw [runL, tidL_append] at hb
       rcases List.mem_append.1 hb with hb | hb
       ·exact List.mem_append_left _ (ih k (hm k (by simp)) s b hb)
       ·exact List.mem_append_right _ (ih2 (fun y hy => hm y (by simp [hy])) _ b hb)
     exact hL ks (fun k hk => hk) _ b hb
   ·rw [if_neg h3, one] at hb
    exact hb
theorem runL_sub (S : Srt) (l : List RT) : ∀ s, ∀ b ∈ RT.tidL S (runL S s l).2, b ∈ RT.tidL S l := by
 induction l with
 | nil => intro s b hb; exact hb
 | cons k l ih2 =>
  intro s b hb
  rw [runL, tidL_append] at hb
  rcases List.mem_append.1 hb with hb | hb
  ·exact List.mem_append_left _ (run_sub S k s b hb)
  ·exact List.mem_append_right _ (ih2 _ b hb)
theorem run_full (S : Srt) (τ : Nat → List Int) (r : RT) : ∀ s, (∀ b ∈ r.tid S, b ∉ RT.tidL S (run S s r).2 → τ b = []) → (r.tid S).Nodup → fullTL (RT.toTL (RT.datL S τ (run S s r).2)) = fullTL [(r.dat S τ).toT] := by
 induction r using RT.induct with
 | h i ty a d at_ ks ih =>
  intro s h hn
  rw [RT.tid] at h hn
  rw [run] at h ⊢
  by_cases h1 : ty = 1
  ·subst h1
   rw [if_pos rfl] at h ⊢
   rw [if_pos rfl] at h
   show fullTL (RT.toTL (RT.datL S τ (if (s.ct i).isEmpty = true then [] else [.node i 1 a d at_ ks]))) = _
   by_cases he : (s.ct i).isEmpty = true
   ·rw [if_pos he, full_skip (emp_text i a d at_ ks S τ (h i (by simp) (by show i ∉ RT.tidL S (if (s.ct i).isEmpty = true then [] else _); rw [if_pos he]; simp [RT.tidL])))]
    rfl
   ·rw [if_neg he]
    rfl
  ·rw [if_neg h1] at h hn ⊢
   rw [if_neg h1] at h
   by_cases h3 : ty = 3
   ·subst h3
    rw [if_pos rfl] at h ⊢
    by_cases hpr : inL S.pr d = true
    ·rw [if_pos hpr]
     rfl
    ·have hpf : inL S.pr d = false := by simpa using hpr
     have h2 : ((3 : Int) == 3 && !inL S.pr d) = true := by rw [hpf]; rfl
     rw [if_neg hpr] at h ⊢
     rw [if_pos h2] at h hn
     have hL : ∀ (l : List RT), (∀ k ∈ l, k ∈ ks) → ∀ s, (∀ b ∈ RT.tidL S l, b ∉ RT.tidL S (runL S s l).2 → τ b = []) → (RT.tidL S l).Nodup → fullTL (RT.toTL (RT.datL S τ (runL S s l).2)) = fullTL (RT.toTL (RT.datL S τ l)) := by
      intro l
      induction l with
      | nil => intro _ s _ _; rfl
      | cons k l ih2 =>
       intro hm s hh hn
       have hn' : (k.tid S ++ RT.tidL S l).Nodup := hn
       obtain ⟨n1, n2, n3⟩ := List.nodup_append.1 hn'
       have sub1 : ∀ b ∈ RT.tidL S (run S s k).2, b ∈ k.tid S := run_sub S k s
       have sub2 : ∀ b ∈ RT.tidL S (runL S (run S s k).1 l).2, b ∈ RT.tidL S l := runL_sub S l (run S s k).1
       rw [runL] at hh ⊢
       rw [datL_append, toTL_append, fullTL_append, ih k (hm k (by simp)) s (fun b hb hbn => hh b (List.mem_append_left _ hb) (by
        rw [tidL_append]
        intro hc
        rcases List.mem_append.1 hc with hc | hc
        ·exact hbn hc
        ·exact n3 b hb b (sub2 b hc) rfl)) n1, ih2 (fun y hy => hm y (by simp [hy])) (run S s k).1 (fun b hb hbn => hh b (List.mem_append_right _ hb) (by
        rw [tidL_append]
        intro hc
        rcases List.mem_append.1 hc with hc | hc
        ·exact n3 b (sub1 b hc) b hb rfl
        ·exact hbn hc)) n2, RT.datL, RT.toTL, ← fullTL_append]
       rfl
     have hin := hL ks (fun k hk => hk) (s.ent (S.kind d)) (fun b hb hbn => h b hb (by
      rw [RT.tidL, RT.tid, if_neg (by decide), if_pos h2]
      intro hc
      rcases List.mem_append.1 hc with hc | hc
      ·exact hbn hc
      ·cases hc)) hn
     show fullTL (RT.toTL (RT.datL S τ [.node i 3 a d at_ (runL S (s.ent (S.kind d)) ks).2])) = _
     rw [RT.datL, RT.datL, dat_elem _ _ _ h2, dat_elem _ _ _ h2, RT.toTL, RT.toTL, toT_elem, toT_elem, full_elem, full_elem, hin]
   ·rw [if_neg h3]
    rfl
theorem runL_full (S : Srt) (τ : Nat → List Int) (l : List RT) : ∀ s, (∀ b ∈ RT.tidL S l, b ∉ RT.tidL S (runL S s l).2 → τ b = []) → (RT.tidL S l).Nodup → fullTL (RT.toTL (RT.datL S τ (runL S s l).2)) = fullTL (RT.toTL (RT.datL S τ l)) := by
 induction l with
 | nil => intro s _ _; rfl
 | cons k l ih2 =>
  intro s hh hn
  have hn' : (k.tid S ++ RT.tidL S l).Nodup := hn
  obtain ⟨n1, n2, n3⟩ := List.nodup_append.1 hn'
  have sub1 : ∀ b ∈ RT.tidL S (run S s k).2, b ∈ k.tid S := run_sub S k s
  have sub2 : ∀ b ∈ RT.tidL S (runL S (run S s k).1 l).2, b ∈ RT.tidL S l := runL_sub S l (run S s k).1
  rw [runL] at hh ⊢
  rw [datL_append, toTL_append, fullTL_append, run_full S τ k s (fun b hb hbn => hh b (List.mem_append_left _ hb) (by
   rw [tidL_append]
   intro hc
   rcases List.mem_append.1 hc with hc | hc
   ·exact hbn hc
   ·exact n3 b hb b (sub2 b hc) rfl)) n1, ih2 (run S s k).1 (fun b hb hbn => hh b (List.mem_append_right _ hb) (by
   rw [tidL_append]
   intro hc
   rcases List.mem_append.1 hc with hc | hc
   ·exact n3 b (sub1 b hc) b hb rfl
   ·exact hbn hc)) n2, RT.datL, RT.toTL, ← fullTL_append]
  rfl
/-! ### The tree filled again -/
mutual
def rfT (S : Srt) (tx : List ByteArray) : T → T × List ByteArray
 | ⟨k, n, x, as_, ks⟩ => (⟨k, n, x, as_, (rfTL S tx ks).1⟩, (rfTL S tx ks).2)
def rfTL (S : Srt) (tx : List ByteArray) : List T → List T × List ByteArray
 | [] => ([], tx)
 | k :: ks =>
  if k.f0 = 1 then ((if (tx.getD 0 ⟨#[]⟩).toList = [] then [] else [⟨1, ⟨#[]⟩, tx.getD 0 ⟨#[]⟩, [], []⟩]) ++ (rfTL S (tx.drop 1) ks).1, (rfTL S (tx.drop 1) ks).2)
  else if k.f0 = 2 ∨ (k.f0 = 0 ∧ inL S.pr k.f1 = true) then (k :: (rfTL S tx ks).1, (rfTL S tx ks).2)
  else if k.f0 = 0 then ((rfT S tx k).1 :: (rfTL S (rfT S tx k).2 ks).1, (rfTL S (rfT S tx k).2 ks).2)
  else rfTL S tx ks
end
end Go.Proofs.Ytmfjbljdbkmkgaa.Dom

/- Printed by the program extprint.py of this session, out of the kit's print and contracts of this session's own; Lean checks it. -/
namespace Go.Proofs.Ytmfjbljdbkmkgaa.PDom
open Go.RowKit Go.Proofs.YtmfjbljdbkmkgaaW.PrintWords Go.Proofs.YtmfjbljdbkmkgaaW.PrintLast Go.Proofs.YtmfjbljdbkmkgaaW.PrintMore
attribute [local go_sem] max2_int min2_int max_two min_two max_three min_three max_four min_four   -- for this text's walks alone
set_option linter.unusedVariables false
set_option linter.unusedSimpArgs false


/-! ### laws_inlineSort: function 21 -/
def laws_inlineSort.f  : Option (List ByteArray × List ByteArray × List ByteArray) := some ((([(⟨#[100, 105, 118]⟩ : ByteArray), (⟨#[112]⟩ : ByteArray), (⟨#[117, 108]⟩ : ByteArray), (⟨#[108, 105]⟩ : ByteArray), (⟨#[112, 114, 101]⟩ : ByteArray)] : List ByteArray)), (([(⟨#[105, 109, 103]⟩ : ByteArray), (⟨#[98, 114]⟩ : ByteArray)] : List ByteArray)), (([(⟨#[112, 114, 101]⟩ : ByteArray), (⟨#[99, 111, 100, 101]⟩ : ByteArray)] : List ByteArray)))
set_option maxHeartbeats 8000000 in
set_option maxRecDepth 100000 in
theorem laws_inlineSort.calls  (r1 : List ByteArray) (r2 : List ByteArray) (r3 : List ByteArray) (w : World) (h : laws_inlineSort.f  = some (r1, r2, r3)) :
  Calls Try.prog 21 #[] w fun e w' => ∃ v0_ v1_ v2_ : Value, e = .returned (.agg #[v0_, v1_, v2_]) ∧ Kd.R Kd.string 9 w' w.heap.size (fun k_ => some k_ ≠ (v1_ : Value).ownBlock ∧ some k_ ≠ (v2_ : Value).ownBlock) v0_ r1 ∧ Kd.R Kd.string 9 w' w.heap.size (fun k_ => some k_ ≠ (v0_ : Value).ownBlock ∧ some k_ ≠ (v2_ : Value).ownBlock) v1_ r2 ∧ Kd.R Kd.string 9 w' w.heap.size (fun k_ => some k_ ≠ (v0_ : Value).ownBlock ∧ some k_ ≠ (v1_ : Value).ownBlock) v2_ r3 ∧ Below w.heap.size w w' := by
 have hu37 := Try.underlying37
 have HB := Aside0.mk (Below.refl w.heap.size w)
 have H : (some ((([(⟨#[100, 105, 118]⟩ : ByteArray), (⟨#[112]⟩ : ByteArray), (⟨#[117, 108]⟩ : ByteArray), (⟨#[108, 105]⟩ : ByteArray), (⟨#[112, 114, 101]⟩ : ByteArray)] : List ByteArray)), (([(⟨#[105, 109, 103]⟩ : ByteArray), (⟨#[98, 114]⟩ : ByteArray)] : List ByteArray)), (([(⟨#[112, 114, 101]⟩ : ByteArray), (⟨#[99, 111, 100, 101]⟩ : ByteArray)] : List ByteArray)))) = some (r1, r2, r3) := h
 clear h
 obtain ⟨y234, hy234⟩ : ∃ y_ : List ByteArray, y_ = (([(⟨#[100, 105, 118]⟩ : ByteArray), (⟨#[112]⟩ : ByteArray), (⟨#[117, 108]⟩ : ByteArray), (⟨#[108, 105]⟩ : ByteArray), (⟨#[112, 114, 101]⟩ : ByteArray)] : List ByteArray)) := ⟨_, rfl⟩
 replace H : (some (y234, (([(⟨#[105, 109, 103]⟩ : ByteArray), (⟨#[98, 114]⟩ : ByteArray)] : List ByteArray)), (([(⟨#[112, 114, 101]⟩ : ByteArray), (⟨#[99, 111, 100, 101]⟩ : ByteArray)] : List ByteArray)))) = some (r1, r2, r3) := by first | (rw [hy234]; with_reducible exact H) | (have H2_ := (Option.bind_some _ _).symm.trans H; rw [hy234]; with_reducible exact H2_) | (have H2_ := (Option.bind_some _ _).symm.trans H; with_reducible exact H2_) | with_reducible exact H | (rw [hy234]; exact H) | exact H
 have Ny234 := Aside0.mk hy234
 clear hy234
 obtain ⟨y237, hy237⟩ : ∃ y_ : List ByteArray, y_ = (([(⟨#[105, 109, 103]⟩ : ByteArray), (⟨#[98, 114]⟩ : ByteArray)] : List ByteArray)) := ⟨_, rfl⟩
 replace H : (some (y234, y237, (([(⟨#[112, 114, 101]⟩ : ByteArray), (⟨#[99, 111, 100, 101]⟩ : ByteArray)] : List ByteArray)))) = some (r1, r2, r3) := by first | (rw [hy237]; with_reducible exact H) | (have H2_ := (Option.bind_some _ _).symm.trans H; rw [hy237]; with_reducible exact H2_) | (have H2_ := (Option.bind_some _ _).symm.trans H; with_reducible exact H2_) | with_reducible exact H | (rw [hy237]; exact H) | exact H
 have Ny237 := Aside0.mk hy237
 clear hy237
 obtain ⟨y240, hy240⟩ : ∃ y_ : List ByteArray, y_ = (([(⟨#[112, 114, 101]⟩ : ByteArray), (⟨#[99, 111, 100, 101]⟩ : ByteArray)] : List ByteArray)) := ⟨_, rfl⟩
 replace H : (some (y234, y237, y240)) = some (r1, r2, r3) := by first | (rw [hy240]; with_reducible exact H) | (have H2_ := (Option.bind_some _ _).symm.trans H; rw [hy240]; with_reducible exact H2_) | (have H2_ := (Option.bind_some _ _).symm.trans H; with_reducible exact H2_) | with_reducible exact H | (rw [hy240]; exact H) | exact H
 have Ny240 := Aside0.mk hy240
 clear hy240
 simp only [Option.some.injEq, Prod.mk.injEq] at H
 obtain ⟨rfl, rfl, rfl⟩ := H
 go_enter Try.func21, Try.ntmps21
 go_wp2_with (first | ((with_reducible refine gate_dst (N := 0) rfl ?_); refine box_event ?hg (N := 0) ?hd (cs := #[.slice none 0 0, .slice none 0 0, .slice none 0 0]) (t := 37) ?hr ?_; (case hd => rfl); (case hg => rfl); (case hr => first | (go_simp; done) | (go_simp; rfl)); intro gb233 hg w1 hbox hb; have n0_ := Aside0.mk (below_step (by repeat (first | (with_reducible first | exact HB.out | apply below_alloc | apply pw_below_drewN | apply below_drew1) | exact HB.out)) hb); have n1_ := Aside0.mk (hbox); have n2_ := Aside0.mk ((by rw [hg]; exact (below_size (by repeat (first | (with_reducible first | exact HB.out | apply below_alloc | apply pw_below_drewN | apply below_drew1) | exact HB.out))) : w.heap.size ≤ gb233)); have n3_ := Aside0.mk ((by rw [hg]; exact (below_size (by repeat (first | (with_reducible first | exact HB.out | apply below_alloc | apply pw_below_drewN | apply below_drew1) | exact HB.out))) : w.heap.size ≤ gb233)); clear HB; have HB := n0_; have BK233 := n1_; have GW233 := n2_; have GE233 := n3_; clear n0_ n1_ n2_ n3_; clear hb hbox hg) | ((with_reducible refine gate_dst (N := 1) rfl ?_); refine Kd.R_lit Kd.string _ 9 ?hg (N := 1) ?hd (xs := ([(⟨#[100, 105, 118]⟩ : ByteArray), (⟨#[112]⟩ : ByteArray), (⟨#[117, 108]⟩ : ByteArray), (⟨#[108, 105]⟩ : ByteArray), (⟨#[112, 114, 101]⟩ : ByteArray)] : List ByteArray)) (inner := [.string (⟨#[100, 105, 118]⟩ : ByteArray), .string (⟨#[112]⟩ : ByteArray), .string (⟨#[117, 108]⟩ : ByteArray), .string (⟨#[108, 105]⟩ : ByteArray), .string (⟨#[112, 114, 101]⟩ : ByteArray)]) (ok := fun _ => True) (okp := fun _ => True) ?hr ?hp (fun _ hk => hk) trivial (Below.refl _ _) (Nat.le_refl _) (by simp) ?_; (case hd => rfl); (case hg => rfl); (case hr => first | (go_simp; done) | (go_simp; rfl)); (case hp => exact (Reps.one (show Kd.M Kd.string _ _ _ (⟨#[100, 105, 118]⟩ : ByteArray) [.string (⟨#[100, 105, 118]⟩ : ByteArray)] from rfl) (Reps.one (show Kd.M Kd.string _ _ _ (⟨#[112]⟩ : ByteArray) [.string (⟨#[112]⟩ : ByteArray)] from rfl) (Reps.one (show Kd.M Kd.string _ _ _ (⟨#[117, 108]⟩ : ByteArray) [.string (⟨#[117, 108]⟩ : ByteArray)] from rfl) (Reps.one (show Kd.M Kd.string _ _ _ (⟨#[108, 105]⟩ : ByteArray) [.string (⟨#[108, 105]⟩ : ByteArray)] from rfl) (Reps.one (show Kd.M Kd.string _ _ _ (⟨#[112, 114, 101]⟩ : ByteArray) [.string (⟨#[112, 114, 101]⟩ : ByteArray)] from rfl) (Reps.none _ _))))))); intro v235 w2 ho3 hb hg_ hnew_; clear hg_ hnew_; (first | rw [← Ny234.out] at ho3 | (simp only [Int.reduceToNat] at ho3; rw [← Ny234.out] at ho3)); have n0_ := Aside0.mk (Kd.R_lower ho3 (below_size (by repeat (first | (with_reducible first | exact HB.out | apply below_alloc | apply pw_below_drewN | apply below_drew1 | refine below_set ?_ GE233.out) | exact HB.out)))); have n1_ := Aside0.mk (blk_below (g := gb233) (o := .cells #[.slice none 0 0, .slice none 0 0, .slice none 0 0] 37 (0, 0)) (by (with_reducible repeat (first | refine blk_drewN ?_ _ | refine blk_drew ?_ | refine blk_alloc ?_ _)); exact BK233.out) hb); have n2_ := Aside0.mk (below_step (by repeat (first | (with_reducible first | exact HB.out | apply below_alloc | apply pw_below_drewN | apply below_drew1 | refine below_set ?_ GE233.out) | exact HB.out)) hb); clear BK233; clear HB; have HO236 := n0_; have BK233 := n1_; have HB := n2_; clear n0_ n1_ n2_; clear hb ho3) | ((with_reducible refine gate_dst (N := 2) rfl ?_); refine Kd.R_lit Kd.string _ 9 ?hg (N := 2) ?hd (xs := ([(⟨#[105, 109, 103]⟩ : ByteArray), (⟨#[98, 114]⟩ : ByteArray)] : List ByteArray)) (inner := [.string (⟨#[105, 109, 103]⟩ : ByteArray), .string (⟨#[98, 114]⟩ : ByteArray)]) (ok := fun _ => True) (okp := fun _ => True) ?hr ?hp (fun _ hk => hk) trivial (Below.refl _ _) (Nat.le_refl _) (by simp) ?_; (case hd => rfl); (case hg => rfl); (case hr => first | (go_simp; done) | (go_simp; rfl)); (case hp => exact (Reps.one (show Kd.M Kd.string _ _ _ (⟨#[105, 109, 103]⟩ : ByteArray) [.string (⟨#[105, 109, 103]⟩ : ByteArray)] from rfl) (Reps.one (show Kd.M Kd.string _ _ _ (⟨#[98, 114]⟩ : ByteArray) [.string (⟨#[98, 114]⟩ : ByteArray)] from rfl) (Reps.none _ _)))); intro v238 w4 ho5 hb hg_ hnew_; clear hg_ hnew_; (first | rw [← Ny237.out] at ho5 | (simp only [Int.reduceToNat] at ho5; rw [← Ny237.out] at ho5)); have n0_ := Aside0.mk (Kd.R_elder' (by (with_reducible repeat (first | apply Kd.R_alloc | apply Kd.R_drewN | apply Kd.R_drew)); exact HO236.out) (Kd.R_base ho5) hb); have n1_ := Aside0.mk (Kd.R_lower (Kd.R_new' ho5 (Kd.R_lt (by (with_reducible repeat (first | apply Kd.R_alloc | apply Kd.R_drewN | apply Kd.R_drew)); exact HO236.out))) (below_size (by repeat (first | (with_reducible first | exact HB.out | apply below_alloc | apply pw_below_drewN | apply below_drew1 | refine below_set ?_ GE233.out) | exact HB.out)))); have n2_ := Aside0.mk (blk_below (g := gb233) (o := .cells #[.slice none 0 0, .slice none 0 0, .slice none 0 0] 37 (0, 0)) (by (with_reducible repeat (first | refine blk_drewN ?_ _ | refine blk_drew ?_ | refine blk_alloc ?_ _)); exact BK233.out) hb); have n3_ := Aside0.mk (below_step (by repeat (first | (with_reducible first | exact HB.out | apply below_alloc | apply pw_below_drewN | apply below_drew1 | refine below_set ?_ GE233.out) | exact HB.out)) hb); clear HO236; clear BK233; clear HB; have HO236 := n0_; have HO239 := n1_; have BK233 := n2_; have HB := n3_; clear n0_ n1_ n2_ n3_; clear hb ho5) | ((with_reducible refine gate_dst (N := 3) rfl ?_); refine Kd.R_lit Kd.string _ 9 ?hg (N := 3) ?hd (xs := ([(⟨#[112, 114, 101]⟩ : ByteArray), (⟨#[99, 111, 100, 101]⟩ : ByteArray)] : List ByteArray)) (inner := [.string (⟨#[112, 114, 101]⟩ : ByteArray), .string (⟨#[99, 111, 100, 101]⟩ : ByteArray)]) (ok := fun _ => True) (okp := fun _ => True) ?hr ?hp (fun _ hk => hk) trivial (Below.refl _ _) (Nat.le_refl _) (by simp) ?_; (case hd => rfl); (case hg => rfl); (case hr => first | (go_simp; done) | (go_simp; rfl)); (case hp => exact (Reps.one (show Kd.M Kd.string _ _ _ (⟨#[112, 114, 101]⟩ : ByteArray) [.string (⟨#[112, 114, 101]⟩ : ByteArray)] from rfl) (Reps.one (show Kd.M Kd.string _ _ _ (⟨#[99, 111, 100, 101]⟩ : ByteArray) [.string (⟨#[99, 111, 100, 101]⟩ : ByteArray)] from rfl) (Reps.none _ _)))); intro v241 w6 ho7 hb hg_ hnew_; clear hg_ hnew_; (first | rw [← Ny240.out] at ho7 | (simp only [Int.reduceToNat] at ho7; rw [← Ny240.out] at ho7)); have n0_ := Aside0.mk (Kd.R_elder' (by (with_reducible repeat (first | apply Kd.R_alloc | apply Kd.R_drewN | apply Kd.R_drew)); exact HO236.out) (Kd.R_base ho7) hb); have n1_ := Aside0.mk (Kd.R_elder' (by (with_reducible repeat (first | apply Kd.R_alloc | apply Kd.R_drewN | apply Kd.R_drew)); exact HO239.out) (Kd.R_base ho7) hb); have n2_ := Aside0.mk (Kd.R_lower (Kd.R_new' (Kd.R_new' ho7 (Kd.R_lt (by (with_reducible repeat (first | apply Kd.R_alloc | apply Kd.R_drewN | apply Kd.R_drew)); exact HO236.out))) (Kd.R_lt (by (with_reducible repeat (first | apply Kd.R_alloc | apply Kd.R_drewN | apply Kd.R_drew)); exact HO239.out))) (below_size (by repeat (first | (with_reducible first | exact HB.out | apply below_alloc | apply pw_below_drewN | apply below_drew1 | refine below_set ?_ GE233.out) | exact HB.out)))); have n3_ := Aside0.mk (blk_below (g := gb233) (o := .cells #[.slice none 0 0, .slice none 0 0, .slice none 0 0] 37 (0, 0)) (by (with_reducible repeat (first | refine blk_drewN ?_ _ | refine blk_drew ?_ | refine blk_alloc ?_ _)); exact BK233.out) hb); have n4_ := Aside0.mk (below_step (by repeat (first | (with_reducible first | exact HB.out | apply below_alloc | apply pw_below_drewN | apply below_drew1 | refine below_set ?_ GE233.out) | exact HB.out)) hb); clear HO236; clear HO239; clear BK233; clear HB; have HO236 := n0_; have HO239 := n1_; have HO242 := n2_; have BK233 := n3_; have HB := n4_; clear n0_ n1_ n2_ n3_ n4_; clear hb ho7; obtain ⟨Ao8, co8, eo8⟩ := Kd.R_slice HO242.out; subst eo8; obtain ⟨Ao9, co9, eo9⟩ := Kd.R_slice HO239.out; subst eo9; obtain ⟨Ao10, co10, eo10⟩ := Kd.R_slice HO236.out; subst eo10; have hcz11_0 : w6.cell? ⟨gb233, 0, none⟩ = some (.slice none 0 0) := (blk_cell BK233.out 0).trans rfl; have hcz11_1 : w6.cell? ⟨gb233, 1, none⟩ = some (.slice none 0 0) := (blk_cell BK233.out 1).trans rfl; have hcz11_2 : w6.cell? ⟨gb233, 2, none⟩ = some (.slice none 0 0) := (blk_cell BK233.out 2).trans rfl; have hfz11_0 := blk_frozen BK233.out 0; have hfz11_1 := blk_frozen BK233.out 1; have hfz11_2 := blk_frozen BK233.out 2))
 refine bodyPost_ret (results_cell_row rfl _ _ gb233 37 #[.slice Ao10 y234.length co10, .slice Ao9 y237.length co9, .slice Ao8 y240.length co8] (0, 0) _ rfl (by (with_reducible repeat (first | refine blk_drewN ?_ _ | refine blk_drew ?_ | refine blk_alloc ?_ _)); refine blk_put (cs := #[.slice Ao10 y234.length co10, .slice Ao9 y237.length co9, .slice none 0 0]) ?_ 2 _ rfl; (with_reducible repeat (first | refine blk_drewN ?_ _ | refine blk_drew ?_ | refine blk_alloc ?_ _)); refine blk_put (cs := #[.slice Ao10 y234.length co10, .slice none 0 0, .slice none 0 0]) ?_ 1 _ rfl; (with_reducible repeat (first | refine blk_drewN ?_ _ | refine blk_drew ?_ | refine blk_alloc ?_ _)); refine blk_put (cs := #[.slice none 0 0, .slice none 0 0, .slice none 0 0]) ?_ 0 _ rfl; (with_reducible repeat (first | refine blk_drewN ?_ _ | refine blk_drew ?_ | refine blk_alloc ?_ _)); exact BK233.out) Try.underlying37 rfl (by kernel_rfl)) rfl ?_
 exact ⟨_, _, _, by first | rfl | (simp [errW_none, errW_some] <;> rfl) | (simp [*, errW_none, errW_some] <;> rfl), by (with_reducible repeat (first | apply Kd.R_alloc | apply Kd.R_drewN | apply Kd.R_drew)); exact Kd.R_mono (Kd.R_far (p := ⟨gb233, 2, none⟩) (Kd.R_far (p := ⟨gb233, 1, none⟩) (Kd.R_far (p := ⟨gb233, 0, none⟩) (Kd.R_types HO236.out BK233.out (by decide)) (fun _ hk => hk.2) (.slice Ao10 y234.length co10)) (fun _ hk => hk.2) (.slice Ao9 y237.length co9)) (fun _ hk => hk.2) (.slice Ao8 y240.length co8)) (fun _ hk => ⟨hk.1.1.2, hk.1.2⟩), by (with_reducible repeat (first | apply Kd.R_alloc | apply Kd.R_drewN | apply Kd.R_drew)); exact Kd.R_mono (Kd.R_far (p := ⟨gb233, 2, none⟩) (Kd.R_far (p := ⟨gb233, 1, none⟩) (Kd.R_far (p := ⟨gb233, 0, none⟩) (Kd.R_types HO239.out BK233.out (by decide)) (fun _ hk => hk.2) (.slice Ao10 y234.length co10)) (fun _ hk => hk.2) (.slice Ao9 y237.length co9)) (fun _ hk => hk.2) (.slice Ao8 y240.length co8)) (fun _ hk => ⟨hk.1.1.2, hk.1.2⟩), by (with_reducible repeat (first | apply Kd.R_alloc | apply Kd.R_drewN | apply Kd.R_drew)); exact Kd.R_mono (Kd.R_far (p := ⟨gb233, 2, none⟩) (Kd.R_far (p := ⟨gb233, 1, none⟩) (Kd.R_far (p := ⟨gb233, 0, none⟩) (Kd.R_types HO242.out BK233.out (by decide)) (fun _ hk => hk.2) (.slice Ao10 y234.length co10)) (fun _ hk => hk.2) (.slice Ao9 y237.length co9)) (fun _ hk => hk.2) (.slice Ao8 y240.length co8)) (fun _ hk => ⟨hk.1.1.2, hk.1.2⟩), by repeat (first | (with_reducible first | exact HB.out | apply below_alloc | apply pw_below_drewN | apply below_drew1 | refine below_set ?_ GE233.out) | exact HB.out)⟩

-- NOT PRINTED: function 22 (spec_Full)

-- NOT PRINTED: function 23 (impl_Collapse)

-- NOT PRINTED: function 48 (spec_steps)

-- NOT PRINTED: function 49 (spec_refilled)
/-! ### spec_OneSpace: function 85 -/
def spec_OneSpace.l0 : Nat → ByteArray → List Int → Int → Int → Option (ByteArray)
 | 0, _, _, _, _ => none
 | k + 1, x0, x3, x7, x8 => if x8 < x7 then (if 0 ≤ x8 then (if x8 < (x0.size : Int) then ((spec_Blank.f (bt x0 x8)).bind fun t293 => (if t293 = true then (if x8 = 0 then (if x3.length < 140737488355328 then (spec_OneSpace.l0 k x0 (x3 ++ [32]) x7 (wrap64 (x8 + 1))) else (none)) else (if 0 ≤ (wrap64 (x8 - 1)) then (if (wrap64 (x8 - 1)) < (x0.size : Int) then ((spec_Blank.f (bt x0 (wrap64 (x8 - 1)))).bind fun t297 => (if t297 = true then (spec_OneSpace.l0 k x0 x3 x7 (wrap64 (x8 + 1))) else (if x3.length < 140737488355328 then (spec_OneSpace.l0 k x0 (x3 ++ [32]) x7 (wrap64 (x8 + 1))) else (none)))) else (none)) else (none))) else (if x3.length < 140737488355328 then (spec_OneSpace.l0 k x0 (x3 ++ [bt x0 x8]) x7 (wrap64 (x8 + 1))) else (none)))) else (none)) else (none)) else (some (strOfNums x3))
def spec_OneSpace.f (k : Nat) (a0 : ByteArray) : Option (ByteArray) := spec_OneSpace.l0 k a0 (([] : List Int)) (a0.size : Int) 0
theorem spec_OneSpace.mono_l : ∀ k, (∀ y0 y1 y2 y3, LeO (spec_OneSpace.l0 k y0 y1 y2 y3) (spec_OneSpace.l0 (k + 1) y0 y1 y2 y3))
 | 0 => fun _ _ _ _ r h => by simp [spec_OneSpace.l0] at h
 | k + 1 => by
  have ih0 := spec_OneSpace.mono_l k
  ·intro y0 y1 y2 y3
   unfold spec_OneSpace.l0
   repeat' first
   | (with_reducible exact ih0 _ _ _ _)
   | (with_reducible exact LeO.refl _)
   | (with_reducible exact LeO.none _)
   | (with_reducible refine LeO.ite ?_ ?_)
   | (with_reducible refine LeO.bind ?_ (fun _ => ?_))
   | exact ih0 _ _ _ _
   | exact LeO.none _
   | refine LeO.ite ?_ ?_
   | refine LeO.bind ?_ (fun _ => ?_)
theorem spec_OneSpace.mono : ∀ a0 k, LeO (spec_OneSpace.f k a0) (spec_OneSpace.f (k + 1) a0) := by
 intro a0 k
 have ih0 := spec_OneSpace.mono_l k
 unfold spec_OneSpace.f
 repeat' first
   | (with_reducible exact ih0 _ _ _ _)
   | (with_reducible exact LeO.refl _)
   | (with_reducible exact LeO.none _)
   | (with_reducible refine LeO.ite ?_ ?_)
   | (with_reducible refine LeO.bind ?_ (fun _ => ?_))
   | exact ih0 _ _ _ _
   | exact LeO.none _
   | refine LeO.ite ?_ ?_
   | refine LeO.bind ?_ (fun _ => ?_)
set_option maxHeartbeats 8000000 in
set_option maxRecDepth 100000 in
theorem spec_OneSpace.calls (k : Nat) (a0 : ByteArray) (r : ByteArray) (w : World) (h : spec_OneSpace.f k a0 = some r) :
  Calls Try.prog 85 #[.string a0] w fun e w' => e = .returned (.string r) ∧ Below w.heap.size w w' := by
 have HB := Aside0.mk (Below.refl w.heap.size w)
 have H : (spec_OneSpace.l0 k a0 (([] : List Int)) (a0.size : Int) 0) = some r := h
 clear h
 obtain ⟨y290, hy290⟩ : ∃ y_ : List Int, y_ = (([] : List Int)) := ⟨_, rfl⟩
 replace H : (spec_OneSpace.l0 k a0 y290 (a0.size : Int) 0) = some r := by first | (rw [hy290]; with_reducible exact H) | (have H2_ := (Option.bind_some _ _).symm.trans H; rw [hy290]; with_reducible exact H2_) | (have H2_ := (Option.bind_some _ _).symm.trans H; with_reducible exact H2_) | with_reducible exact H | (rw [hy290]; exact H) | exact H
 have Ny290 := Aside0.mk hy290
 clear hy290
 have H' := Aside0.mk H
 clear H
 go_enter Try.func85, Try.ntmps85
 go_wp2_with (first | ((with_reducible refine gate_dst (N := 5) rfl ?_); refine Kd.R_lit (Kd.int .u8) _ 5 ?hg (N := 5) ?hd (xs := ([] : List Int)) (inner := []) (ok := fun _ => True) (okp := fun _ => True) ?hr ?hp (fun _ hk => hk) trivial (Below.refl _ _) (Nat.le_refl _) (by simp) ?_; (case hd => rfl); (case hg => rfl); (case hr => first | (go_simp; done) | (go_simp; rfl)); (case hp => exact (Reps.none _ _)); intro v291 w2 ho3 hb hg_ hnew_; clear hg_ hnew_; (first | rw [← Ny290.out] at ho3 | (simp only [Int.reduceToNat] at ho3; rw [← Ny290.out] at ho3)); have n0_ := Aside0.mk (Kd.R_lower ho3 (below_size (by repeat (first | (with_reducible first | exact HB.out | apply below_alloc | apply pw_below_drewN | apply below_drew1) | exact HB.out)))); have n1_ := Aside0.mk (below_step (by repeat (first | (with_reducible first | exact HB.out | apply below_alloc | apply pw_below_drewN | apply below_drew1) | exact HB.out)) hb); clear HB; have HO292 := n0_; have HB := n1_; clear n0_ n1_; clear hb ho3))
 go_loopg [3, 8] k (fun kq v3 v8 w' => ∃ (x3_1 : List Int) (x8_1 : Int), v8 = .int .i64 x8_1 ∧ Aside0 (spec_OneSpace.l0 kq a0 x3_1 (a0.size : Int) x8_1 = some r) ∧ Aside0 (kq ≤ k) ∧ Aside0 (Kd.R (Kd.int .u8) 5 w' w.heap.size (fun _ => True) v3 x3_1) ∧ Aside0 (Below w.heap.size w w'))
 case atStart => exact ⟨(y290), (0), (by first | rfl | (simp; done) | (simp [*]; done)), H', ⟨Nat.le_refl _⟩, ⟨by (with_reducible repeat (first | apply Kd.R_alloc | apply Kd.R_drewN | apply Kd.R_drew)); exact HO292.out⟩, ⟨by repeat (first | (with_reducible first | exact HB.out | apply below_alloc | apply pw_below_drewN | apply below_drew1) | exact HB.out)⟩⟩
 case round =>
  clear H'
  try clear p2
  obtain ⟨x3_1, x8_1, rfl, HA, HK1, HO_3, HB⟩ := hrel
  cases gk with
  | zero => exact absurd HA.out (by simp [spec_OneSpace.l0])
  | succ k1 =>
   have H := HA.out
   clear HA
   simp only [spec_OneSpace.l0] at H
   by_cases c4 : x8_1 < (a0.size : Int)
   ·rw [if_pos c4] at H
    have c4b0 : decide (x8_1 < (a0.size : Int)) = true := decide_eq_true c4
    clear c4
    by_cases c5 : 0 ≤ x8_1
    ·rw [if_pos c5] at H
     have c5b0 : decide (0 ≤ x8_1) = true := decide_eq_true c5
     clear c5
     by_cases c6 : x8_1 < (a0.size : Int)
     ·rw [if_pos c6] at H
      have c6b0 : decide (x8_1 < (a0.size : Int)) = true := decide_eq_true c6
      clear c6
      replace H := Option.bind_eq_some_iff.mp H
      obtain ⟨t293, A80, H⟩ := H
      replace H : (if t293 = true then (if x8_1 = 0 then (if x3_1.length < 140737488355328 then (spec_OneSpace.l0 k1 a0 (x3_1 ++ [32]) (a0.size : Int) (wrap64 (x8_1 + 1))) else (none)) else (if 0 ≤ (wrap64 (x8_1 - 1)) then (if (wrap64 (x8_1 - 1)) < (a0.size : Int) then ((spec_Blank.f (bt a0 (wrap64 (x8_1 - 1)))).bind fun t297 => (if t297 = true then (spec_OneSpace.l0 k1 a0 x3_1 (a0.size : Int) (wrap64 (x8_1 + 1))) else (if x3_1.length < 140737488355328 then (spec_OneSpace.l0 k1 a0 (x3_1 ++ [32]) (a0.size : Int) (wrap64 (x8_1 + 1))) else (none)))) else (none)) else (none))) else (if x3_1.length < 140737488355328 then (spec_OneSpace.l0 k1 a0 (x3_1 ++ [bt a0 x8_1]) (a0.size : Int) (wrap64 (x8_1 + 1))) else (none))) = some r := H
      have A8 := Aside0.mk A80
      clear A80
      by_cases c9 : t293 = true
      ·subst c9
       have H1 : (if x8_1 = 0 then (if x3_1.length < 140737488355328 then (spec_OneSpace.l0 k1 a0 (x3_1 ++ [32]) (a0.size : Int) (wrap64 (x8_1 + 1))) else (none)) else (if 0 ≤ (wrap64 (x8_1 - 1)) then (if (wrap64 (x8_1 - 1)) < (a0.size : Int) then ((spec_Blank.f (bt a0 (wrap64 (x8_1 - 1)))).bind fun t297 => (if t297 = true then (spec_OneSpace.l0 k1 a0 x3_1 (a0.size : Int) (wrap64 (x8_1 + 1))) else (if x3_1.length < 140737488355328 then (spec_OneSpace.l0 k1 a0 (x3_1 ++ [32]) (a0.size : Int) (wrap64 (x8_1 + 1))) else (none)))) else (none)) else (none))) = some r := by rw [if_pos rfl] at H; exact H
       clear H
       have H := H1
       clear H1
       by_cases c10 : x8_1 = 0
       ·rw [if_pos c10] at H
        have c10b0 : (x8_1 == 0) = true := beq_iff_eq.mpr c10
        have c10b1 : (x8_1 != 0) = false := bne_eq_false_iff_eq.mpr c10
        clear c10
        by_cases c11 : x3_1.length < 140737488355328
        ·rw [if_pos c11] at H
         have LMc11 := Aside0.mk c11
         clear c11
         obtain ⟨y294, hy294⟩ : ∃ y_ : List Int, y_ = (x3_1 ++ [32]) := ⟨_, rfl⟩
         replace H : (spec_OneSpace.l0 k1 a0 y294 (a0.size : Int) (wrap64 (x8_1 + 1))) = some r := by first | (rw [hy294]; with_reducible exact H) | (have H2_ := (Option.bind_some _ _).symm.trans H; rw [hy294]; with_reducible exact H2_) | (have H2_ := (Option.bind_some _ _).symm.trans H; with_reducible exact H2_) | with_reducible exact H | (rw [hy294]; exact H) | exact H
         have Ny294 := Aside0.mk hy294
         clear hy294
         have H' := Aside0.mk H
         clear H
         have p7 : 0 ≤ (x8_1 : Int) := of_decide_eq_true (by first | (with_reducible assumption) | assumption)
         have q7 : x8_1 < (a0.size : Int) := of_decide_eq_true (by first | (with_reducible assumption) | assumption)
         have hx7 := bt_at a0 x8_1
         replace p7 := eq_true p7
         replace q7 := eq_true q7
         go_wp2_with (first | ((with_reducible refine gate_callee (f := 43) rfl ?_); refine goesL_ (some 14) rfl rfl Try.func43 (by kernel_rfl) rfl #[.int .u8 (bt a0 x8_1)] rfl (by (try simp only [List.map_toArray, List.map_cons, List.map_nil]); first | done | rfl | (simp only [List.length_drop, List.length_take]; rfl)) ?_; (with_reducible refine (spec_Blank.calls (bt a0 x8_1) true _ A8.out).mono ?_); rintro e w' ⟨rfl, ⟨nd, rfl⟩⟩; refine ⟨_, rfl, ?_⟩) | ((with_reducible refine gate_builtin (b := .append) (xs := #[.tmp 32, .tmp 33]) rfl ?_); at_builtin; refine Kd.R_append (Kd.int .u8) (w0 := w) w.heap.size rfl (.tmp 32) (.tmp 33) 58 5 (.int .u8 0) 1 rfl Try.underlying58 info5 rfl (by decide) (by omega) u3 x3_1 32 [.int .u8 32] (fun _ => True) (fun _ => False) rfl rfl ?aP (fun _ hk => hk.elim) ?aF ?aO ?aB ?aS ?aL ?_; (case aP => exact rfl); (case aB => exact (by repeat (first | (with_reducible first | exact HB.out | apply below_alloc | apply pw_below_drewN | apply below_drew1) | exact HB.out))); (case aF => exact (fun _ _ => trivial)); (case aO => exact (by (with_reducible repeat (first | apply Kd.R_alloc | apply Kd.R_drewN | apply Kd.R_drew)); exact HO_3.out)); (case aS => exact (below_size (by repeat (first | (with_reducible first | exact HB.out | apply below_alloc | apply pw_below_drewN | apply below_drew1) | exact HB.out)))); (case aL => have := LMc11.out; omega); intro v295 w12 ho hb hg hat; rw [← Ny294.out] at ho; have n0_ := Aside0.mk (hb); have n1_ := Aside0.mk (ho); clear HB; clear HO_3; have HB := n0_; have HO296 := n1_; clear n0_ n1_; clear ho hb hg hat))
         go_roundg k1
         case measure => have := HK1.out; omega
         case rel => exact ⟨(y294), (wrap64 (x8_1 + 1)), (by first | rfl | (simp; done) | (simp [*]; done)), H', ⟨by have := HK1.out; omega⟩, ⟨by (with_reducible repeat (first | apply Kd.R_alloc | apply Kd.R_drewN | apply Kd.R_drew)); exact HO296.out⟩, ⟨by repeat (first | (with_reducible first | exact HB.out | apply below_alloc | apply pw_below_drewN | apply below_drew1) | exact HB.out)⟩⟩
        ·rw [if_neg c11] at H
         exact absurd H (by simp)
       ·rw [if_neg c10] at H
        have c10b0 : (x8_1 == 0) = false := beq_eq_false_iff_ne.mpr c10
        have c10b1 : (x8_1 != 0) = true := bne_iff_ne.mpr c10
        obtain ⟨ji13, hji13⟩ : ∃ j_ : Int, (wrap64 (x8_1 - 1)) = j_ := ⟨_, rfl⟩
        replace H : (if 0 ≤ (ji13) then (if (ji13) < (a0.size : Int) then ((spec_Blank.f (bt a0 (ji13))).bind fun t297 => (if t297 = true then (spec_OneSpace.l0 k1 a0 x3_1 (a0.size : Int) (wrap64 (x8_1 + 1))) else (if x3_1.length < 140737488355328 then (spec_OneSpace.l0 k1 a0 (x3_1 ++ [32]) (a0.size : Int) (wrap64 (x8_1 + 1))) else (none)))) else (none)) else (none)) = some r := by first | (rw [hji13] at H; exact H) | (simp only [hji13] at H ⊢; exact H)
        (try rw [hji13] at A8)
        have hji13w : (IntKind.i64.wrap (x8_1 - 1)) = ji13 := (i64_w _).trans hji13
        by_cases c14 : 0 ≤ (ji13)
        ·rw [if_pos c14] at H
         have c14b0 : decide (0 ≤ (ji13)) = true := decide_eq_true c14
         clear c14
         by_cases c15 : (ji13) < (a0.size : Int)
         ·rw [if_pos c15] at H
          have c15b0 : decide ((ji13) < (a0.size : Int)) = true := decide_eq_true c15
          clear c15
          replace H := Option.bind_eq_some_iff.mp H
          obtain ⟨t297, A170, H⟩ := H
          replace H : (if t297 = true then (spec_OneSpace.l0 k1 a0 x3_1 (a0.size : Int) (wrap64 (x8_1 + 1))) else (if x3_1.length < 140737488355328 then (spec_OneSpace.l0 k1 a0 (x3_1 ++ [32]) (a0.size : Int) (wrap64 (x8_1 + 1))) else (none))) = some r := H
          have A17 := Aside0.mk A170
          clear A170
          by_cases c18 : t297 = true
          ·subst c18
           have H1 : (spec_OneSpace.l0 k1 a0 x3_1 (a0.size : Int) (wrap64 (x8_1 + 1))) = some r := by rw [if_pos rfl] at H; exact H
           clear H
           have H := H1
           clear H1
           have H' := Aside0.mk H
           clear H
           have p7 : 0 ≤ (x8_1 : Int) := of_decide_eq_true (by first | (with_reducible assumption) | assumption)
           have q7 : x8_1 < (a0.size : Int) := of_decide_eq_true (by first | (with_reducible assumption) | assumption)
           have hx7 := bt_at a0 x8_1
           replace p7 := eq_true p7
           replace q7 := eq_true q7
           go_wp2_with (first | ((with_reducible refine gate_callee (f := 43) rfl ?_); refine goesL_ (some 14) rfl rfl Try.func43 (by kernel_rfl) rfl #[.int .u8 (bt a0 x8_1)] rfl (by (try simp only [List.map_toArray, List.map_cons, List.map_nil]); first | done | rfl | (simp only [List.length_drop, List.length_take]; rfl)) ?_; (with_reducible refine (spec_Blank.calls (bt a0 x8_1) true _ A8.out).mono ?_); rintro e w' ⟨rfl, ⟨nd, rfl⟩⟩; refine ⟨_, rfl, ?_⟩; have p16 : 0 ≤ ((ji13) : Int) := of_decide_eq_true (by first | (with_reducible assumption) | assumption); have q16 : (ji13) < (a0.size : Int) := of_decide_eq_true (by first | (with_reducible assumption) | assumption); have hx16 := bt_at a0 (ji13); replace p16 := eq_true p16; replace q16 := eq_true q16) | (go_at_call 43; (with_reducible refine (spec_Blank.calls (bt a0 (ji13)) true _ A17.out).mono ?_); rintro e w' ⟨rfl, ⟨nd, rfl⟩⟩))
           go_roundg k1
           case measure => have := HK1.out; omega
           case rel => exact ⟨(x3_1), (wrap64 (x8_1 + 1)), (by first | rfl | (simp; done) | (simp [*]; done)), H', ⟨by have := HK1.out; omega⟩, ⟨by (with_reducible repeat (first | apply Kd.R_alloc | apply Kd.R_drewN | apply Kd.R_drew)); exact HO_3.out⟩, ⟨by repeat (first | (with_reducible first | exact HB.out | apply below_alloc | apply pw_below_drewN | apply below_drew1) | exact HB.out)⟩⟩
          ·replace c18 := Bool.eq_false_iff.mpr c18
           subst c18
           have H1 : (if x3_1.length < 140737488355328 then (spec_OneSpace.l0 k1 a0 (x3_1 ++ [32]) (a0.size : Int) (wrap64 (x8_1 + 1))) else (none)) = some r := by rw [if_neg (show ¬ (false = true) by decide)] at H; exact H
           clear H
           have H := H1
           clear H1
           by_cases c19 : x3_1.length < 140737488355328
           ·rw [if_pos c19] at H
            have LMc19 := Aside0.mk c19
            clear c19
            obtain ⟨y298, hy298⟩ : ∃ y_ : List Int, y_ = (x3_1 ++ [32]) := ⟨_, rfl⟩
            replace H : (spec_OneSpace.l0 k1 a0 y298 (a0.size : Int) (wrap64 (x8_1 + 1))) = some r := by first | (rw [hy298]; with_reducible exact H) | (have H2_ := (Option.bind_some _ _).symm.trans H; rw [hy298]; with_reducible exact H2_) | (have H2_ := (Option.bind_some _ _).symm.trans H; with_reducible exact H2_) | with_reducible exact H | (rw [hy298]; exact H) | exact H
            have Ny298 := Aside0.mk hy298
            clear hy298
            have H' := Aside0.mk H
            clear H
            have p7 : 0 ≤ (x8_1 : Int) := of_decide_eq_true (by first | (with_reducible assumption) | assumption)
            have q7 : x8_1 < (a0.size : Int) := of_decide_eq_true (by first | (with_reducible assumption) | assumption)
            have hx7 := bt_at a0 x8_1
            replace p7 := eq_true p7
            replace q7 := eq_true q7
            go_wp2_with (first | ((with_reducible refine gate_callee (f := 43) rfl ?_); refine goesL_ (some 14) rfl rfl Try.func43 (by kernel_rfl) rfl #[.int .u8 (bt a0 x8_1)] rfl (by (try simp only [List.map_toArray, List.map_cons, List.map_nil]); first | done | rfl | (simp only [List.length_drop, List.length_take]; rfl)) ?_; (with_reducible refine (spec_Blank.calls (bt a0 x8_1) true _ A8.out).mono ?_); rintro e w' ⟨rfl, ⟨nd, rfl⟩⟩; refine ⟨_, rfl, ?_⟩; have p16 : 0 ≤ ((ji13) : Int) := of_decide_eq_true (by first | (with_reducible assumption) | assumption); have q16 : (ji13) < (a0.size : Int) := of_decide_eq_true (by first | (with_reducible assumption) | assumption); have hx16 := bt_at a0 (ji13); replace p16 := eq_true p16; replace q16 := eq_true q16) | (go_at_call 43; (with_reducible refine (spec_Blank.calls (bt a0 (ji13)) false _ A17.out).mono ?_); rintro e w' ⟨rfl, ⟨nd, rfl⟩⟩) | ((with_reducible refine gate_builtin (b := .append) (xs := #[.tmp 32, .tmp 33]) rfl ?_); at_builtin; refine Kd.R_append (Kd.int .u8) (w0 := w) w.heap.size rfl (.tmp 32) (.tmp 33) 58 5 (.int .u8 0) 1 rfl Try.underlying58 info5 rfl (by decide) (by omega) u3 x3_1 32 [.int .u8 32] (fun _ => True) (fun _ => False) rfl rfl ?aP (fun _ hk => hk.elim) ?aF ?aO ?aB ?aS ?aL ?_; (case aP => exact rfl); (case aB => exact (by repeat (first | (with_reducible first | exact HB.out | apply below_alloc | apply pw_below_drewN | apply below_drew1) | exact HB.out))); (case aF => exact (fun _ _ => trivial)); (case aO => exact (by (with_reducible repeat (first | apply Kd.R_alloc | apply Kd.R_drewN | apply Kd.R_drew)); exact HO_3.out)); (case aS => exact (below_size (by repeat (first | (with_reducible first | exact HB.out | apply below_alloc | apply pw_below_drewN | apply below_drew1) | exact HB.out)))); (case aL => have := LMc19.out; omega); intro v299 w20 ho hb hg hat; rw [← Ny298.out] at ho; have n0_ := Aside0.mk (hb); have n1_ := Aside0.mk (ho); clear HB; clear HO_3; have HB := n0_; have HO300 := n1_; clear n0_ n1_; clear ho hb hg hat))
            go_roundg k1
            case measure => have := HK1.out; omega
            case rel => exact ⟨(y298), (wrap64 (x8_1 + 1)), (by first | rfl | (simp; done) | (simp [*]; done)), H', ⟨by have := HK1.out; omega⟩, ⟨by (with_reducible repeat (first | apply Kd.R_alloc | apply Kd.R_drewN | apply Kd.R_drew)); exact HO300.out⟩, ⟨by repeat (first | (with_reducible first | exact HB.out | apply below_alloc | apply pw_below_drewN | apply below_drew1) | exact HB.out)⟩⟩
           ·rw [if_neg c19] at H
            exact absurd H (by simp)
         ·rw [if_neg c15] at H
          exact absurd H (by simp)
        ·rw [if_neg c14] at H
         exact absurd H (by simp)
      ·replace c9 := Bool.eq_false_iff.mpr c9
       subst c9
       have H1 : (if x3_1.length < 140737488355328 then (spec_OneSpace.l0 k1 a0 (x3_1 ++ [bt a0 x8_1]) (a0.size : Int) (wrap64 (x8_1 + 1))) else (none)) = some r := by rw [if_neg (show ¬ (false = true) by decide)] at H; exact H
       clear H
       have H := H1
       clear H1
       by_cases c22 : x3_1.length < 140737488355328
       ·rw [if_pos c22] at H
        have LMc22 := Aside0.mk c22
        clear c22
        obtain ⟨y301, hy301⟩ : ∃ y_ : List Int, y_ = (x3_1 ++ [bt a0 x8_1]) := ⟨_, rfl⟩
        replace H : (spec_OneSpace.l0 k1 a0 y301 (a0.size : Int) (wrap64 (x8_1 + 1))) = some r := by first | (rw [hy301]; with_reducible exact H) | (have H2_ := (Option.bind_some _ _).symm.trans H; rw [hy301]; with_reducible exact H2_) | (have H2_ := (Option.bind_some _ _).symm.trans H; with_reducible exact H2_) | with_reducible exact H | (rw [hy301]; exact H) | exact H
        have Ny301 := Aside0.mk hy301
        clear hy301
        have H' := Aside0.mk H
        clear H
        have p7 : 0 ≤ (x8_1 : Int) := of_decide_eq_true (by first | (with_reducible assumption) | assumption)
        have q7 : x8_1 < (a0.size : Int) := of_decide_eq_true (by first | (with_reducible assumption) | assumption)
        have hx7 := bt_at a0 x8_1
        replace p7 := eq_true p7
        replace q7 := eq_true q7
        go_wp2_with (first | ((with_reducible refine gate_callee (f := 43) rfl ?_); refine goesL_ (some 14) rfl rfl Try.func43 (by kernel_rfl) rfl #[.int .u8 (bt a0 x8_1)] rfl (by (try simp only [List.map_toArray, List.map_cons, List.map_nil]); first | done | rfl | (simp only [List.length_drop, List.length_take]; rfl)) ?_; (with_reducible refine (spec_Blank.calls (bt a0 x8_1) false _ A8.out).mono ?_); rintro e w' ⟨rfl, ⟨nd, rfl⟩⟩; refine ⟨_, rfl, ?_⟩; have p21 : 0 ≤ (x8_1 : Int) := of_decide_eq_true (by first | (with_reducible assumption) | assumption); have q21 : x8_1 < (a0.size : Int) := of_decide_eq_true (by first | (with_reducible assumption) | assumption); have hx21 := bt_at a0 x8_1; replace p21 := eq_true p21; replace q21 := eq_true q21) | ((with_reducible refine gate_builtin (b := .append) (xs := #[.tmp 16, .tmp 20]) rfl ?_); at_builtin; refine Kd.R_append (Kd.int .u8) (w0 := w) w.heap.size rfl (.tmp 16) (.tmp 20) 58 5 (.int .u8 0) 1 rfl Try.underlying58 info5 rfl (by decide) (by omega) u3 x3_1 (bt a0 x8_1) [.int .u8 (bt a0 x8_1)] (fun _ => True) (fun _ => False) rfl rfl ?aP (fun _ hk => hk.elim) ?aF ?aO ?aB ?aS ?aL ?_; (case aP => exact rfl); (case aB => exact (by repeat (first | (with_reducible first | exact HB.out | apply below_alloc | apply pw_below_drewN | apply below_drew1) | exact HB.out))); (case aF => exact (fun _ _ => trivial)); (case aO => exact (by (with_reducible repeat (first | apply Kd.R_alloc | apply Kd.R_drewN | apply Kd.R_drew)); exact HO_3.out)); (case aS => exact (below_size (by repeat (first | (with_reducible first | exact HB.out | apply below_alloc | apply pw_below_drewN | apply below_drew1) | exact HB.out)))); (case aL => have := LMc22.out; omega); intro v302 w23 ho hb hg hat; rw [← Ny301.out] at ho; have n0_ := Aside0.mk (hb); have n1_ := Aside0.mk (ho); clear HB; clear HO_3; have HB := n0_; have HO303 := n1_; clear n0_ n1_; clear ho hb hg hat))
        go_roundg k1
        case measure => have := HK1.out; omega
        case rel => exact ⟨(y301), (wrap64 (x8_1 + 1)), (by first | rfl | (simp; done) | (simp [*]; done)), H', ⟨by have := HK1.out; omega⟩, ⟨by (with_reducible repeat (first | apply Kd.R_alloc | apply Kd.R_drewN | apply Kd.R_drew)); exact HO303.out⟩, ⟨by repeat (first | (with_reducible first | exact HB.out | apply below_alloc | apply pw_below_drewN | apply below_drew1) | exact HB.out)⟩⟩
       ·rw [if_neg c22] at H
        exact absurd H (by simp)
     ·rw [if_neg c6] at H
      exact absurd H (by simp)
    ·rw [if_neg c5] at H
     exact absurd H (by simp)
   ·rw [if_neg c4] at H
    have c4b0 : decide (x8_1 < (a0.size : Int)) = false := decide_eq_false c4
    clear c4
    obtain rfl := Option.some.inj H
    have hcv24 := own_string (P := Try.prog) Try.underlying58 Try.underlying5 Try.underlying9 (Kd.own_of_R HO_3.out)
    go_wp2
    go_ret
    exact ⟨by first | rfl | (simp [errW_none, errW_some] <;> rfl) | (simp [*, errW_none, errW_some] <;> rfl), by repeat (first | (with_reducible first | exact HB.out | apply below_alloc | apply pw_below_drewN | apply below_drew1) | exact HB.out)⟩
/-! ### spec_cutBlank: function 86 -/
def spec_cutBlank.f (a0 : ByteArray) : Option (ByteArray) := if a0.toList = ([] : List UInt8) then (some a0) else (if 0 ≤ (wrap64 ((a0.size : Int) - 1)) then (if (wrap64 ((a0.size : Int) - 1)) < (a0.size : Int) then (if (bt a0 (wrap64 ((a0.size : Int) - 1))) = 32 then (if (wrap64 ((a0.size : Int) - 1)) ≤ (a0.size : Int) then (some (a0.extract 0 ((wrap64 ((a0.size : Int) - 1)) : Int).toNat)) else (none)) else (some a0)) else (none)) else (none))
set_option maxHeartbeats 8000000 in
set_option maxRecDepth 100000 in
theorem spec_cutBlank.calls (a0 : ByteArray) (r : ByteArray) (w : World) (h : spec_cutBlank.f a0 = some r) :
  Calls Try.prog 86 #[.string a0] w fun e w' => e = .returned (.string r) ∧ Drawn0 w w' := by
 have H : (if a0.toList = ([] : List UInt8) then (some a0) else (if 0 ≤ (wrap64 ((a0.size : Int) - 1)) then (if (wrap64 ((a0.size : Int) - 1)) < (a0.size : Int) then (if (bt a0 (wrap64 ((a0.size : Int) - 1))) = 32 then (if (wrap64 ((a0.size : Int) - 1)) ≤ (a0.size : Int) then (some (a0.extract 0 ((wrap64 ((a0.size : Int) - 1)) : Int).toNat)) else (none)) else (some a0)) else (none)) else (none))) = some r := h
 clear h
 by_cases c2 : a0.toList = ([] : List UInt8)
 ·rw [if_pos c2] at H
  have c2b0 : (a0.toList == ([] : List UInt8)) = true := beq_iff_eq.mpr c2
  have c2b1 : (a0.toList != ([] : List UInt8)) = false := bne_eq_false_iff_eq.mpr c2
  clear c2
  obtain rfl := Option.some.inj H
  go_enter Try.func86, Try.ntmps86
  go_wp2
  go_ret
  exact ⟨by first | rfl | (simp; done) | (simp [*]; done), by repeat (first | exact Drawn0.refl _ | apply Drawn0.step)⟩
 ·rw [if_neg c2] at H
  have c2b0 : (a0.toList == ([] : List UInt8)) = false := beq_eq_false_iff_ne.mpr c2
  have c2b1 : (a0.toList != ([] : List UInt8)) = true := bne_iff_ne.mpr c2
  obtain ⟨ji3, hji3⟩ : ∃ j_ : Int, (wrap64 ((a0.size : Int) - 1)) = j_ := ⟨_, rfl⟩
  replace H : (if 0 ≤ (ji3) then (if (ji3) < (a0.size : Int) then (if (bt a0 (ji3)) = 32 then (if (ji3) ≤ (a0.size : Int) then (some (a0.extract 0 ((ji3) : Int).toNat)) else (none)) else (some a0)) else (none)) else (none)) = some r := by first | (rw [hji3] at H; exact H) | (simp only [hji3] at H ⊢; exact H)
  have hji3w : (IntKind.i64.wrap ((a0.size : Int) - 1)) = ji3 := (i64_w _).trans hji3
  by_cases c4 : 0 ≤ (ji3)
  ·rw [if_pos c4] at H
   have c4b0 : decide (0 ≤ (ji3)) = true := decide_eq_true c4
   clear c4
   by_cases c5 : (ji3) < (a0.size : Int)
   ·rw [if_pos c5] at H
    have c5b0 : decide ((ji3) < (a0.size : Int)) = true := decide_eq_true c5
    clear c5
    by_cases c7 : (bt a0 (ji3)) = 32
    ·rw [if_pos c7] at H
     have c7b0 : ((bt a0 (ji3)) == 32) = true := beq_iff_eq.mpr c7
     have c7b1 : ((bt a0 (ji3)) != 32) = false := bne_eq_false_iff_eq.mpr c7
     clear c7
     have c8b0 := eq_true (of_decide_eq_true (by first | (with_reducible assumption) | assumption) : 0 ≤ (ji3))
     by_cases c9 : (ji3) ≤ (a0.size : Int)
     ·rw [if_pos c9] at H
      have c9b0 := eq_true c9
      have c9b1 : decide ((ji3) ≤ (a0.size : Int)) = true := decide_eq_true c9
      clear c9
      obtain rfl := Option.some.inj H
      have p6 : 0 ≤ ((ji3) : Int) := of_decide_eq_true (by first | (with_reducible assumption) | assumption)
      have q6 : (ji3) < (a0.size : Int) := of_decide_eq_true (by first | (with_reducible assumption) | assumption)
      have hx6 := bt_at a0 (ji3)
      replace p6 := eq_true p6
      replace q6 := eq_true q6
      go_enter Try.func86, Try.ntmps86
      go_wp2
      go_ret
      exact ⟨by first | rfl | (simp; done) | (simp only [← hji3] <;> (first | rfl | simp)) | (simp [*]; done), by repeat (first | exact Drawn0.refl _ | apply Drawn0.step)⟩
     ·rw [if_neg c9] at H
      exact absurd H (by simp)
    ·rw [if_neg c7] at H
     have c7b0 : ((bt a0 (ji3)) == 32) = false := beq_eq_false_iff_ne.mpr c7
     have c7b1 : ((bt a0 (ji3)) != 32) = true := bne_iff_ne.mpr c7
     obtain rfl := Option.some.inj H
     have p6 : 0 ≤ ((ji3) : Int) := of_decide_eq_true (by first | (with_reducible assumption) | assumption)
     have q6 : (ji3) < (a0.size : Int) := of_decide_eq_true (by first | (with_reducible assumption) | assumption)
     have hx6 := bt_at a0 (ji3)
     replace p6 := eq_true p6
     replace q6 := eq_true q6
     go_enter Try.func86, Try.ntmps86
     go_wp2
     go_ret
     exact ⟨by first | rfl | (simp; done) | (simp only [← hji3] <;> (first | rfl | simp)) | (simp [*]; done), by repeat (first | exact Drawn0.refl _ | apply Drawn0.step)⟩
   ·rw [if_neg c5] at H
    exact absurd H (by simp)
  ·rw [if_neg c4] at H
   exact absurd H (by simp)
end Go.Proofs.Ytmfjbljdbkmkgaa.PDom
