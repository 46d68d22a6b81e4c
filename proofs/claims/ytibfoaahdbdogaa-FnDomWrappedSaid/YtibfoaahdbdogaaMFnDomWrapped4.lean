/- A part of the proof of FnDomWrapped: EDomx8, SibX, AtX, SibN, NbrX, NextP, NodupT, Surg, PtrEq, SurgX, ToldX, Mapa, SurgI, Sur2, Repl, Guard, one behind the other. -/
import Derived.Test.YtibfoaahdbdogaaMFnDomWrapped2
import Derived.Test.YtibfoaahdbdogaaMFnDomWrapped3
import Derived.LaidEqlPtr
import Derived.RegionTactic
import Derived.BigRegion
import Derived.StillTailTactics
import Derived.Deep.DeepMust
import Derived.Tactics2
import Derived.Deep.RegionLaw
import Derived.Deep.DeepCutAuto
import Derived.Test.YtibfoaahdbdogaaMFnDomWrapped1
import Derived.Test.YtibfoaahdbdogaaProg
import Derived.Tactics
import Derived.Defers
import Derived.Recover
import Derived.Laws.Pointers
/- Printed by the program extprint.py of this session, out of the kit's print and contracts of this session's own; Lean checks it. -/
namespace Go.Proofs.Ytibfoaahdbdogaa.PDom
open Go.RowKit Go.Proofs.YtibfoaahdbdogaaW.PrintWords Go.Proofs.YtibfoaahdbdogaaW.PrintLast Go.Proofs.YtibfoaahdbdogaaW.PrintMore
attribute [local go_sem] max2_int min2_int max_two min_two max_three min_three max_four min_four   -- for this text's walks alone
set_option linter.unusedVariables false
set_option linter.unusedSimpArgs false

attribute [local go_sem high] eqA78

/-! ### laws_equal29: function 29 -/
mutual
def laws_equal29.j0 : Nat → Bool → Int → ByteArray → ByteArray → List (S78) → List (S25) → Int → ByteArray → ByteArray → List (S78) → List (S25) → Option (Bool)
  | 0, _, _, _, _, _, _, _, _, _, _, _ => none
  | k + 1, x43, x324000, x324001, x324002, x324003, x324004, x325000, x325001, x325002, x325003, x325004 => if x43 = true then (some false) else (laws_equal29.l0 k (x324003.length : Int) 0 x324000 x324001 x324002 x324003 x324004 x325000 x325001 x325002 x325003 x325004)
def laws_equal29.l0 : Nat → Int → Int → Int → ByteArray → ByteArray → List (S78) → List (S25) → Int → ByteArray → ByteArray → List (S78) → List (S25) → Option (Bool)
  | 0, _, _, _, _, _, _, _, _, _, _, _, _ => none
  | k + 1, x46, x47, x324000, x324001, x324002, x324003, x324004, x325000, x325001, x325002, x325003, x325004 => if x47 < x46 then (if 0 ≤ x47 then (if x47 < (x324003.length : Int) then (if x47 < (x325003.length : Int) then (if (!((((rd_T78 x324003 x47).f0).toList) == (((rd_T78 x325003 x47).f0).toList)) || (!((((rd_T78 x324003 x47).f1).toList) == (((rd_T78 x325003 x47).f1).toList)))) = true then (some false) else (laws_equal29.l0 k x46 (wrap64 (x47 + 1)) x324000 x324001 x324002 x324003 x324004 x325000 x325001 x325002 x325003 x325004)) else (none)) else (none)) else (none)) else (laws_equal29.l1 k (x324004.length : Int) 0 x324000 x324001 x324002 x324003 x324004 x325000 x325001 x325002 x325003 x325004)
def laws_equal29.l1 : Nat → Int → Int → Int → ByteArray → ByteArray → List (S78) → List (S25) → Int → ByteArray → ByteArray → List (S78) → List (S25) → Option (Bool)
  | 0, _, _, _, _, _, _, _, _, _, _, _, _ => none
  | k + 1, x64, x65, x324000, x324001, x324002, x324003, x324004, x325000, x325001, x325002, x325003, x325004 => if x65 < x64 then (if 0 ≤ x65 then (if x65 < (x324004.length : Int) then (if x65 < (x325004.length : Int) then ((laws_equal29.f k ((rd_T25 x324004 x65).f0) ((rd_T25 x324004 x65).f1) ((rd_T25 x324004 x65).f2) ((rd_T25 x324004 x65).f3) ((rd_T25 x324004 x65).f4) ((rd_T25 x325004 x65).f0) ((rd_T25 x325004 x65).f1) ((rd_T25 x325004 x65).f2) ((rd_T25 x325004 x65).f3) ((rd_T25 x325004 x65).f4)).bind fun t329 => (if t329 = true then (laws_equal29.l1 k x64 (wrap64 (x65 + 1)) x324000 x324001 x324002 x324003 x324004 x325000 x325001 x325002 x325003 x325004) else (some false))) else (none)) else (none)) else (none)) else (some true)
def laws_equal29.f : Nat → Int → ByteArray → ByteArray → List (S78) → List (S25) → Int → ByteArray → ByteArray → List (S78) → List (S25) → Option (Bool)
  | 0, _, _, _, _, _, _, _, _, _, _ => none
  | k + 1, a0_0, a0_1, a0_2, l0_3, l0_4, a1_0, a1_1, a1_2, l1_3, l1_4 => if a0_0 = a1_0 then (if a0_1.toList = a1_1.toList then (if a0_2.toList = a1_2.toList then (if (l0_3.length : Int) = (l1_3.length : Int) then (laws_equal29.j0 k ((l0_4.length : Int) != (l1_4.length : Int)) a0_0 a0_1 a0_2 l0_3 l0_4 a1_0 a1_1 a1_2 l1_3 l1_4) else (laws_equal29.j0 k true a0_0 a0_1 a0_2 l0_3 l0_4 a1_0 a1_1 a1_2 l1_3 l1_4)) else (laws_equal29.j0 k true a0_0 a0_1 a0_2 l0_3 l0_4 a1_0 a1_1 a1_2 l1_3 l1_4)) else (laws_equal29.j0 k true a0_0 a0_1 a0_2 l0_3 l0_4 a1_0 a1_1 a1_2 l1_3 l1_4)) else (laws_equal29.j0 k true a0_0 a0_1 a0_2 l0_3 l0_4 a1_0 a1_1 a1_2 l1_3 l1_4)
end
theorem laws_equal29.mono_l : ∀ k, (∀ y0 y1 y2 y3 y4 y5 y6 y7 y8 y9, LeO (laws_equal29.f k y0 y1 y2 y3 y4 y5 y6 y7 y8 y9) (laws_equal29.f (k + 1) y0 y1 y2 y3 y4 y5 y6 y7 y8 y9)) ∧ (∀ y0 y1 y2 y3 y4 y5 y6 y7 y8 y9 y10, LeO (laws_equal29.j0 k y0 y1 y2 y3 y4 y5 y6 y7 y8 y9 y10) (laws_equal29.j0 (k + 1) y0 y1 y2 y3 y4 y5 y6 y7 y8 y9 y10)) ∧ (∀ y0 y1 y2 y3 y4 y5 y6 y7 y8 y9 y10 y11, LeO (laws_equal29.l0 k y0 y1 y2 y3 y4 y5 y6 y7 y8 y9 y10 y11) (laws_equal29.l0 (k + 1) y0 y1 y2 y3 y4 y5 y6 y7 y8 y9 y10 y11)) ∧ (∀ y0 y1 y2 y3 y4 y5 y6 y7 y8 y9 y10 y11, LeO (laws_equal29.l1 k y0 y1 y2 y3 y4 y5 y6 y7 y8 y9 y10 y11) (laws_equal29.l1 (k + 1) y0 y1 y2 y3 y4 y5 y6 y7 y8 y9 y10 y11))
  | 0 => ⟨fun _ _ _ _ _ _ _ _ _ _ r h => by simp [laws_equal29.f] at h, fun _ _ _ _ _ _ _ _ _ _ _ r h => by simp [laws_equal29.j0] at h, fun _ _ _ _ _ _ _ _ _ _ _ _ r h => by simp [laws_equal29.l0] at h, fun _ _ _ _ _ _ _ _ _ _ _ _ r h => by simp [laws_equal29.l1] at h⟩
  | k + 1 => by
    obtain ⟨ih0, ih1, ih2, ih3⟩ := laws_equal29.mono_l k
    refine ⟨?_, ?_, ?_, ?_⟩
    · intro y0 y1 y2 y3 y4 y5 y6 y7 y8 y9
      unfold laws_equal29.f
      repeat' first
      | (with_reducible exact ih0 _ _ _ _ _ _ _ _ _ _)
      | (with_reducible exact ih1 _ _ _ _ _ _ _ _ _ _ _)
      | (with_reducible exact ih2 _ _ _ _ _ _ _ _ _ _ _ _)
      | (with_reducible exact ih3 _ _ _ _ _ _ _ _ _ _ _ _)
      | (with_reducible exact LeO.refl _)
      | (with_reducible exact LeO.none _)
      | (with_reducible refine LeO.ite ?_ ?_)
      | (with_reducible refine LeO.bind ?_ (fun _ => ?_))
      | exact ih0 _ _ _ _ _ _ _ _ _ _
      | exact ih1 _ _ _ _ _ _ _ _ _ _ _
      | exact ih2 _ _ _ _ _ _ _ _ _ _ _ _
      | exact ih3 _ _ _ _ _ _ _ _ _ _ _ _
      | exact LeO.none _
      | refine LeO.ite ?_ ?_
      | refine LeO.bind ?_ (fun _ => ?_)
    · intro y0 y1 y2 y3 y4 y5 y6 y7 y8 y9 y10
      unfold laws_equal29.j0
      repeat' first
      | (with_reducible exact ih0 _ _ _ _ _ _ _ _ _ _)
      | (with_reducible exact ih1 _ _ _ _ _ _ _ _ _ _ _)
      | (with_reducible exact ih2 _ _ _ _ _ _ _ _ _ _ _ _)
      | (with_reducible exact ih3 _ _ _ _ _ _ _ _ _ _ _ _)
      | (with_reducible exact LeO.refl _)
      | (with_reducible exact LeO.none _)
      | (with_reducible refine LeO.ite ?_ ?_)
      | (with_reducible refine LeO.bind ?_ (fun _ => ?_))
      | exact ih0 _ _ _ _ _ _ _ _ _ _
      | exact ih1 _ _ _ _ _ _ _ _ _ _ _
      | exact ih2 _ _ _ _ _ _ _ _ _ _ _ _
      | exact ih3 _ _ _ _ _ _ _ _ _ _ _ _
      | exact LeO.none _
      | refine LeO.ite ?_ ?_
      | refine LeO.bind ?_ (fun _ => ?_)
    · intro y0 y1 y2 y3 y4 y5 y6 y7 y8 y9 y10 y11
      unfold laws_equal29.l0
      repeat' first
      | (with_reducible exact ih0 _ _ _ _ _ _ _ _ _ _)
      | (with_reducible exact ih1 _ _ _ _ _ _ _ _ _ _ _)
      | (with_reducible exact ih2 _ _ _ _ _ _ _ _ _ _ _ _)
      | (with_reducible exact ih3 _ _ _ _ _ _ _ _ _ _ _ _)
      | (with_reducible exact LeO.refl _)
      | (with_reducible exact LeO.none _)
      | (with_reducible refine LeO.ite ?_ ?_)
      | (with_reducible refine LeO.bind ?_ (fun _ => ?_))
      | exact ih0 _ _ _ _ _ _ _ _ _ _
      | exact ih1 _ _ _ _ _ _ _ _ _ _ _
      | exact ih2 _ _ _ _ _ _ _ _ _ _ _ _
      | exact ih3 _ _ _ _ _ _ _ _ _ _ _ _
      | exact LeO.none _
      | refine LeO.ite ?_ ?_
      | refine LeO.bind ?_ (fun _ => ?_)
    · intro y0 y1 y2 y3 y4 y5 y6 y7 y8 y9 y10 y11
      unfold laws_equal29.l1
      repeat' first
      | (with_reducible exact ih0 _ _ _ _ _ _ _ _ _ _)
      | (with_reducible exact ih1 _ _ _ _ _ _ _ _ _ _ _)
      | (with_reducible exact ih2 _ _ _ _ _ _ _ _ _ _ _ _)
      | (with_reducible exact ih3 _ _ _ _ _ _ _ _ _ _ _ _)
      | (with_reducible exact LeO.refl _)
      | (with_reducible exact LeO.none _)
      | (with_reducible refine LeO.ite ?_ ?_)
      | (with_reducible refine LeO.bind ?_ (fun _ => ?_))
      | exact ih0 _ _ _ _ _ _ _ _ _ _
      | exact ih1 _ _ _ _ _ _ _ _ _ _ _
      | exact ih2 _ _ _ _ _ _ _ _ _ _ _ _
      | exact ih3 _ _ _ _ _ _ _ _ _ _ _ _
      | exact LeO.none _
      | refine LeO.ite ?_ ?_
      | refine LeO.bind ?_ (fun _ => ?_)
theorem laws_equal29.mono : ∀ a0 a1 a2 a3 a4 a5 a6 a7 a8 a9 k, LeO (laws_equal29.f k a0 a1 a2 a3 a4 a5 a6 a7 a8 a9) (laws_equal29.f (k + 1) a0 a1 a2 a3 a4 a5 a6 a7 a8 a9) := by
  intro a0 a1 a2 a3 a4 a5 a6 a7 a8 a9 k
  obtain ⟨ih0, ih1, ih2, ih3⟩ := laws_equal29.mono_l k
  exact ih0 a0 a1 a2 a3 a4 a5 a6 a7 a8 a9
def laws_equal29.T6 : Bool × List (List Nat × List Nat) := (true, [([], []), ([0], [0]), ([], []), ([1, 2], [1, 2]), ([3], [3]), ([], []), ([5], [5]), ([], []), ([6, 7], [6, 7]), ([8], [8]), ([4, 9], [4, 9])])
def laws_equal29.B6 : List Nat := [0, 1, 0, 7, 15, 0, 32, 0, 224, 480, 1023]
theorem laws_equal29.tab6 : rtab .any (opsOf Try.f29 6) = laws_equal29.T6 := by kernel_rfl
theorem laws_equal29.bits6 : waitsOk laws_equal29.T6.2 laws_equal29.B6 = true := by kernel_rfl
def laws_equal29.T12 : Bool × List (List Nat × List Nat) := (true, [([], []), ([0], [0]), ([], []), ([1, 2], [1, 2]), ([3], [3]), ([], []), ([5], [5]), ([], []), ([6, 7], [6, 7]), ([8], [8]), ([4, 9], [4, 9]), ([10], [10])])
def laws_equal29.B12 : List Nat := [0, 1, 0, 7, 15, 0, 32, 0, 224, 480, 1023, 2047]
theorem laws_equal29.tab12 : rtab .any (opsOf Try.f29 12) = laws_equal29.T12 := by kernel_rfl
theorem laws_equal29.bits12 : waitsOk laws_equal29.T12.2 laws_equal29.B12 = true := by kernel_rfl
set_option maxHeartbeats 8000000 in
set_option maxRecDepth 100000 in
theorem laws_equal29.calls (k : Nat) : ∀ (a0_0 : Int) (a0_1 : ByteArray) (a0_2 : ByteArray) (A0_3 : Option Addr) (c0_3 : Nat) (l0_3 : List (S78)) (A0_4 : Option Addr) (c0_4 : Nat) (l0_4 : List (S25)) (a1_0 : Int) (a1_1 : ByteArray) (a1_2 : ByteArray) (A1_3 : Option Addr) (c1_3 : Nat) (l1_3 : List (S78)) (A1_4 : Option Addr) (c1_4 : Nat) (l1_4 : List (S25)) (r : Bool) (w : World) (hr0_3 : Kd.C k78 w A0_3 l0_3.length l0_3) (hc0_3 : l0_3.length ≤ c0_3) (hr0_4 : Kd.C k25 w A0_4 l0_4.length l0_4) (hc0_4 : l0_4.length ≤ c0_4) (hr1_3 : Kd.C k78 w A1_3 l1_3.length l1_3) (hc1_3 : l1_3.length ≤ c1_3) (hr1_4 : Kd.C k25 w A1_4 l1_4.length l1_4) (hc1_4 : l1_4.length ≤ c1_4) (h : laws_equal29.f k a0_0 a0_1 a0_2 l0_3 l0_4 a1_0 a1_1 a1_2 l1_3 l1_4 = some r),
    Calls Try.prog 29 #[.agg #[.int .i64 a0_0, .string a0_1, .string a0_2, .slice A0_3 l0_3.length c0_3, .slice A0_4 l0_4.length c0_4], .agg #[.int .i64 a1_0, .string a1_1, .string a1_2, .slice A1_3 l1_3.length c1_3, .slice A1_4 l1_4.length c1_4]] w fun e w' => e = .returned (.bool r) ∧ Below w.heap.size w w' := by
  induction k using Nat.strongRecOn with
  | _ k ih =>
  intro a0_0 a0_1 a0_2 A0_3 c0_3 l0_3 A0_4 c0_4 l0_4 a1_0 a1_1 a1_2 A1_3 c1_3 l1_3 A1_4 c1_4 l1_4 r w hr0_3 hc0_3 hr0_4 hc0_4 hr1_3 hc1_3 hr1_4 hc1_4 h
  cases k with
  | zero => exact absurd h (by simp [laws_equal29.f])
  | succ k =>
  simp only [laws_equal29.f] at h
  have hu25 := Try.underlying25
  have hu78 := Try.underlying78
  have HR0_3 := Aside0.mk hr0_3
  have HC0_3 := Aside0.mk hc0_3
  clear hr0_3 hc0_3
  have HR0_4 := Aside0.mk hr0_4
  have HC0_4 := Aside0.mk hc0_4
  clear hr0_4 hc0_4
  have HR1_3 := Aside0.mk hr1_3
  have HC1_3 := Aside0.mk hc1_3
  clear hr1_3 hc1_3
  have HR1_4 := Aside0.mk hr1_4
  have HC1_4 := Aside0.mk hc1_4
  clear hr1_4 hc1_4
  have HB := Aside0.mk (Below.refl w.heap.size w)
  have H : (if a0_0 = a1_0 then (if a0_1.toList = a1_1.toList then (if a0_2.toList = a1_2.toList then (if (l0_3.length : Int) = (l1_3.length : Int) then (laws_equal29.j0 k ((l0_4.length : Int) != (l1_4.length : Int)) a0_0 a0_1 a0_2 l0_3 l0_4 a1_0 a1_1 a1_2 l1_3 l1_4) else (laws_equal29.j0 k true a0_0 a0_1 a0_2 l0_3 l0_4 a1_0 a1_1 a1_2 l1_3 l1_4)) else (laws_equal29.j0 k true a0_0 a0_1 a0_2 l0_3 l0_4 a1_0 a1_1 a1_2 l1_3 l1_4)) else (laws_equal29.j0 k true a0_0 a0_1 a0_2 l0_3 l0_4 a1_0 a1_1 a1_2 l1_3 l1_4)) else (laws_equal29.j0 k true a0_0 a0_1 a0_2 l0_3 l0_4 a1_0 a1_1 a1_2 l1_3 l1_4)) = some r := h
  clear h
  have HC3 := Aside0.mk H
  clear H
  go_enter Try.func29, Try.ntmps29
  go_upto_region 1 with (first | ((with_reducible refine gate_dst (N := 2) rfl ?_); (try (refine gate_guard (by rfl) ?_; dsimp only)); refine box_event ?hg (N := 2) ?hd (cs := #[.int .i64 a0_0, .string a0_1, .string a0_2, .slice A0_3 l0_3.length c0_3, .slice A0_4 l0_4.length c0_4]) (t := 25) ?hr ?_; (case hd => rfl); (case hg => rfl); (case hr => first | (go_simp; done) | (go_simp; rfl)); intro gb323 hg w4 hbox hb; have n0_ := Aside0.mk (below_step (by repeat (first | (with_reducible first | exact HB.out | apply below_alloc | apply pw_below_drewN | apply below_drew1) | exact HB.out)) hb); have n1_ := Aside0.mk (hbox); have n2_ := Aside0.mk ((by rw [hg]; exact (below_size (by repeat (first | (with_reducible first | exact HB.out | apply below_alloc | apply pw_below_drewN | apply below_drew1) | exact HB.out))) : w.heap.size ≤ gb323)); have n3_ := Aside0.mk ((by rw [hg]; exact (below_size (by repeat (first | (with_reducible first | exact HB.out | apply below_alloc | apply pw_below_drewN | apply below_drew1) | exact HB.out))) : w.heap.size ≤ gb323)); clear HB; have HB := n0_; have BK323 := n1_; have GW323 := n2_; have GE323 := n3_; clear n0_ n1_ n2_ n3_; clear hb hbox hg) | ((with_reducible refine gate_dst (N := 3) rfl ?_); (try (refine gate_guard (by rfl) ?_; dsimp only)); refine box_event ?hg (N := 3) ?hd (cs := #[.int .i64 a1_0, .string a1_1, .string a1_2, .slice A1_3 l1_3.length c1_3, .slice A1_4 l1_4.length c1_4]) (t := 25) ?hr ?_; (case hd => rfl); (case hg => rfl); (case hr => first | (go_simp; done) | (go_simp; rfl)); intro gb324 hg w5 hbox hb; have n0_ := Aside0.mk (blk_below (g := gb323) (o := .cells #[.int .i64 a0_0, .string a0_1, .string a0_2, .slice A0_3 l0_3.length c0_3, .slice A0_4 l0_4.length c0_4] 25 (0, 0)) (by (with_reducible repeat (first | refine blk_drewN ?_ _ | refine blk_drew ?_ | refine blk_alloc ?_ _)); exact BK323.out) hb); have n1_ := Aside0.mk (below_step (by repeat (first | (with_reducible first | exact HB.out | apply below_alloc | apply pw_below_drewN | apply below_drew1 | refine below_set ?_ GE323.out) | exact HB.out)) hb); have n2_ := Aside0.mk (hbox); have n3_ := Aside0.mk ((by rw [hg]; exact (below_size (by repeat (first | (with_reducible first | exact HB.out | apply below_alloc | apply pw_below_drewN | apply below_drew1 | refine below_set ?_ GE323.out) | exact HB.out))) : w.heap.size ≤ gb324)); have n4_ := Aside0.mk ((by rw [hg]; exact (below_size (by repeat (first | (with_reducible first | exact HB.out | apply below_alloc | apply pw_below_drewN | apply below_drew1 | refine below_set ?_ GE323.out) | exact HB.out))) : w.heap.size ≤ gb324)); have n5_ := Aside0.mk ((by rw [hg]; exact Nat.ne_of_lt (blk_lt (g := gb323) (o := .cells #[.int .i64 a0_0, .string a0_1, .string a0_2, .slice A0_3 l0_3.length c0_3, .slice A0_4 l0_4.length c0_4] 25 (0, 0)) (by (with_reducible repeat (first | refine blk_drewN ?_ _ | refine blk_drew ?_ | refine blk_alloc ?_ _)); exact BK323.out)) : gb323 ≠ gb324)); have n6_ := Aside0.mk ((by rw [hg]; exact Nat.ne_of_gt (blk_lt (g := gb323) (o := .cells #[.int .i64 a0_0, .string a0_1, .string a0_2, .slice A0_3 l0_3.length c0_3, .slice A0_4 l0_4.length c0_4] 25 (0, 0)) (by (with_reducible repeat (first | refine blk_drewN ?_ _ | refine blk_drew ?_ | refine blk_alloc ?_ _)); exact BK323.out)) : gb324 ≠ gb323)); clear BK323; clear HB; have BK323 := n0_; have HB := n1_; have BK324 := n2_; have GW324 := n3_; have GE324 := n4_; have NB323_324 := n5_; have NB324_323 := n6_; clear n0_ n1_ n2_ n3_ n4_ n5_ n6_; clear hb hbox hg))
  (try simp only [Act.put, List.setIfInBounds_toArray, List.set_cons_zero, List.set_cons_succ])
  go_cut [43] (fun v43 wc => ∃ (kq : Nat) (x43_2 : Bool), v43 = .bool x43_2 ∧ Aside0 (laws_equal29.j0 kq x43_2 a0_0 a0_1 a0_2 l0_3 l0_4 a1_0 a1_1 a1_2 l1_3 l1_4 = some r) ∧ Aside0 (kq ≤ k) ∧ Aside0 (wc.heap[gb323]? = some (.cells #[.int .i64 a0_0, .string a0_1, .string a0_2, (.slice A0_3 l0_3.length c0_3), (.slice A0_4 l0_4.length c0_4)] 25 (0, 0))) ∧ Aside0 (wc.heap[gb324]? = some (.cells #[.int .i64 a1_0, .string a1_1, .string a1_2, (.slice A1_3 l1_3.length c1_3), (.slice A1_4 l1_4.length c1_4)] 25 (0, 0))) ∧ Aside0 (Below w.heap.size w wc))
  case first =>
    have H := HC3.out
    clear HC3
    by_cases c6 : a0_0 = a1_0
    · rw [if_pos c6] at H
      have c6b0 : (a0_0 == a1_0) = true := beq_iff_eq.mpr c6
      have c6b1 : (a0_0 != a1_0) = false := bne_eq_false_iff_eq.mpr c6
      clear c6
      (first | rw [c6b0] | (simp only [i64_w, i32_w]; rw [c6b0]) | skip)
      by_cases c7 : a0_1.toList = a1_1.toList
      · rw [if_pos c7] at H
        have c7b0 : (a0_1.toList == a1_1.toList) = true := beq_iff_eq.mpr c7
        have c7b1 : (a0_1.toList != a1_1.toList) = false := bne_eq_false_iff_eq.mpr c7
        clear c7
        by_cases c8 : a0_2.toList = a1_2.toList
        · rw [if_pos c8] at H
          have c8b0 : (a0_2.toList == a1_2.toList) = true := beq_iff_eq.mpr c8
          have c8b1 : (a0_2.toList != a1_2.toList) = false := bne_eq_false_iff_eq.mpr c8
          clear c8
          by_cases c9 : (l0_3.length : Int) = (l1_3.length : Int)
          · rw [if_pos c9] at H
            have c9b0 : ((l0_3.length : Int) == (l1_3.length : Int)) = true := beq_iff_eq.mpr c9
            have c9b1 : ((l0_3.length : Int) != (l1_3.length : Int)) = false := bne_eq_false_iff_eq.mpr c9
            have c9b2 : (l0_3.length == l1_3.length) = true := by first | simpa using c9 | (simp at c9 ⊢; omega)
            clear c9
            have H' := Aside0.mk H
            clear H
            have hnb10 := NB323_324.out
            have hnc10 := NB324_323.out
            have hcz11_0 : w5.cell? ⟨gb323, 0, none⟩ = some (.int .i64 a0_0) := (blk_cell BK323.out 0).trans rfl
            have hcz11_1 : w5.cell? ⟨gb323, 1, none⟩ = some (.string a0_1) := (blk_cell BK323.out 1).trans rfl
            have hcz11_2 : w5.cell? ⟨gb323, 2, none⟩ = some (.string a0_2) := (blk_cell BK323.out 2).trans rfl
            have hcz11_3 : w5.cell? ⟨gb323, 3, none⟩ = some (.slice A0_3 l0_3.length c0_3) := (blk_cell BK323.out 3).trans rfl
            have hcz11_4 : w5.cell? ⟨gb323, 4, none⟩ = some (.slice A0_4 l0_4.length c0_4) := (blk_cell BK323.out 4).trans rfl
            have hfz11_0 := blk_frozen BK323.out 0
            have hfz11_1 := blk_frozen BK323.out 1
            have hfz11_2 := blk_frozen BK323.out 2
            have hfz11_3 := blk_frozen BK323.out 3
            have hfz11_4 := blk_frozen BK323.out 4
            have hcz12_0 : w5.cell? ⟨gb324, 0, none⟩ = some (.int .i64 a1_0) := (blk_cell BK324.out 0).trans rfl
            have hcz12_1 : w5.cell? ⟨gb324, 1, none⟩ = some (.string a1_1) := (blk_cell BK324.out 1).trans rfl
            have hcz12_2 : w5.cell? ⟨gb324, 2, none⟩ = some (.string a1_2) := (blk_cell BK324.out 2).trans rfl
            have hcz12_3 : w5.cell? ⟨gb324, 3, none⟩ = some (.slice A1_3 l1_3.length c1_3) := (blk_cell BK324.out 3).trans rfl
            have hcz12_4 : w5.cell? ⟨gb324, 4, none⟩ = some (.slice A1_4 l1_4.length c1_4) := (blk_cell BK324.out 4).trans rfl
            have hfz12_0 := blk_frozen BK324.out 0
            have hfz12_1 := blk_frozen BK324.out 1
            have hfz12_2 := blk_frozen BK324.out 2
            have hfz12_3 := blk_frozen BK324.out 3
            have hfz12_4 := blk_frozen BK324.out 4
            go_wp2
            go_meet
            case rel => exact ⟨_, (((l0_4.length : Int) != (l1_4.length : Int))), (by first | rfl | (simp; done) | (simp [*]; done)), H', ⟨by first | omega | exact Nat.le_refl _⟩, ⟨by (with_reducible repeat (first | refine blk_drewN ?_ _ | refine blk_drew ?_ | refine blk_alloc ?_ _)); exact BK323.out⟩, ⟨by (with_reducible repeat (first | refine blk_drewN ?_ _ | refine blk_drew ?_ | refine blk_alloc ?_ _)); exact BK324.out⟩, ⟨by repeat (first | (with_reducible first | exact HB.out | apply below_alloc | apply pw_below_drewN | apply below_drew1 | refine below_set ?_ GE323.out | refine below_set ?_ GE324.out) | exact HB.out)⟩⟩
          · rw [if_neg c9] at H
            have c9b0 : ((l0_3.length : Int) == (l1_3.length : Int)) = false := beq_eq_false_iff_ne.mpr c9
            have c9b1 : ((l0_3.length : Int) != (l1_3.length : Int)) = true := bne_iff_ne.mpr c9
            have c9b2 : (l0_3.length == l1_3.length) = false := by first | simpa using c9 | (simp at c9 ⊢; omega)
            have H' := Aside0.mk H
            clear H
            have hnb13 := NB323_324.out
            have hnc13 := NB324_323.out
            have hcz14_0 : w5.cell? ⟨gb323, 0, none⟩ = some (.int .i64 a0_0) := (blk_cell BK323.out 0).trans rfl
            have hcz14_1 : w5.cell? ⟨gb323, 1, none⟩ = some (.string a0_1) := (blk_cell BK323.out 1).trans rfl
            have hcz14_2 : w5.cell? ⟨gb323, 2, none⟩ = some (.string a0_2) := (blk_cell BK323.out 2).trans rfl
            have hcz14_3 : w5.cell? ⟨gb323, 3, none⟩ = some (.slice A0_3 l0_3.length c0_3) := (blk_cell BK323.out 3).trans rfl
            have hcz14_4 : w5.cell? ⟨gb323, 4, none⟩ = some (.slice A0_4 l0_4.length c0_4) := (blk_cell BK323.out 4).trans rfl
            have hfz14_0 := blk_frozen BK323.out 0
            have hfz14_1 := blk_frozen BK323.out 1
            have hfz14_2 := blk_frozen BK323.out 2
            have hfz14_3 := blk_frozen BK323.out 3
            have hfz14_4 := blk_frozen BK323.out 4
            have hcz15_0 : w5.cell? ⟨gb324, 0, none⟩ = some (.int .i64 a1_0) := (blk_cell BK324.out 0).trans rfl
            have hcz15_1 : w5.cell? ⟨gb324, 1, none⟩ = some (.string a1_1) := (blk_cell BK324.out 1).trans rfl
            have hcz15_2 : w5.cell? ⟨gb324, 2, none⟩ = some (.string a1_2) := (blk_cell BK324.out 2).trans rfl
            have hcz15_3 : w5.cell? ⟨gb324, 3, none⟩ = some (.slice A1_3 l1_3.length c1_3) := (blk_cell BK324.out 3).trans rfl
            have hcz15_4 : w5.cell? ⟨gb324, 4, none⟩ = some (.slice A1_4 l1_4.length c1_4) := (blk_cell BK324.out 4).trans rfl
            have hfz15_0 := blk_frozen BK324.out 0
            have hfz15_1 := blk_frozen BK324.out 1
            have hfz15_2 := blk_frozen BK324.out 2
            have hfz15_3 := blk_frozen BK324.out 3
            have hfz15_4 := blk_frozen BK324.out 4
            go_wp2
            go_meet
            case rel => exact ⟨_, (true), (by first | rfl | (simp; done) | (simp [*]; done)), H', ⟨by first | omega | exact Nat.le_refl _⟩, ⟨by (with_reducible repeat (first | refine blk_drewN ?_ _ | refine blk_drew ?_ | refine blk_alloc ?_ _)); exact BK323.out⟩, ⟨by (with_reducible repeat (first | refine blk_drewN ?_ _ | refine blk_drew ?_ | refine blk_alloc ?_ _)); exact BK324.out⟩, ⟨by repeat (first | (with_reducible first | exact HB.out | apply below_alloc | apply pw_below_drewN | apply below_drew1 | refine below_set ?_ GE323.out | refine below_set ?_ GE324.out) | exact HB.out)⟩⟩
        · rw [if_neg c8] at H
          have c8b0 : (a0_2.toList == a1_2.toList) = false := beq_eq_false_iff_ne.mpr c8
          have c8b1 : (a0_2.toList != a1_2.toList) = true := bne_iff_ne.mpr c8
          have H' := Aside0.mk H
          clear H
          have hnb16 := NB323_324.out
          have hnc16 := NB324_323.out
          have hcz17_0 : w5.cell? ⟨gb323, 0, none⟩ = some (.int .i64 a0_0) := (blk_cell BK323.out 0).trans rfl
          have hcz17_1 : w5.cell? ⟨gb323, 1, none⟩ = some (.string a0_1) := (blk_cell BK323.out 1).trans rfl
          have hcz17_2 : w5.cell? ⟨gb323, 2, none⟩ = some (.string a0_2) := (blk_cell BK323.out 2).trans rfl
          have hcz17_3 : w5.cell? ⟨gb323, 3, none⟩ = some (.slice A0_3 l0_3.length c0_3) := (blk_cell BK323.out 3).trans rfl
          have hcz17_4 : w5.cell? ⟨gb323, 4, none⟩ = some (.slice A0_4 l0_4.length c0_4) := (blk_cell BK323.out 4).trans rfl
          have hfz17_0 := blk_frozen BK323.out 0
          have hfz17_1 := blk_frozen BK323.out 1
          have hfz17_2 := blk_frozen BK323.out 2
          have hfz17_3 := blk_frozen BK323.out 3
          have hfz17_4 := blk_frozen BK323.out 4
          have hcz18_0 : w5.cell? ⟨gb324, 0, none⟩ = some (.int .i64 a1_0) := (blk_cell BK324.out 0).trans rfl
          have hcz18_1 : w5.cell? ⟨gb324, 1, none⟩ = some (.string a1_1) := (blk_cell BK324.out 1).trans rfl
          have hcz18_2 : w5.cell? ⟨gb324, 2, none⟩ = some (.string a1_2) := (blk_cell BK324.out 2).trans rfl
          have hcz18_3 : w5.cell? ⟨gb324, 3, none⟩ = some (.slice A1_3 l1_3.length c1_3) := (blk_cell BK324.out 3).trans rfl
          have hcz18_4 : w5.cell? ⟨gb324, 4, none⟩ = some (.slice A1_4 l1_4.length c1_4) := (blk_cell BK324.out 4).trans rfl
          have hfz18_0 := blk_frozen BK324.out 0
          have hfz18_1 := blk_frozen BK324.out 1
          have hfz18_2 := blk_frozen BK324.out 2
          have hfz18_3 := blk_frozen BK324.out 3
          have hfz18_4 := blk_frozen BK324.out 4
          go_wp2
          go_meet
          case rel => exact ⟨_, (true), (by first | rfl | (simp; done) | (simp [*]; done)), H', ⟨by first | omega | exact Nat.le_refl _⟩, ⟨by (with_reducible repeat (first | refine blk_drewN ?_ _ | refine blk_drew ?_ | refine blk_alloc ?_ _)); exact BK323.out⟩, ⟨by (with_reducible repeat (first | refine blk_drewN ?_ _ | refine blk_drew ?_ | refine blk_alloc ?_ _)); exact BK324.out⟩, ⟨by repeat (first | (with_reducible first | exact HB.out | apply below_alloc | apply pw_below_drewN | apply below_drew1 | refine below_set ?_ GE323.out | refine below_set ?_ GE324.out) | exact HB.out)⟩⟩
      · rw [if_neg c7] at H
        have c7b0 : (a0_1.toList == a1_1.toList) = false := beq_eq_false_iff_ne.mpr c7
        have c7b1 : (a0_1.toList != a1_1.toList) = true := bne_iff_ne.mpr c7
        have H' := Aside0.mk H
        clear H
        have hnb19 := NB323_324.out
        have hnc19 := NB324_323.out
        have hcz20_0 : w5.cell? ⟨gb323, 0, none⟩ = some (.int .i64 a0_0) := (blk_cell BK323.out 0).trans rfl
        have hcz20_1 : w5.cell? ⟨gb323, 1, none⟩ = some (.string a0_1) := (blk_cell BK323.out 1).trans rfl
        have hcz20_2 : w5.cell? ⟨gb323, 2, none⟩ = some (.string a0_2) := (blk_cell BK323.out 2).trans rfl
        have hcz20_3 : w5.cell? ⟨gb323, 3, none⟩ = some (.slice A0_3 l0_3.length c0_3) := (blk_cell BK323.out 3).trans rfl
        have hcz20_4 : w5.cell? ⟨gb323, 4, none⟩ = some (.slice A0_4 l0_4.length c0_4) := (blk_cell BK323.out 4).trans rfl
        have hfz20_0 := blk_frozen BK323.out 0
        have hfz20_1 := blk_frozen BK323.out 1
        have hfz20_2 := blk_frozen BK323.out 2
        have hfz20_3 := blk_frozen BK323.out 3
        have hfz20_4 := blk_frozen BK323.out 4
        have hcz21_0 : w5.cell? ⟨gb324, 0, none⟩ = some (.int .i64 a1_0) := (blk_cell BK324.out 0).trans rfl
        have hcz21_1 : w5.cell? ⟨gb324, 1, none⟩ = some (.string a1_1) := (blk_cell BK324.out 1).trans rfl
        have hcz21_2 : w5.cell? ⟨gb324, 2, none⟩ = some (.string a1_2) := (blk_cell BK324.out 2).trans rfl
        have hcz21_3 : w5.cell? ⟨gb324, 3, none⟩ = some (.slice A1_3 l1_3.length c1_3) := (blk_cell BK324.out 3).trans rfl
        have hcz21_4 : w5.cell? ⟨gb324, 4, none⟩ = some (.slice A1_4 l1_4.length c1_4) := (blk_cell BK324.out 4).trans rfl
        have hfz21_0 := blk_frozen BK324.out 0
        have hfz21_1 := blk_frozen BK324.out 1
        have hfz21_2 := blk_frozen BK324.out 2
        have hfz21_3 := blk_frozen BK324.out 3
        have hfz21_4 := blk_frozen BK324.out 4
        go_wp2
        go_meet
        case rel => exact ⟨_, (true), (by first | rfl | (simp; done) | (simp [*]; done)), H', ⟨by first | omega | exact Nat.le_refl _⟩, ⟨by (with_reducible repeat (first | refine blk_drewN ?_ _ | refine blk_drew ?_ | refine blk_alloc ?_ _)); exact BK323.out⟩, ⟨by (with_reducible repeat (first | refine blk_drewN ?_ _ | refine blk_drew ?_ | refine blk_alloc ?_ _)); exact BK324.out⟩, ⟨by repeat (first | (with_reducible first | exact HB.out | apply below_alloc | apply pw_below_drewN | apply below_drew1 | refine below_set ?_ GE323.out | refine below_set ?_ GE324.out) | exact HB.out)⟩⟩
    · rw [if_neg c6] at H
      have c6b0 : (a0_0 == a1_0) = false := beq_eq_false_iff_ne.mpr c6
      have c6b1 : (a0_0 != a1_0) = true := bne_iff_ne.mpr c6
      (first | rw [c6b0] | (simp only [i64_w, i32_w]; rw [c6b0]) | skip)
      have H' := Aside0.mk H
      clear H
      have hnb22 := NB323_324.out
      have hnc22 := NB324_323.out
      have hcz23_0 : w5.cell? ⟨gb323, 0, none⟩ = some (.int .i64 a0_0) := (blk_cell BK323.out 0).trans rfl
      have hcz23_1 : w5.cell? ⟨gb323, 1, none⟩ = some (.string a0_1) := (blk_cell BK323.out 1).trans rfl
      have hcz23_2 : w5.cell? ⟨gb323, 2, none⟩ = some (.string a0_2) := (blk_cell BK323.out 2).trans rfl
      have hcz23_3 : w5.cell? ⟨gb323, 3, none⟩ = some (.slice A0_3 l0_3.length c0_3) := (blk_cell BK323.out 3).trans rfl
      have hcz23_4 : w5.cell? ⟨gb323, 4, none⟩ = some (.slice A0_4 l0_4.length c0_4) := (blk_cell BK323.out 4).trans rfl
      have hfz23_0 := blk_frozen BK323.out 0
      have hfz23_1 := blk_frozen BK323.out 1
      have hfz23_2 := blk_frozen BK323.out 2
      have hfz23_3 := blk_frozen BK323.out 3
      have hfz23_4 := blk_frozen BK323.out 4
      have hcz24_0 : w5.cell? ⟨gb324, 0, none⟩ = some (.int .i64 a1_0) := (blk_cell BK324.out 0).trans rfl
      have hcz24_1 : w5.cell? ⟨gb324, 1, none⟩ = some (.string a1_1) := (blk_cell BK324.out 1).trans rfl
      have hcz24_2 : w5.cell? ⟨gb324, 2, none⟩ = some (.string a1_2) := (blk_cell BK324.out 2).trans rfl
      have hcz24_3 : w5.cell? ⟨gb324, 3, none⟩ = some (.slice A1_3 l1_3.length c1_3) := (blk_cell BK324.out 3).trans rfl
      have hcz24_4 : w5.cell? ⟨gb324, 4, none⟩ = some (.slice A1_4 l1_4.length c1_4) := (blk_cell BK324.out 4).trans rfl
      have hfz24_0 := blk_frozen BK324.out 0
      have hfz24_1 := blk_frozen BK324.out 1
      have hfz24_2 := blk_frozen BK324.out 2
      have hfz24_3 := blk_frozen BK324.out 3
      have hfz24_4 := blk_frozen BK324.out 4
      go_wp2
      go_meet
      case rel => exact ⟨_, (true), (by first | rfl | (simp; done) | (simp [*]; done)), H', ⟨by first | omega | exact Nat.le_refl _⟩, ⟨by (with_reducible repeat (first | refine blk_drewN ?_ _ | refine blk_drew ?_ | refine blk_alloc ?_ _)); exact BK323.out⟩, ⟨by (with_reducible repeat (first | refine blk_drewN ?_ _ | refine blk_drew ?_ | refine blk_alloc ?_ _)); exact BK324.out⟩, ⟨by repeat (first | (with_reducible first | exact HB.out | apply below_alloc | apply pw_below_drewN | apply below_drew1 | refine below_set ?_ GE323.out | refine below_set ?_ GE324.out) | exact HB.out)⟩⟩
  case rest =>
    clear HC3
    try clear c1
    try clear c2
    try clear p2
    try clear c6
    try clear c6b0
    try clear c6b1
    try clear c7
    try clear c7b0
    try clear c7b1
    try clear c8
    try clear c8b0
    try clear c8b1
    try clear c9
    try clear c9b0
    try clear c9b1
    try clear c9b2
    try clear c10
    try clear c13
    try clear c16
    try clear c19
    try clear c22
    try clear hcz11_0
    try clear hcz11_1
    try clear hcz11_2
    try clear hcz11_3
    try clear hcz11_4
    try clear hcz12_0
    try clear hcz12_1
    try clear hcz12_2
    try clear hcz12_3
    try clear hcz12_4
    try clear hcz14_0
    try clear hcz14_1
    try clear hcz14_2
    try clear hcz14_3
    try clear hcz14_4
    try clear hcz15_0
    try clear hcz15_1
    try clear hcz15_2
    try clear hcz15_3
    try clear hcz15_4
    try clear hcz17_0
    try clear hcz17_1
    try clear hcz17_2
    try clear hcz17_3
    try clear hcz17_4
    try clear hcz18_0
    try clear hcz18_1
    try clear hcz18_2
    try clear hcz18_3
    try clear hcz18_4
    try clear hcz20_0
    try clear hcz20_1
    try clear hcz20_2
    try clear hcz20_3
    try clear hcz20_4
    try clear hcz21_0
    try clear hcz21_1
    try clear hcz21_2
    try clear hcz21_3
    try clear hcz21_4
    try clear hcz23_0
    try clear hcz23_1
    try clear hcz23_2
    try clear hcz23_3
    try clear hcz23_4
    try clear hcz24_0
    try clear hcz24_1
    try clear hcz24_2
    try clear hcz24_3
    try clear hcz24_4
    try clear hfz11_0
    try clear hfz11_1
    try clear hfz11_2
    try clear hfz11_3
    try clear hfz11_4
    try clear hfz12_0
    try clear hfz12_1
    try clear hfz12_2
    try clear hfz12_3
    try clear hfz12_4
    try clear hfz14_0
    try clear hfz14_1
    try clear hfz14_2
    try clear hfz14_3
    try clear hfz14_4
    try clear hfz15_0
    try clear hfz15_1
    try clear hfz15_2
    try clear hfz15_3
    try clear hfz15_4
    try clear hfz17_0
    try clear hfz17_1
    try clear hfz17_2
    try clear hfz17_3
    try clear hfz17_4
    try clear hfz18_0
    try clear hfz18_1
    try clear hfz18_2
    try clear hfz18_3
    try clear hfz18_4
    try clear hfz20_0
    try clear hfz20_1
    try clear hfz20_2
    try clear hfz20_3
    try clear hfz20_4
    try clear hfz21_0
    try clear hfz21_1
    try clear hfz21_2
    try clear hfz21_3
    try clear hfz21_4
    try clear hfz23_0
    try clear hfz23_1
    try clear hfz23_2
    try clear hfz23_3
    try clear hfz23_4
    try clear hfz24_0
    try clear hfz24_1
    try clear hfz24_2
    try clear hfz24_3
    try clear hfz24_4
    obtain ⟨kq, x43_2, rfl, HA, HJ2, BK323, BK324, HB⟩ := hcut
    cases kq with
    | zero => exact absurd HA.out (by simp [laws_equal29.j0])
    | succ kj2 =>
      have H := HA.out
      clear HA
      simp only [laws_equal29.j0] at H
      by_cases c25 : x43_2 = true
      · subst c25
        have H1 : (some false) = some r := by rw [if_pos rfl] at H; exact H
        clear H
        have H := H1
        clear H1
        obtain rfl := Option.some.inj H
        go_wp2
        go_ret
        exact ⟨by first | rfl | (simp [errW_none, errW_some] <;> rfl) | (simp [*, errW_none, errW_some] <;> rfl), by repeat (first | (with_reducible first | exact HB.out | apply below_alloc | apply pw_below_drewN | apply below_drew1 | refine below_set ?_ GE323.out | refine below_set ?_ GE324.out) | exact HB.out)⟩
      · replace c25 := Bool.eq_false_iff.mpr c25
        subst c25
        have H1 : (laws_equal29.l0 kj2 (l0_3.length : Int) 0 a0_0 a0_1 a0_2 l0_3 l0_4 a1_0 a1_1 a1_2 l1_3 l1_4) = some r := by rw [if_neg (show ¬ (false = true) by decide)] at H; exact H
        clear H
        have H := H1
        clear H1
        have H' := Aside0.mk H
        clear H
        have hnb26 := NB323_324.out
        have hnc26 := NB324_323.out
        have hcz27_0 : wc.cell? ⟨gb323, 0, none⟩ = some (.int .i64 a0_0) := (blk_cell BK323.out 0).trans rfl
        have hcz27_1 : wc.cell? ⟨gb323, 1, none⟩ = some (.string a0_1) := (blk_cell BK323.out 1).trans rfl
        have hcz27_2 : wc.cell? ⟨gb323, 2, none⟩ = some (.string a0_2) := (blk_cell BK323.out 2).trans rfl
        have hcz27_3 : wc.cell? ⟨gb323, 3, none⟩ = some (.slice A0_3 l0_3.length c0_3) := (blk_cell BK323.out 3).trans rfl
        have hcz27_4 : wc.cell? ⟨gb323, 4, none⟩ = some (.slice A0_4 l0_4.length c0_4) := (blk_cell BK323.out 4).trans rfl
        have hfz27_0 := blk_frozen BK323.out 0
        have hfz27_1 := blk_frozen BK323.out 1
        have hfz27_2 := blk_frozen BK323.out 2
        have hfz27_3 := blk_frozen BK323.out 3
        have hfz27_4 := blk_frozen BK323.out 4
        go_wp2
        go_loopg [47] kj2 (fun kq v47 w' => ∃ (x47_2 : Int), v47 = .int .i64 x47_2 ∧ Aside0 (laws_equal29.l0 kq (l0_3.length : Int) x47_2 a0_0 a0_1 a0_2 l0_3 l0_4 a1_0 a1_1 a1_2 l1_3 l1_4 = some r) ∧ Aside0 (kq ≤ kj2) ∧ Aside0 (w'.heap[gb323]? = some (.cells #[.int .i64 a0_0, .string a0_1, .string a0_2, (.slice A0_3 l0_3.length c0_3), (.slice A0_4 l0_4.length c0_4)] 25 (0, 0))) ∧ Aside0 (w'.heap[gb324]? = some (.cells #[.int .i64 a1_0, .string a1_1, .string a1_2, (.slice A1_3 l1_3.length c1_3), (.slice A1_4 l1_4.length c1_4)] 25 (0, 0))) ∧ Aside0 (Below w.heap.size w w'))
        case atStart => exact ⟨(0), (by first | rfl | (simp; done) | (simp [*]; done)), H', ⟨Nat.le_refl _⟩, ⟨by (with_reducible repeat (first | refine blk_drewN ?_ _ | refine blk_drew ?_ | refine blk_alloc ?_ _)); exact BK323.out⟩, ⟨by (with_reducible repeat (first | refine blk_drewN ?_ _ | refine blk_drew ?_ | refine blk_alloc ?_ _)); exact BK324.out⟩, ⟨by repeat (first | (with_reducible first | exact HB.out | apply below_alloc | apply pw_below_drewN | apply below_drew1 | refine below_set ?_ GE323.out | refine below_set ?_ GE324.out) | exact HB.out)⟩⟩
        case round =>
          clear H'
          try clear c1
          try clear c2
          try clear p2
          try clear c6
          try clear c6b0
          try clear c6b1
          try clear c7
          try clear c7b0
          try clear c7b1
          try clear c8
          try clear c8b0
          try clear c8b1
          try clear c9
          try clear c9b0
          try clear c9b1
          try clear c9b2
          try clear c10
          try clear c13
          try clear c16
          try clear c19
          try clear c22
          try clear c25
          try clear c26
          try clear hcz11_0
          try clear hcz11_1
          try clear hcz11_2
          try clear hcz11_3
          try clear hcz11_4
          try clear hcz12_0
          try clear hcz12_1
          try clear hcz12_2
          try clear hcz12_3
          try clear hcz12_4
          try clear hcz14_0
          try clear hcz14_1
          try clear hcz14_2
          try clear hcz14_3
          try clear hcz14_4
          try clear hcz15_0
          try clear hcz15_1
          try clear hcz15_2
          try clear hcz15_3
          try clear hcz15_4
          try clear hcz17_0
          try clear hcz17_1
          try clear hcz17_2
          try clear hcz17_3
          try clear hcz17_4
          try clear hcz18_0
          try clear hcz18_1
          try clear hcz18_2
          try clear hcz18_3
          try clear hcz18_4
          try clear hcz20_0
          try clear hcz20_1
          try clear hcz20_2
          try clear hcz20_3
          try clear hcz20_4
          try clear hcz21_0
          try clear hcz21_1
          try clear hcz21_2
          try clear hcz21_3
          try clear hcz21_4
          try clear hcz23_0
          try clear hcz23_1
          try clear hcz23_2
          try clear hcz23_3
          try clear hcz23_4
          try clear hcz24_0
          try clear hcz24_1
          try clear hcz24_2
          try clear hcz24_3
          try clear hcz24_4
          try clear hcz27_0
          try clear hcz27_1
          try clear hcz27_2
          try clear hcz27_3
          try clear hcz27_4
          try clear hfz11_0
          try clear hfz11_1
          try clear hfz11_2
          try clear hfz11_3
          try clear hfz11_4
          try clear hfz12_0
          try clear hfz12_1
          try clear hfz12_2
          try clear hfz12_3
          try clear hfz12_4
          try clear hfz14_0
          try clear hfz14_1
          try clear hfz14_2
          try clear hfz14_3
          try clear hfz14_4
          try clear hfz15_0
          try clear hfz15_1
          try clear hfz15_2
          try clear hfz15_3
          try clear hfz15_4
          try clear hfz17_0
          try clear hfz17_1
          try clear hfz17_2
          try clear hfz17_3
          try clear hfz17_4
          try clear hfz18_0
          try clear hfz18_1
          try clear hfz18_2
          try clear hfz18_3
          try clear hfz18_4
          try clear hfz20_0
          try clear hfz20_1
          try clear hfz20_2
          try clear hfz20_3
          try clear hfz20_4
          try clear hfz21_0
          try clear hfz21_1
          try clear hfz21_2
          try clear hfz21_3
          try clear hfz21_4
          try clear hfz23_0
          try clear hfz23_1
          try clear hfz23_2
          try clear hfz23_3
          try clear hfz23_4
          try clear hfz24_0
          try clear hfz24_1
          try clear hfz24_2
          try clear hfz24_3
          try clear hfz24_4
          try clear hfz27_0
          try clear hfz27_1
          try clear hfz27_2
          try clear hfz27_3
          try clear hfz27_4
          try clear p2
          obtain ⟨x47_2, rfl, HA, HK2, BK323, BK324, HB⟩ := hrel
          cases gk with
          | zero => exact absurd HA.out (by simp [laws_equal29.l0])
          | succ k2 =>
            have H := HA.out
            clear HA
            simp only [laws_equal29.l0] at H
            by_cases c28 : x47_2 < (l0_3.length : Int)
            · rw [if_pos c28] at H
              have c28b0 : decide (x47_2 < (l0_3.length : Int)) = true := decide_eq_true c28
              clear c28
              by_cases c29 : 0 ≤ x47_2
              · rw [if_pos c29] at H
                have c29b0 : decide (0 ≤ x47_2) = true := decide_eq_true c29
                clear c29
                by_cases c30 : x47_2 < (l0_3.length : Int)
                · rw [if_pos c30] at H
                  have c30b0 : decide (x47_2 < (l0_3.length : Int)) = true := decide_eq_true c30
                  clear c30
                  by_cases c31 : x47_2 < (l1_3.length : Int)
                  · rw [if_pos c31] at H
                    have c31b0 : decide (x47_2 < (l1_3.length : Int)) = true := decide_eq_true c31
                    clear c31
                    by_cases c32 : (!((((rd_T78 l0_3 x47_2).f0).toList) == (((rd_T78 l1_3 x47_2).f0).toList)) || (!((((rd_T78 l0_3 x47_2).f1).toList) == (((rd_T78 l1_3 x47_2).f1).toList)))) = true
                    · rw [if_pos c32] at H
                      have c32b0 : (!((((rd_T78 l0_3 x47_2).f0).toList) == (((rd_T78 l1_3 x47_2).f0).toList)) || (!((((rd_T78 l0_3 x47_2).f1).toList) == (((rd_T78 l1_3 x47_2).f1).toList)))) = true := c32
                      clear c32
                      obtain rfl := Option.some.inj H
                      try go_wp2
                      have n0_ := Aside0.mk (blk_drew BK323.out)
                      have n1_ := Aside0.mk (blk_drew BK324.out)
                      have n2_ := Aside0.mk (below_drew1 HB.out)
                      clear BK323
                      clear BK324
                      clear HB
                      have BK323 := n0_
                      have BK324 := n1_
                      have HB := n2_
                      clear n0_ n1_ n2_
                      have p325 : 0 ≤ (x47_2 : Int) := of_decide_eq_true (by first | (with_reducible assumption) | assumption)
                      have q325 : x47_2 < (l0_3.length : Int) := of_decide_eq_true (by first | (with_reducible assumption) | assumption)
                      obtain ⟨ad325, e325, hx325_0, hx325_1⟩ := at_T78 HR0_3.out x47_2 p325 q325
                      have hw325_1 := hx325_1
                      have hw325_0 := hx325_0
                      cases e325
                      replace hx325_0 := (HB.out.cell (World.block_lt_of_cell? w _ hx325_0)).trans hx325_0
                      replace hx325_1 := (HB.out.cell (World.block_lt_of_cell? w _ hx325_1)).trans hx325_1
                      replace p325 := eq_true p325
                      replace q325 := eq_true q325
                      have p326 : 0 ≤ (x47_2 : Int) := of_decide_eq_true (by first | (with_reducible assumption) | assumption)
                      have q326 : x47_2 < (l1_3.length : Int) := of_decide_eq_true (by first | (with_reducible assumption) | assumption)
                      obtain ⟨ad326, e326, hx326_0, hx326_1⟩ := at_T78 HR1_3.out x47_2 p326 q326
                      have hw326_1 := hx326_1
                      have hw326_0 := hx326_0
                      cases e326
                      replace hx326_0 := (HB.out.cell (World.block_lt_of_cell? w _ hx326_0)).trans hx326_0
                      replace hx326_1 := (HB.out.cell (World.block_lt_of_cell? w _ hx326_1)).trans hx326_1
                      replace p326 := eq_true p326
                      replace q326 := eq_true q326
                      refine start_ (n := 11) (S := fun w' => w'.cell? ⟨gb323, 0, none⟩ = some (.int .i64 a0_0) ∧ w'.cell? ⟨gb323, 1, none⟩ = some (.string a0_1) ∧ w'.cell? ⟨gb323, 2, none⟩ = some (.string a0_2) ∧ w'.cell? ⟨gb323, 3, none⟩ = some (.slice (some ad325) l0_3.length c0_3) ∧ w'.cell? ⟨gb323, 4, none⟩ = some (.slice A0_4 l0_4.length c0_4) ∧ w'.cell? ⟨gb324, 0, none⟩ = some (.int .i64 a1_0) ∧ w'.cell? ⟨gb324, 1, none⟩ = some (.string a1_1) ∧ w'.cell? ⟨gb324, 2, none⟩ = some (.string a1_2) ∧ w'.cell? ⟨gb324, 3, none⟩ = some (.slice (some ad326) l1_3.length c1_3) ∧ w'.cell? ⟨gb324, 4, none⟩ = some (.slice A1_4 l1_4.length c1_4) ∧ w'.cell? (ad325.add ((x47_2).toNat * 2)) = some (.string ((rd_T78 l0_3 x47_2).f0)) ∧ w'.cell? ⟨(ad325.add ((x47_2).toNat * 2)).block, (ad325.add ((x47_2).toNat * 2)).off + 1, none⟩ = some (.string ((rd_T78 l0_3 x47_2).f1)) ∧ w'.cell? (ad326.add ((x47_2).toNat * 2)) = some (.string ((rd_T78 l1_3 x47_2).f0)) ∧ w'.cell? ⟨(ad326.add ((x47_2).toNat * 2)).block, (ad326.add ((x47_2).toNat * 2)).off + 1, none⟩ = some (.string ((rd_T78 l1_3 x47_2).f1))) (ds := []) #[false, false, false, false, false, false, false, false, false, false, false] (by kernel_rfl) rfl rfl ⟨(blk_cell BK323.out 0).trans rfl, (blk_cell BK323.out 1).trans rfl, (blk_cell BK323.out 2).trans rfl, (blk_cell BK323.out 3).trans rfl, (blk_cell BK323.out 4).trans rfl, (blk_cell BK324.out 0).trans rfl, (blk_cell BK324.out 1).trans rfl, (blk_cell BK324.out 2).trans rfl, (blk_cell BK324.out 3).trans rfl, (blk_cell BK324.out 4).trans rfl, ((HB.out.cell (World.block_lt_of_cell? w _ hw325_0)).trans hw325_0), ((HB.out.cell (World.block_lt_of_cell? w _ hw325_1)).trans hw325_1), ((HB.out.cell (World.block_lt_of_cell? w _ hw326_0)).trans hw326_0), ((HB.out.cell (World.block_lt_of_cell? w _ hw326_1)).trans hw326_1)⟩ (fun hHeld => ?_); refine with_tabW laws_equal29.tab6 laws_equal29.bits6 (fun HT_ HW_ => ?_)
                      generalize wr.drew = w33 at BK323 BK324 HB hx325_0 hx325_1 hx326_0 hx326_1 hHeld ⊢
                      refine pure_ (i := 0) (N := some 50) (v := ?_) (a' := ?_) #[true, false, false, false, false, false, false, false, false, false, false] rfl rfl (any_of HT_.out (by kernel_rfl)) (fun _ _ _ h => h) (Or.inl ⟨by rfl, ?_⟩) ?_ ?_
                      rotate_left
                      · intro w'
                        go_simp
                        with_reducible rfl
                      rotate_left
                      · simp only [Act.put, List.setIfInBounds_toArray, List.set_cons_zero, List.set_cons_succ, i64_w, i32_w]
                        rfl
                      refine pure_ (i := 2) (N := some 52) (v := ?_) (a' := ?_) #[true, false, true, false, false, false, false, false, false, false, false] rfl rfl (any_of HT_.out (by kernel_rfl)) (fun _ _ _ h => h) (Or.inl ⟨by rfl, ?_⟩) ?_ ?_
                      rotate_left
                      · intro w'
                        go_simp
                        with_reducible rfl
                      rotate_left
                      · simp only [Act.put, List.setIfInBounds_toArray, List.set_cons_zero, List.set_cons_succ, i64_w, i32_w]
                        rfl
                      refine pure_ (i := 5) (N := some 55) (v := ?_) (a' := ?_) #[true, false, true, false, false, true, false, false, false, false, false] rfl rfl (any_of HT_.out (by kernel_rfl)) (fun _ _ _ h => h) (Or.inl ⟨by rfl, ?_⟩) ?_ ?_
                      rotate_left
                      · intro w'
                        go_simp
                        with_reducible rfl
                      rotate_left
                      · simp only [Act.put, List.setIfInBounds_toArray, List.set_cons_zero, List.set_cons_succ, i64_w, i32_w]
                        rfl
                      refine pure_ (i := 7) (N := some 57) (v := ?_) (a' := ?_) #[true, false, true, false, false, true, false, true, false, false, false] rfl rfl (any_of HT_.out (by kernel_rfl)) (fun _ _ _ h => h) (Or.inl ⟨by rfl, ?_⟩) ?_ ?_
                      rotate_left
                      · intro w'
                        go_simp
                        with_reducible rfl
                      rotate_left
                      · simp only [Act.put, List.setIfInBounds_toArray, List.set_cons_zero, List.set_cons_succ, i64_w, i32_w]
                        rfl
                      refine take_ (i := 1) (N := some 51) (v := ?_) (a' := ?_) #[true, true, true, false, false, true, false, true, false, false, false] rfl rfl (take_ofW HT_.out HW_.out (by kernel_rfl)) (fun _ _ _ h => h) (Or.inl ⟨by rfl, ?_⟩) hHeld ?_ ?_
                      rotate_left
                      · rintro w' ⟨s0, s1, s2, s3, s4, s5, s6, s7, s8, s9, s10, s11, s12, s13⟩
                        go_simp
                        with_reducible rfl
                      rotate_left
                      · simp only [Act.put, List.setIfInBounds_toArray, List.set_cons_zero, List.set_cons_succ, i64_w, i32_w]
                        rfl
                      refine pure_ (i := 3) (N := some 53) (v := ?_) (a' := ?_) #[true, true, true, true, false, true, false, true, false, false, false] rfl rfl (any_of HT_.out (by kernel_rfl)) (fun _ _ _ h => h) (Or.inl ⟨by rfl, ?_⟩) ?_ ?_
                      rotate_left
                      · intro w'
                        go_simp
                        with_reducible rfl
                      rotate_left
                      · simp only [Act.put, List.setIfInBounds_toArray, List.set_cons_zero, List.set_cons_succ, i64_w, i32_w]
                        rfl
                      refine take_ (i := 4) (N := some 54) (v := ?_) (a' := ?_) #[true, true, true, true, true, true, false, true, false, false, false] rfl rfl (take_ofW HT_.out HW_.out (by kernel_rfl)) (fun _ _ _ h => h) (Or.inl ⟨by rfl, ?_⟩) hHeld ?_ ?_
                      rotate_left
                      · rintro w' ⟨s0, s1, s2, s3, s4, s5, s6, s7, s8, s9, s10, s11, s12, s13⟩
                        go_simp
                        with_reducible rfl
                      rotate_left
                      · simp only [Act.put, List.setIfInBounds_toArray, List.set_cons_zero, List.set_cons_succ, i64_w, i32_w]
                        rfl
                      refine take_ (i := 6) (N := some 56) (v := ?_) (a' := ?_) #[true, true, true, true, true, true, true, true, false, false, false] rfl rfl (take_ofW HT_.out HW_.out (by kernel_rfl)) (fun _ _ _ h => h) (Or.inl ⟨by rfl, ?_⟩) hHeld ?_ ?_
                      rotate_left
                      · rintro w' ⟨s0, s1, s2, s3, s4, s5, s6, s7, s8, s9, s10, s11, s12, s13⟩
                        go_simp
                        with_reducible rfl
                      rotate_left
                      · simp only [Act.put, List.setIfInBounds_toArray, List.set_cons_zero, List.set_cons_succ, i64_w, i32_w]
                        rfl
                      refine pure_ (i := 8) (N := some 58) (v := ?_) (a' := ?_) #[true, true, true, true, true, true, true, true, true, false, false] rfl rfl (any_of HT_.out (by kernel_rfl)) (fun _ _ _ h => h) (Or.inl ⟨by rfl, ?_⟩) ?_ ?_
                      rotate_left
                      · intro w'
                        go_simp
                        with_reducible rfl
                      rotate_left
                      · simp only [Act.put, List.setIfInBounds_toArray, List.set_cons_zero, List.set_cons_succ, i64_w, i32_w]
                        rfl
                      refine take_ (i := 9) (N := some 59) (v := ?_) (a' := ?_) #[true, true, true, true, true, true, true, true, true, true, false] rfl rfl (take_ofW HT_.out HW_.out (by kernel_rfl)) (fun _ _ _ h => h) (Or.inl ⟨by rfl, ?_⟩) hHeld ?_ ?_
                      rotate_left
                      · rintro w' ⟨s0, s1, s2, s3, s4, s5, s6, s7, s8, s9, s10, s11, s12, s13⟩
                        go_simp
                        with_reducible rfl
                      rotate_left
                      · simp only [Act.put, List.setIfInBounds_toArray, List.set_cons_zero, List.set_cons_succ, i64_w, i32_w]
                        rfl
                      refine pure_ (i := 10) (N := some 60) (v := ?_) (a' := ?_) #[true, true, true, true, true, true, true, true, true, true, true] rfl rfl (any_of HT_.out (by kernel_rfl)) (fun _ _ _ h => h) (Or.inl ⟨by rfl, ?_⟩) ?_ ?_
                      rotate_left
                      · intro w'
                        go_simp
                        with_reducible rfl
                      rotate_left
                      · simp only [Act.put, List.setIfInBounds_toArray, List.set_cons_zero, List.set_cons_succ, i64_w, i32_w]
                        rfl
                      refine done_ (done_of HT_.out (by kernel_rfl)) ?_
                      try go_wp2
                      go_ret
                      exact ⟨by first | rfl | (simp [errW_none, errW_some] <;> rfl) | (simp [*, errW_none, errW_some] <;> rfl), by repeat (first | (with_reducible first | exact HB.out | apply below_alloc | apply pw_below_drewN | apply below_drew1 | refine below_set ?_ GE323.out | refine below_set ?_ GE324.out) | exact HB.out)⟩
                    · rw [if_neg c32] at H
                      have c32b0 : (!((((rd_T78 l0_3 x47_2).f0).toList) == (((rd_T78 l1_3 x47_2).f0).toList)) || (!((((rd_T78 l0_3 x47_2).f1).toList) == (((rd_T78 l1_3 x47_2).f1).toList)))) = false := by simpa using c32
                      clear c32
                      have H' := Aside0.mk H
                      clear H
                      try go_wp2
                      have n0_ := Aside0.mk (blk_drew BK323.out)
                      have n1_ := Aside0.mk (blk_drew BK324.out)
                      have n2_ := Aside0.mk (below_drew1 HB.out)
                      clear BK323
                      clear BK324
                      clear HB
                      have BK323 := n0_
                      have BK324 := n1_
                      have HB := n2_
                      clear n0_ n1_ n2_
                      have p325 : 0 ≤ (x47_2 : Int) := of_decide_eq_true (by first | (with_reducible assumption) | assumption)
                      have q325 : x47_2 < (l0_3.length : Int) := of_decide_eq_true (by first | (with_reducible assumption) | assumption)
                      obtain ⟨ad325, e325, hx325_0, hx325_1⟩ := at_T78 HR0_3.out x47_2 p325 q325
                      have hw325_1 := hx325_1
                      have hw325_0 := hx325_0
                      cases e325
                      replace hx325_0 := (HB.out.cell (World.block_lt_of_cell? w _ hx325_0)).trans hx325_0
                      replace hx325_1 := (HB.out.cell (World.block_lt_of_cell? w _ hx325_1)).trans hx325_1
                      replace p325 := eq_true p325
                      replace q325 := eq_true q325
                      have p326 : 0 ≤ (x47_2 : Int) := of_decide_eq_true (by first | (with_reducible assumption) | assumption)
                      have q326 : x47_2 < (l1_3.length : Int) := of_decide_eq_true (by first | (with_reducible assumption) | assumption)
                      obtain ⟨ad326, e326, hx326_0, hx326_1⟩ := at_T78 HR1_3.out x47_2 p326 q326
                      have hw326_1 := hx326_1
                      have hw326_0 := hx326_0
                      cases e326
                      replace hx326_0 := (HB.out.cell (World.block_lt_of_cell? w _ hx326_0)).trans hx326_0
                      replace hx326_1 := (HB.out.cell (World.block_lt_of_cell? w _ hx326_1)).trans hx326_1
                      replace p326 := eq_true p326
                      replace q326 := eq_true q326
                      refine start_ (n := 11) (S := fun w' => w'.cell? ⟨gb323, 0, none⟩ = some (.int .i64 a0_0) ∧ w'.cell? ⟨gb323, 1, none⟩ = some (.string a0_1) ∧ w'.cell? ⟨gb323, 2, none⟩ = some (.string a0_2) ∧ w'.cell? ⟨gb323, 3, none⟩ = some (.slice (some ad325) l0_3.length c0_3) ∧ w'.cell? ⟨gb323, 4, none⟩ = some (.slice A0_4 l0_4.length c0_4) ∧ w'.cell? ⟨gb324, 0, none⟩ = some (.int .i64 a1_0) ∧ w'.cell? ⟨gb324, 1, none⟩ = some (.string a1_1) ∧ w'.cell? ⟨gb324, 2, none⟩ = some (.string a1_2) ∧ w'.cell? ⟨gb324, 3, none⟩ = some (.slice (some ad326) l1_3.length c1_3) ∧ w'.cell? ⟨gb324, 4, none⟩ = some (.slice A1_4 l1_4.length c1_4) ∧ w'.cell? (ad325.add ((x47_2).toNat * 2)) = some (.string ((rd_T78 l0_3 x47_2).f0)) ∧ w'.cell? ⟨(ad325.add ((x47_2).toNat * 2)).block, (ad325.add ((x47_2).toNat * 2)).off + 1, none⟩ = some (.string ((rd_T78 l0_3 x47_2).f1)) ∧ w'.cell? (ad326.add ((x47_2).toNat * 2)) = some (.string ((rd_T78 l1_3 x47_2).f0)) ∧ w'.cell? ⟨(ad326.add ((x47_2).toNat * 2)).block, (ad326.add ((x47_2).toNat * 2)).off + 1, none⟩ = some (.string ((rd_T78 l1_3 x47_2).f1))) (ds := []) #[false, false, false, false, false, false, false, false, false, false, false] (by kernel_rfl) rfl rfl ⟨(blk_cell BK323.out 0).trans rfl, (blk_cell BK323.out 1).trans rfl, (blk_cell BK323.out 2).trans rfl, (blk_cell BK323.out 3).trans rfl, (blk_cell BK323.out 4).trans rfl, (blk_cell BK324.out 0).trans rfl, (blk_cell BK324.out 1).trans rfl, (blk_cell BK324.out 2).trans rfl, (blk_cell BK324.out 3).trans rfl, (blk_cell BK324.out 4).trans rfl, ((HB.out.cell (World.block_lt_of_cell? w _ hw325_0)).trans hw325_0), ((HB.out.cell (World.block_lt_of_cell? w _ hw325_1)).trans hw325_1), ((HB.out.cell (World.block_lt_of_cell? w _ hw326_0)).trans hw326_0), ((HB.out.cell (World.block_lt_of_cell? w _ hw326_1)).trans hw326_1)⟩ (fun hHeld => ?_); refine with_tabW laws_equal29.tab6 laws_equal29.bits6 (fun HT_ HW_ => ?_)
                      generalize wr.drew = w34 at BK323 BK324 HB hx325_0 hx325_1 hx326_0 hx326_1 hHeld ⊢
                      refine pure_ (i := 0) (N := some 50) (v := ?_) (a' := ?_) #[true, false, false, false, false, false, false, false, false, false, false] rfl rfl (any_of HT_.out (by kernel_rfl)) (fun _ _ _ h => h) (Or.inl ⟨by rfl, ?_⟩) ?_ ?_
                      rotate_left
                      · intro w'
                        go_simp
                        with_reducible rfl
                      rotate_left
                      · simp only [Act.put, List.setIfInBounds_toArray, List.set_cons_zero, List.set_cons_succ, i64_w, i32_w]
                        rfl
                      refine pure_ (i := 2) (N := some 52) (v := ?_) (a' := ?_) #[true, false, true, false, false, false, false, false, false, false, false] rfl rfl (any_of HT_.out (by kernel_rfl)) (fun _ _ _ h => h) (Or.inl ⟨by rfl, ?_⟩) ?_ ?_
                      rotate_left
                      · intro w'
                        go_simp
                        with_reducible rfl
                      rotate_left
                      · simp only [Act.put, List.setIfInBounds_toArray, List.set_cons_zero, List.set_cons_succ, i64_w, i32_w]
                        rfl
                      refine pure_ (i := 5) (N := some 55) (v := ?_) (a' := ?_) #[true, false, true, false, false, true, false, false, false, false, false] rfl rfl (any_of HT_.out (by kernel_rfl)) (fun _ _ _ h => h) (Or.inl ⟨by rfl, ?_⟩) ?_ ?_
                      rotate_left
                      · intro w'
                        go_simp
                        with_reducible rfl
                      rotate_left
                      · simp only [Act.put, List.setIfInBounds_toArray, List.set_cons_zero, List.set_cons_succ, i64_w, i32_w]
                        rfl
                      refine pure_ (i := 7) (N := some 57) (v := ?_) (a' := ?_) #[true, false, true, false, false, true, false, true, false, false, false] rfl rfl (any_of HT_.out (by kernel_rfl)) (fun _ _ _ h => h) (Or.inl ⟨by rfl, ?_⟩) ?_ ?_
                      rotate_left
                      · intro w'
                        go_simp
                        with_reducible rfl
                      rotate_left
                      · simp only [Act.put, List.setIfInBounds_toArray, List.set_cons_zero, List.set_cons_succ, i64_w, i32_w]
                        rfl
                      refine take_ (i := 1) (N := some 51) (v := ?_) (a' := ?_) #[true, true, true, false, false, true, false, true, false, false, false] rfl rfl (take_ofW HT_.out HW_.out (by kernel_rfl)) (fun _ _ _ h => h) (Or.inl ⟨by rfl, ?_⟩) hHeld ?_ ?_
                      rotate_left
                      · rintro w' ⟨s0, s1, s2, s3, s4, s5, s6, s7, s8, s9, s10, s11, s12, s13⟩
                        go_simp
                        with_reducible rfl
                      rotate_left
                      · simp only [Act.put, List.setIfInBounds_toArray, List.set_cons_zero, List.set_cons_succ, i64_w, i32_w]
                        rfl
                      refine pure_ (i := 3) (N := some 53) (v := ?_) (a' := ?_) #[true, true, true, true, false, true, false, true, false, false, false] rfl rfl (any_of HT_.out (by kernel_rfl)) (fun _ _ _ h => h) (Or.inl ⟨by rfl, ?_⟩) ?_ ?_
                      rotate_left
                      · intro w'
                        go_simp
                        with_reducible rfl
                      rotate_left
                      · simp only [Act.put, List.setIfInBounds_toArray, List.set_cons_zero, List.set_cons_succ, i64_w, i32_w]
                        rfl
                      refine take_ (i := 4) (N := some 54) (v := ?_) (a' := ?_) #[true, true, true, true, true, true, false, true, false, false, false] rfl rfl (take_ofW HT_.out HW_.out (by kernel_rfl)) (fun _ _ _ h => h) (Or.inl ⟨by rfl, ?_⟩) hHeld ?_ ?_
                      rotate_left
                      · rintro w' ⟨s0, s1, s2, s3, s4, s5, s6, s7, s8, s9, s10, s11, s12, s13⟩
                        go_simp
                        with_reducible rfl
                      rotate_left
                      · simp only [Act.put, List.setIfInBounds_toArray, List.set_cons_zero, List.set_cons_succ, i64_w, i32_w]
                        rfl
                      refine take_ (i := 6) (N := some 56) (v := ?_) (a' := ?_) #[true, true, true, true, true, true, true, true, false, false, false] rfl rfl (take_ofW HT_.out HW_.out (by kernel_rfl)) (fun _ _ _ h => h) (Or.inl ⟨by rfl, ?_⟩) hHeld ?_ ?_
                      rotate_left
                      · rintro w' ⟨s0, s1, s2, s3, s4, s5, s6, s7, s8, s9, s10, s11, s12, s13⟩
                        go_simp
                        with_reducible rfl
                      rotate_left
                      · simp only [Act.put, List.setIfInBounds_toArray, List.set_cons_zero, List.set_cons_succ, i64_w, i32_w]
                        rfl
                      refine pure_ (i := 8) (N := some 58) (v := ?_) (a' := ?_) #[true, true, true, true, true, true, true, true, true, false, false] rfl rfl (any_of HT_.out (by kernel_rfl)) (fun _ _ _ h => h) (Or.inl ⟨by rfl, ?_⟩) ?_ ?_
                      rotate_left
                      · intro w'
                        go_simp
                        with_reducible rfl
                      rotate_left
                      · simp only [Act.put, List.setIfInBounds_toArray, List.set_cons_zero, List.set_cons_succ, i64_w, i32_w]
                        rfl
                      refine take_ (i := 9) (N := some 59) (v := ?_) (a' := ?_) #[true, true, true, true, true, true, true, true, true, true, false] rfl rfl (take_ofW HT_.out HW_.out (by kernel_rfl)) (fun _ _ _ h => h) (Or.inl ⟨by rfl, ?_⟩) hHeld ?_ ?_
                      rotate_left
                      · rintro w' ⟨s0, s1, s2, s3, s4, s5, s6, s7, s8, s9, s10, s11, s12, s13⟩
                        go_simp
                        with_reducible rfl
                      rotate_left
                      · simp only [Act.put, List.setIfInBounds_toArray, List.set_cons_zero, List.set_cons_succ, i64_w, i32_w]
                        rfl
                      refine pure_ (i := 10) (N := some 60) (v := ?_) (a' := ?_) #[true, true, true, true, true, true, true, true, true, true, true] rfl rfl (any_of HT_.out (by kernel_rfl)) (fun _ _ _ h => h) (Or.inl ⟨by rfl, ?_⟩) ?_ ?_
                      rotate_left
                      · intro w'
                        go_simp
                        with_reducible rfl
                      rotate_left
                      · simp only [Act.put, List.setIfInBounds_toArray, List.set_cons_zero, List.set_cons_succ, i64_w, i32_w]
                        rfl
                      refine done_ (done_of HT_.out (by kernel_rfl)) ?_
                      try go_wp2
                      go_roundg k2
                      case measure => have := HJ2.out; have := HK2.out; omega
                      case rel => exact ⟨(wrap64 (x47_2 + 1)), (by first | rfl | (simp; done) | (simp [*]; done)), H', ⟨by have := HJ2.out; have := HK2.out; omega⟩, ⟨by (with_reducible repeat (first | refine blk_drewN ?_ _ | refine blk_drew ?_ | refine blk_alloc ?_ _)); exact BK323.out⟩, ⟨by (with_reducible repeat (first | refine blk_drewN ?_ _ | refine blk_drew ?_ | refine blk_alloc ?_ _)); exact BK324.out⟩, ⟨by repeat (first | (with_reducible first | exact HB.out | apply below_alloc | apply pw_below_drewN | apply below_drew1 | refine below_set ?_ GE323.out | refine below_set ?_ GE324.out) | exact HB.out)⟩⟩
                  · rw [if_neg c31] at H
                    exact absurd H (by simp)
                · rw [if_neg c30] at H
                  exact absurd H (by simp)
              · rw [if_neg c29] at H
                exact absurd H (by simp)
            · rw [if_neg c28] at H
              have c28b0 : decide (x47_2 < (l0_3.length : Int)) = false := decide_eq_false c28
              clear c28
              have H' := Aside0.mk H
              clear H
              have hnb35 := NB323_324.out
              have hnc35 := NB324_323.out
              have hcz36_0 : wr.cell? ⟨gb323, 0, none⟩ = some (.int .i64 a0_0) := (blk_cell BK323.out 0).trans rfl
              have hcz36_1 : wr.cell? ⟨gb323, 1, none⟩ = some (.string a0_1) := (blk_cell BK323.out 1).trans rfl
              have hcz36_2 : wr.cell? ⟨gb323, 2, none⟩ = some (.string a0_2) := (blk_cell BK323.out 2).trans rfl
              have hcz36_3 : wr.cell? ⟨gb323, 3, none⟩ = some (.slice A0_3 l0_3.length c0_3) := (blk_cell BK323.out 3).trans rfl
              have hcz36_4 : wr.cell? ⟨gb323, 4, none⟩ = some (.slice A0_4 l0_4.length c0_4) := (blk_cell BK323.out 4).trans rfl
              have hfz36_0 := blk_frozen BK323.out 0
              have hfz36_1 := blk_frozen BK323.out 1
              have hfz36_2 := blk_frozen BK323.out 2
              have hfz36_3 := blk_frozen BK323.out 3
              have hfz36_4 := blk_frozen BK323.out 4
              go_wp2
              go_loopg [65] k2 (fun kq v65 w' => ∃ (x65_3 : Int), v65 = .int .i64 x65_3 ∧ Aside0 (laws_equal29.l1 kq (l0_4.length : Int) x65_3 a0_0 a0_1 a0_2 l0_3 l0_4 a1_0 a1_1 a1_2 l1_3 l1_4 = some r) ∧ Aside0 (kq ≤ k2) ∧ Aside0 (w'.heap[gb323]? = some (.cells #[.int .i64 a0_0, .string a0_1, .string a0_2, (.slice A0_3 l0_3.length c0_3), (.slice A0_4 l0_4.length c0_4)] 25 (0, 0))) ∧ Aside0 (w'.heap[gb324]? = some (.cells #[.int .i64 a1_0, .string a1_1, .string a1_2, (.slice A1_3 l1_3.length c1_3), (.slice A1_4 l1_4.length c1_4)] 25 (0, 0))) ∧ Aside0 (Below w.heap.size w w'))
              case atStart => exact ⟨(0), (by first | rfl | (simp; done) | (simp [*]; done)), H', ⟨Nat.le_refl _⟩, ⟨by (with_reducible repeat (first | refine blk_drewN ?_ _ | refine blk_drew ?_ | refine blk_alloc ?_ _)); exact BK323.out⟩, ⟨by (with_reducible repeat (first | refine blk_drewN ?_ _ | refine blk_drew ?_ | refine blk_alloc ?_ _)); exact BK324.out⟩, ⟨by repeat (first | (with_reducible first | exact HB.out | apply below_alloc | apply pw_below_drewN | apply below_drew1 | refine below_set ?_ GE323.out | refine below_set ?_ GE324.out) | exact HB.out)⟩⟩
              case round =>
                clear H'
                try clear c1
                try clear c2
                try clear p2
                try clear c3
                try clear p3
                try clear q3
                try clear hx3
                try clear c6
                try clear c6b0
                try clear c6b1
                try clear p6
                try clear c7
                try clear c7b0
                try clear c7b1
                try clear c8
                try clear c8b0
                try clear c8b1
                try clear c9
                try clear c9b0
                try clear c9b1
                try clear c9b2
                try clear c10
                try clear c13
                try clear c16
                try clear c19
                try clear c22
                try clear c25
                try clear c26
                try clear c28
                try clear c28b0
                try clear c29
                try clear c29b0
                try clear c30
                try clear c30b0
                try clear c31
                try clear c31b0
                try clear c32
                try clear c32b0
                try clear p32
                try clear q32
                try clear hx32
                try clear c35
                try clear hcz11_0
                try clear hcz11_1
                try clear hcz11_2
                try clear hcz11_3
                try clear hcz11_4
                try clear hcz12_0
                try clear hcz12_1
                try clear hcz12_2
                try clear hcz12_3
                try clear hcz12_4
                try clear hcz14_0
                try clear hcz14_1
                try clear hcz14_2
                try clear hcz14_3
                try clear hcz14_4
                try clear hcz15_0
                try clear hcz15_1
                try clear hcz15_2
                try clear hcz15_3
                try clear hcz15_4
                try clear hcz17_0
                try clear hcz17_1
                try clear hcz17_2
                try clear hcz17_3
                try clear hcz17_4
                try clear hcz18_0
                try clear hcz18_1
                try clear hcz18_2
                try clear hcz18_3
                try clear hcz18_4
                try clear hcz20_0
                try clear hcz20_1
                try clear hcz20_2
                try clear hcz20_3
                try clear hcz20_4
                try clear hcz21_0
                try clear hcz21_1
                try clear hcz21_2
                try clear hcz21_3
                try clear hcz21_4
                try clear hcz23_0
                try clear hcz23_1
                try clear hcz23_2
                try clear hcz23_3
                try clear hcz23_4
                try clear hcz24_0
                try clear hcz24_1
                try clear hcz24_2
                try clear hcz24_3
                try clear hcz24_4
                try clear hcz27_0
                try clear hcz27_1
                try clear hcz27_2
                try clear hcz27_3
                try clear hcz27_4
                try clear hcz36_0
                try clear hcz36_1
                try clear hcz36_2
                try clear hcz36_3
                try clear hcz36_4
                try clear hfz11_0
                try clear hfz11_1
                try clear hfz11_2
                try clear hfz11_3
                try clear hfz11_4
                try clear hfz12_0
                try clear hfz12_1
                try clear hfz12_2
                try clear hfz12_3
                try clear hfz12_4
                try clear hfz14_0
                try clear hfz14_1
                try clear hfz14_2
                try clear hfz14_3
                try clear hfz14_4
                try clear hfz15_0
                try clear hfz15_1
                try clear hfz15_2
                try clear hfz15_3
                try clear hfz15_4
                try clear hfz17_0
                try clear hfz17_1
                try clear hfz17_2
                try clear hfz17_3
                try clear hfz17_4
                try clear hfz18_0
                try clear hfz18_1
                try clear hfz18_2
                try clear hfz18_3
                try clear hfz18_4
                try clear hfz20_0
                try clear hfz20_1
                try clear hfz20_2
                try clear hfz20_3
                try clear hfz20_4
                try clear hfz21_0
                try clear hfz21_1
                try clear hfz21_2
                try clear hfz21_3
                try clear hfz21_4
                try clear hfz23_0
                try clear hfz23_1
                try clear hfz23_2
                try clear hfz23_3
                try clear hfz23_4
                try clear hfz24_0
                try clear hfz24_1
                try clear hfz24_2
                try clear hfz24_3
                try clear hfz24_4
                try clear hfz27_0
                try clear hfz27_1
                try clear hfz27_2
                try clear hfz27_3
                try clear hfz27_4
                try clear hfz36_0
                try clear hfz36_1
                try clear hfz36_2
                try clear hfz36_3
                try clear hfz36_4
                try clear hx325_0
                try clear hx325_1
                try clear hx326_0
                try clear hx326_1
                try clear p2
                try clear p325
                try clear p326
                try clear q325
                try clear q326
                obtain ⟨x65_3, rfl, HA, HK3, BK323, BK324, HB⟩ := hrel
                cases gk with
                | zero => exact absurd HA.out (by simp [laws_equal29.l1])
                | succ k3 =>
                  have H := HA.out
                  clear HA
                  simp only [laws_equal29.l1] at H
                  by_cases c37 : x65_3 < (l0_4.length : Int)
                  · rw [if_pos c37] at H
                    have c37b0 : decide (x65_3 < (l0_4.length : Int)) = true := decide_eq_true c37
                    clear c37
                    by_cases c38 : 0 ≤ x65_3
                    · rw [if_pos c38] at H
                      have c38b0 : decide (0 ≤ x65_3) = true := decide_eq_true c38
                      clear c38
                      by_cases c39 : x65_3 < (l0_4.length : Int)
                      · rw [if_pos c39] at H
                        have c39b0 : decide (x65_3 < (l0_4.length : Int)) = true := decide_eq_true c39
                        clear c39
                        by_cases c40 : x65_3 < (l1_4.length : Int)
                        · rw [if_pos c40] at H
                          have c40b0 : decide (x65_3 < (l1_4.length : Int)) = true := decide_eq_true c40
                          clear c40
                          replace H := Option.bind_eq_some_iff.mp H
                          obtain ⟨t329, A410, H⟩ := H
                          replace H : (if t329 = true then (laws_equal29.l1 k3 (l0_4.length : Int) (wrap64 (x65_3 + 1)) a0_0 a0_1 a0_2 l0_3 l0_4 a1_0 a1_1 a1_2 l1_3 l1_4) else (some false)) = some r := H
                          have A41 := Aside0.mk A410
                          clear A410
                          by_cases c42 : t329 = true
                          · subst c42
                            have H1 : (laws_equal29.l1 k3 (l0_4.length : Int) (wrap64 (x65_3 + 1)) a0_0 a0_1 a0_2 l0_3 l0_4 a1_0 a1_1 a1_2 l1_3 l1_4) = some r := by rw [if_pos rfl] at H; exact H
                            clear H
                            have H := H1
                            clear H1
                            have H' := Aside0.mk H
                            clear H
                            try go_wp2
                            have n0_ := Aside0.mk (blk_drew BK323.out)
                            have n1_ := Aside0.mk (blk_drew BK324.out)
                            have n2_ := Aside0.mk (below_drew1 HB.out)
                            clear BK323
                            clear BK324
                            clear HB
                            have BK323 := n0_
                            have BK324 := n1_
                            have HB := n2_
                            clear n0_ n1_ n2_
                            have p327 : 0 ≤ (x65_3 : Int) := of_decide_eq_true (by first | (with_reducible assumption) | assumption)
                            have q327 : x65_3 < (l0_4.length : Int) := of_decide_eq_true (by first | (with_reducible assumption) | assumption)
                            obtain ⟨ad327, A327_3, c327_3, A327_4, c327_4, e327, hx327_0, hx327_1, hx327_2, hx327_3, hx327_4, hl327_3, hi327_3, hl327_4, hi327_4⟩ := at_T25 HR0_4.out x65_3 p327 q327
                            have hw327_4 := hx327_4
                            have hw327_3 := hx327_3
                            have hw327_2 := hx327_2
                            have hw327_1 := hx327_1
                            have hw327_0 := hx327_0
                            cases e327
                            replace hx327_0 := (HB.out.cell (World.block_lt_of_cell? w _ hx327_0)).trans hx327_0
                            replace hx327_1 := (HB.out.cell (World.block_lt_of_cell? w _ hx327_1)).trans hx327_1
                            replace hx327_2 := (HB.out.cell (World.block_lt_of_cell? w _ hx327_2)).trans hx327_2
                            replace hx327_3 := (HB.out.cell (World.block_lt_of_cell? w _ hx327_3)).trans hx327_3
                            replace hx327_4 := (HB.out.cell (World.block_lt_of_cell? w _ hx327_4)).trans hx327_4
                            have HR327_3 := Aside0.mk hi327_3
                            have HC327_3 := Aside0.mk hl327_3
                            clear hi327_3 hl327_3
                            have HR327_4 := Aside0.mk hi327_4
                            have HC327_4 := Aside0.mk hl327_4
                            clear hi327_4 hl327_4
                            replace p327 := eq_true p327
                            replace q327 := eq_true q327
                            have p328 : 0 ≤ (x65_3 : Int) := of_decide_eq_true (by first | (with_reducible assumption) | assumption)
                            have q328 : x65_3 < (l1_4.length : Int) := of_decide_eq_true (by first | (with_reducible assumption) | assumption)
                            obtain ⟨ad328, A328_3, c328_3, A328_4, c328_4, e328, hx328_0, hx328_1, hx328_2, hx328_3, hx328_4, hl328_3, hi328_3, hl328_4, hi328_4⟩ := at_T25 HR1_4.out x65_3 p328 q328
                            have hw328_4 := hx328_4
                            have hw328_3 := hx328_3
                            have hw328_2 := hx328_2
                            have hw328_1 := hx328_1
                            have hw328_0 := hx328_0
                            cases e328
                            replace hx328_0 := (HB.out.cell (World.block_lt_of_cell? w _ hx328_0)).trans hx328_0
                            replace hx328_1 := (HB.out.cell (World.block_lt_of_cell? w _ hx328_1)).trans hx328_1
                            replace hx328_2 := (HB.out.cell (World.block_lt_of_cell? w _ hx328_2)).trans hx328_2
                            replace hx328_3 := (HB.out.cell (World.block_lt_of_cell? w _ hx328_3)).trans hx328_3
                            replace hx328_4 := (HB.out.cell (World.block_lt_of_cell? w _ hx328_4)).trans hx328_4
                            have HR328_3 := Aside0.mk hi328_3
                            have HC328_3 := Aside0.mk hl328_3
                            clear hi328_3 hl328_3
                            have HR328_4 := Aside0.mk hi328_4
                            have HC328_4 := Aside0.mk hl328_4
                            clear hi328_4 hl328_4
                            replace p328 := eq_true p328
                            replace q328 := eq_true q328
                            refine start_ (n := 12) (S := fun w' => w'.cell? ⟨gb323, 0, none⟩ = some (.int .i64 a0_0) ∧ w'.cell? ⟨gb323, 1, none⟩ = some (.string a0_1) ∧ w'.cell? ⟨gb323, 2, none⟩ = some (.string a0_2) ∧ w'.cell? ⟨gb323, 3, none⟩ = some (.slice A0_3 l0_3.length c0_3) ∧ w'.cell? ⟨gb323, 4, none⟩ = some (.slice (some ad327) l0_4.length c0_4) ∧ w'.cell? ⟨gb324, 0, none⟩ = some (.int .i64 a1_0) ∧ w'.cell? ⟨gb324, 1, none⟩ = some (.string a1_1) ∧ w'.cell? ⟨gb324, 2, none⟩ = some (.string a1_2) ∧ w'.cell? ⟨gb324, 3, none⟩ = some (.slice A1_3 l1_3.length c1_3) ∧ w'.cell? ⟨gb324, 4, none⟩ = some (.slice (some ad328) l1_4.length c1_4) ∧ w'.cell? (ad327.add ((x65_3).toNat * 5)) = some (.int .i64 ((rd_T25 l0_4 x65_3).f0)) ∧ w'.cell? ⟨(ad327.add ((x65_3).toNat * 5)).block, (ad327.add ((x65_3).toNat * 5)).off + 1, none⟩ = some (.string ((rd_T25 l0_4 x65_3).f1)) ∧ w'.cell? ⟨(ad327.add ((x65_3).toNat * 5)).block, (ad327.add ((x65_3).toNat * 5)).off + 2, none⟩ = some (.string ((rd_T25 l0_4 x65_3).f2)) ∧ w'.cell? ⟨(ad327.add ((x65_3).toNat * 5)).block, (ad327.add ((x65_3).toNat * 5)).off + 3, none⟩ = some (.slice A327_3 ((rd_T25 l0_4 x65_3).f3).length c327_3) ∧ w'.cell? ⟨(ad327.add ((x65_3).toNat * 5)).block, (ad327.add ((x65_3).toNat * 5)).off + 4, none⟩ = some (.slice A327_4 ((rd_T25 l0_4 x65_3).f4).length c327_4) ∧ w'.cell? (ad328.add ((x65_3).toNat * 5)) = some (.int .i64 ((rd_T25 l1_4 x65_3).f0)) ∧ w'.cell? ⟨(ad328.add ((x65_3).toNat * 5)).block, (ad328.add ((x65_3).toNat * 5)).off + 1, none⟩ = some (.string ((rd_T25 l1_4 x65_3).f1)) ∧ w'.cell? ⟨(ad328.add ((x65_3).toNat * 5)).block, (ad328.add ((x65_3).toNat * 5)).off + 2, none⟩ = some (.string ((rd_T25 l1_4 x65_3).f2)) ∧ w'.cell? ⟨(ad328.add ((x65_3).toNat * 5)).block, (ad328.add ((x65_3).toNat * 5)).off + 3, none⟩ = some (.slice A328_3 ((rd_T25 l1_4 x65_3).f3).length c328_3) ∧ w'.cell? ⟨(ad328.add ((x65_3).toNat * 5)).block, (ad328.add ((x65_3).toNat * 5)).off + 4, none⟩ = some (.slice A328_4 ((rd_T25 l1_4 x65_3).f4).length c328_4)) (ds := []) #[false, false, false, false, false, false, false, false, false, false, false, false] (by kernel_rfl) rfl rfl ⟨(blk_cell BK323.out 0).trans rfl, (blk_cell BK323.out 1).trans rfl, (blk_cell BK323.out 2).trans rfl, (blk_cell BK323.out 3).trans rfl, (blk_cell BK323.out 4).trans rfl, (blk_cell BK324.out 0).trans rfl, (blk_cell BK324.out 1).trans rfl, (blk_cell BK324.out 2).trans rfl, (blk_cell BK324.out 3).trans rfl, (blk_cell BK324.out 4).trans rfl, ((HB.out.cell (World.block_lt_of_cell? w _ hw327_0)).trans hw327_0), ((HB.out.cell (World.block_lt_of_cell? w _ hw327_1)).trans hw327_1), ((HB.out.cell (World.block_lt_of_cell? w _ hw327_2)).trans hw327_2), ((HB.out.cell (World.block_lt_of_cell? w _ hw327_3)).trans hw327_3), ((HB.out.cell (World.block_lt_of_cell? w _ hw327_4)).trans hw327_4), ((HB.out.cell (World.block_lt_of_cell? w _ hw328_0)).trans hw328_0), ((HB.out.cell (World.block_lt_of_cell? w _ hw328_1)).trans hw328_1), ((HB.out.cell (World.block_lt_of_cell? w _ hw328_2)).trans hw328_2), ((HB.out.cell (World.block_lt_of_cell? w _ hw328_3)).trans hw328_3), ((HB.out.cell (World.block_lt_of_cell? w _ hw328_4)).trans hw328_4)⟩ (fun hHeld => ?_); refine with_tabW laws_equal29.tab12 laws_equal29.bits12 (fun HT_ HW_ => ?_)
                            generalize wr.drew = w43 at BK323 BK324 HB HR327_3 HR327_4 HR328_3 HR328_4 hx327_0 hx327_1 hx327_2 hx327_3 hx327_4 hx328_0 hx328_1 hx328_2 hx328_3 hx328_4 hHeld ⊢
                            refine pure_ (i := 0) (N := some 68) (v := ?_) (a' := ?_) #[true, false, false, false, false, false, false, false, false, false, false, false] rfl rfl (any_of HT_.out (by kernel_rfl)) (fun _ _ _ h => h) (Or.inl ⟨by rfl, ?_⟩) ?_ ?_
                            rotate_left
                            · intro w'
                              go_simp
                              with_reducible rfl
                            rotate_left
                            · simp only [Act.put, List.setIfInBounds_toArray, List.set_cons_zero, List.set_cons_succ, i64_w, i32_w]
                              rfl
                            refine pure_ (i := 2) (N := some 70) (v := ?_) (a' := ?_) #[true, false, true, false, false, false, false, false, false, false, false, false] rfl rfl (any_of HT_.out (by kernel_rfl)) (fun _ _ _ h => h) (Or.inl ⟨by rfl, ?_⟩) ?_ ?_
                            rotate_left
                            · intro w'
                              go_simp
                              with_reducible rfl
                            rotate_left
                            · simp only [Act.put, List.setIfInBounds_toArray, List.set_cons_zero, List.set_cons_succ, i64_w, i32_w]
                              rfl
                            refine pure_ (i := 5) (N := some 73) (v := ?_) (a' := ?_) #[true, false, true, false, false, true, false, false, false, false, false, false] rfl rfl (any_of HT_.out (by kernel_rfl)) (fun _ _ _ h => h) (Or.inl ⟨by rfl, ?_⟩) ?_ ?_
                            rotate_left
                            · intro w'
                              go_simp
                              with_reducible rfl
                            rotate_left
                            · simp only [Act.put, List.setIfInBounds_toArray, List.set_cons_zero, List.set_cons_succ, i64_w, i32_w]
                              rfl
                            refine pure_ (i := 7) (N := some 75) (v := ?_) (a' := ?_) #[true, false, true, false, false, true, false, true, false, false, false, false] rfl rfl (any_of HT_.out (by kernel_rfl)) (fun _ _ _ h => h) (Or.inl ⟨by rfl, ?_⟩) ?_ ?_
                            rotate_left
                            · intro w'
                              go_simp
                              with_reducible rfl
                            rotate_left
                            · simp only [Act.put, List.setIfInBounds_toArray, List.set_cons_zero, List.set_cons_succ, i64_w, i32_w]
                              rfl
                            refine take_ (i := 1) (N := some 69) (v := ?_) (a' := ?_) #[true, true, true, false, false, true, false, true, false, false, false, false] rfl rfl (take_ofW HT_.out HW_.out (by kernel_rfl)) (fun _ _ _ h => h) (Or.inl ⟨by rfl, ?_⟩) hHeld ?_ ?_
                            rotate_left
                            · rintro w' ⟨s0, s1, s2, s3, s4, s5, s6, s7, s8, s9, s10, s11, s12, s13, s14, s15, s16, s17, s18, s19⟩
                              go_simp
                              with_reducible rfl
                            rotate_left
                            · simp only [Act.put, List.setIfInBounds_toArray, List.set_cons_zero, List.set_cons_succ, i64_w, i32_w]
                              rfl
                            refine pure_ (i := 3) (N := some 71) (v := ?_) (a' := ?_) #[true, true, true, true, false, true, false, true, false, false, false, false] rfl rfl (any_of HT_.out (by kernel_rfl)) (fun _ _ _ h => h) (Or.inl ⟨by rfl, ?_⟩) ?_ ?_
                            rotate_left
                            · intro w'
                              go_simp
                              with_reducible rfl
                            rotate_left
                            · simp only [Act.put, List.setIfInBounds_toArray, List.set_cons_zero, List.set_cons_succ, i64_w, i32_w]
                              rfl
                            refine take_ (i := 4) (N := some 72) (v := ?_) (a' := ?_) #[true, true, true, true, true, true, false, true, false, false, false, false] rfl rfl (take_ofW HT_.out HW_.out (by kernel_rfl)) (fun _ _ _ h => h) (Or.inl ⟨by rfl, ?_⟩) hHeld ?_ ?_
                            rotate_left
                            · rintro w' ⟨s0, s1, s2, s3, s4, s5, s6, s7, s8, s9, s10, s11, s12, s13, s14, s15, s16, s17, s18, s19⟩
                              go_simp
                              with_reducible rfl
                            rotate_left
                            · simp only [Act.put, List.setIfInBounds_toArray, List.set_cons_zero, List.set_cons_succ, i64_w, i32_w]
                              rfl
                            refine take_ (i := 6) (N := some 74) (v := ?_) (a' := ?_) #[true, true, true, true, true, true, true, true, false, false, false, false] rfl rfl (take_ofW HT_.out HW_.out (by kernel_rfl)) (fun _ _ _ h => h) (Or.inl ⟨by rfl, ?_⟩) hHeld ?_ ?_
                            rotate_left
                            · rintro w' ⟨s0, s1, s2, s3, s4, s5, s6, s7, s8, s9, s10, s11, s12, s13, s14, s15, s16, s17, s18, s19⟩
                              go_simp
                              with_reducible rfl
                            rotate_left
                            · simp only [Act.put, List.setIfInBounds_toArray, List.set_cons_zero, List.set_cons_succ, i64_w, i32_w]
                              rfl
                            refine pure_ (i := 8) (N := some 76) (v := ?_) (a' := ?_) #[true, true, true, true, true, true, true, true, true, false, false, false] rfl rfl (any_of HT_.out (by kernel_rfl)) (fun _ _ _ h => h) (Or.inl ⟨by rfl, ?_⟩) ?_ ?_
                            rotate_left
                            · intro w'
                              go_simp
                              with_reducible rfl
                            rotate_left
                            · simp only [Act.put, List.setIfInBounds_toArray, List.set_cons_zero, List.set_cons_succ, i64_w, i32_w]
                              rfl
                            refine take_ (i := 9) (N := some 77) (v := ?_) (a' := ?_) #[true, true, true, true, true, true, true, true, true, true, false, false] rfl rfl (take_ofW HT_.out HW_.out (by kernel_rfl)) (fun _ _ _ h => h) (Or.inl ⟨by rfl, ?_⟩) hHeld ?_ ?_
                            rotate_left
                            · rintro w' ⟨s0, s1, s2, s3, s4, s5, s6, s7, s8, s9, s10, s11, s12, s13, s14, s15, s16, s17, s18, s19⟩
                              go_simp
                              with_reducible rfl
                            rotate_left
                            · simp only [Act.put, List.setIfInBounds_toArray, List.set_cons_zero, List.set_cons_succ, i64_w, i32_w]
                              rfl
                            refine one_ (i := 10) (N := some 78) #[true, true, true, true, true, true, true, true, true, true, true, false] rfl rfl (one_of HT_.out (by kernel_rfl)) (by decide) (fun K hK => ?_)
                            refine goes_ Try.func29 (by kernel_rfl) rfl #[.agg #[.int .i64 ((rd_T25 l0_4 x65_3).f0), .string ((rd_T25 l0_4 x65_3).f1), .string ((rd_T25 l0_4 x65_3).f2), .slice A327_3 ((rd_T25 l0_4 x65_3).f3).length c327_3, .slice A327_4 ((rd_T25 l0_4 x65_3).f4).length c327_4], .agg #[.int .i64 ((rd_T25 l1_4 x65_3).f0), .string ((rd_T25 l1_4 x65_3).f1), .string ((rd_T25 l1_4 x65_3).f2), .slice A328_3 ((rd_T25 l1_4 x65_3).f3).length c328_3, .slice A328_4 ((rd_T25 l1_4 x65_3).f4).length c328_4]] (by rfl) rfl rfl (by (try simp only [List.map_toArray, List.map_cons, List.map_nil]); first | done | rfl | (simp only [List.length_drop, List.length_take]; rfl)) ?_
                            with_reducible refine (ih k3 (by have := HJ2.out; have := HK2.out; have := HK3.out; omega) ((rd_T25 l0_4 x65_3).f0) ((rd_T25 l0_4 x65_3).f1) ((rd_T25 l0_4 x65_3).f2) _ _ ((rd_T25 l0_4 x65_3).f3) _ _ ((rd_T25 l0_4 x65_3).f4) ((rd_T25 l1_4 x65_3).f0) ((rd_T25 l1_4 x65_3).f1) ((rd_T25 l1_4 x65_3).f2) _ _ ((rd_T25 l1_4 x65_3).f3) _ _ ((rd_T25 l1_4 x65_3).f4) true _ ?side1 ?side2 ?side3 ?side4 ?side5 ?side6 ?side7 ?side8 A41.out).mono ?_
                            (case side1 => repeat (first | exact (Kd.C_below HR327_3.out HB.out) | (with_reducible refine Kd.C_alloc ?_ _) | (with_reducible refine Kd.C_drewN ?_ _) | (with_reducible refine Kd.C_drew ?_)))
                            (case side2 => exact HC327_3.out)
                            (case side3 => repeat (first | exact (Kd.C_below HR327_4.out HB.out) | (with_reducible refine Kd.C_alloc ?_ _) | (with_reducible refine Kd.C_drewN ?_ _) | (with_reducible refine Kd.C_drew ?_)))
                            (case side4 => exact HC327_4.out)
                            (case side5 => repeat (first | exact (Kd.C_below HR328_3.out HB.out) | (with_reducible refine Kd.C_alloc ?_ _) | (with_reducible refine Kd.C_drewN ?_ _) | (with_reducible refine Kd.C_drew ?_)))
                            (case side6 => exact HC328_3.out)
                            (case side7 => repeat (first | exact (Kd.C_below HR328_4.out HB.out) | (with_reducible refine Kd.C_alloc ?_ _) | (with_reducible refine Kd.C_drewN ?_ _) | (with_reducible refine Kd.C_drew ?_)))
                            (case side8 => exact HC328_4.out)
                            rintro e w44 ⟨rfl, hb⟩
                            refine ⟨_, rfl, ?_⟩
                            have n0_ := Aside0.mk (blk_below (g := gb323) (o := .cells #[.int .i64 a0_0, .string a0_1, .string a0_2, .slice A0_3 l0_3.length c0_3, .slice (some ad327) l0_4.length c0_4] 25 (0, 0)) (by (with_reducible repeat (first | refine blk_drewN ?_ _ | refine blk_drew ?_ | refine blk_alloc ?_ _)); exact BK323.out) hb)
                            have n1_ := Aside0.mk (blk_below (g := gb324) (o := .cells #[.int .i64 a1_0, .string a1_1, .string a1_2, .slice A1_3 l1_3.length c1_3, .slice (some ad328) l1_4.length c1_4] 25 (0, 0)) (by (with_reducible repeat (first | refine blk_drewN ?_ _ | refine blk_drew ?_ | refine blk_alloc ?_ _)); exact BK324.out) hb)
                            have n2_ := Aside0.mk (below_step (by repeat (first | (with_reducible first | exact HB.out | apply below_alloc | apply pw_below_drewN | apply below_drew1 | refine below_set ?_ GE323.out | refine below_set ?_ GE324.out) | exact HB.out)) hb)
                            clear BK323
                            clear BK324
                            clear HB
                            have BK323 := n0_
                            have BK324 := n1_
                            have HB := n2_
                            clear n0_ n1_ n2_
                            (try clear hb)
                            (try clear hb2)
                            (try clear hk)
                            (try clear hi)
                            refine hK.out _ _ ⟨(blk_cell BK323.out 0).trans rfl, (blk_cell BK323.out 1).trans rfl, (blk_cell BK323.out 2).trans rfl, (blk_cell BK323.out 3).trans rfl, (blk_cell BK323.out 4).trans rfl, (blk_cell BK324.out 0).trans rfl, (blk_cell BK324.out 1).trans rfl, (blk_cell BK324.out 2).trans rfl, (blk_cell BK324.out 3).trans rfl, (blk_cell BK324.out 4).trans rfl, ((HB.out.cell (World.block_lt_of_cell? w _ hw327_0)).trans hw327_0), ((HB.out.cell (World.block_lt_of_cell? w _ hw327_1)).trans hw327_1), ((HB.out.cell (World.block_lt_of_cell? w _ hw327_2)).trans hw327_2), ((HB.out.cell (World.block_lt_of_cell? w _ hw327_3)).trans hw327_3), ((HB.out.cell (World.block_lt_of_cell? w _ hw327_4)).trans hw327_4), ((HB.out.cell (World.block_lt_of_cell? w _ hw328_0)).trans hw328_0), ((HB.out.cell (World.block_lt_of_cell? w _ hw328_1)).trans hw328_1), ((HB.out.cell (World.block_lt_of_cell? w _ hw328_2)).trans hw328_2), ((HB.out.cell (World.block_lt_of_cell? w _ hw328_3)).trans hw328_3), ((HB.out.cell (World.block_lt_of_cell? w _ hw328_4)).trans hw328_4)⟩ (fun hHeld => ?_)
                            clear hK K
                            refine norm_ (a' := ?_) ?_ ?_
                            rotate_left
                            · show Act.put _ (some 78) _ = _
                              simp only [Act.put, List.setIfInBounds_toArray, List.set_cons_zero, List.set_cons_succ, i64_w, i32_w]
                              rfl
                            refine pure_ (i := 11) (N := some 79) (v := ?_) (a' := ?_) #[true, true, true, true, true, true, true, true, true, true, true, true] rfl rfl (any_of HT_.out (by kernel_rfl)) (fun _ _ _ h => h) (Or.inl ⟨by rfl, ?_⟩) ?_ ?_
                            rotate_left
                            · intro w'
                              go_simp
                              with_reducible rfl
                            rotate_left
                            · simp only [Act.put, List.setIfInBounds_toArray, List.set_cons_zero, List.set_cons_succ, i64_w, i32_w]
                              rfl
                            refine done_ (done_of HT_.out (by kernel_rfl)) ?_
                            try go_wp2
                            go_roundg k3
                            case measure => have := HJ2.out; have := HK2.out; have := HK3.out; omega
                            case rel => exact ⟨(wrap64 (x65_3 + 1)), (by first | rfl | (simp; done) | (simp [*]; done)), H', ⟨by have := HJ2.out; have := HK2.out; have := HK3.out; omega⟩, ⟨by (with_reducible repeat (first | refine blk_drewN ?_ _ | refine blk_drew ?_ | refine blk_alloc ?_ _)); exact BK323.out⟩, ⟨by (with_reducible repeat (first | refine blk_drewN ?_ _ | refine blk_drew ?_ | refine blk_alloc ?_ _)); exact BK324.out⟩, ⟨by repeat (first | (with_reducible first | exact HB.out | apply below_alloc | apply pw_below_drewN | apply below_drew1 | refine below_set ?_ GE323.out | refine below_set ?_ GE324.out) | exact HB.out)⟩⟩
                          · replace c42 := Bool.eq_false_iff.mpr c42
                            subst c42
                            have H1 : (some false) = some r := by rw [if_neg (show ¬ (false = true) by decide)] at H; exact H
                            clear H
                            have H := H1
                            clear H1
                            obtain rfl := Option.some.inj H
                            try go_wp2
                            have n0_ := Aside0.mk (blk_drew BK323.out)
                            have n1_ := Aside0.mk (blk_drew BK324.out)
                            have n2_ := Aside0.mk (below_drew1 HB.out)
                            clear BK323
                            clear BK324
                            clear HB
                            have BK323 := n0_
                            have BK324 := n1_
                            have HB := n2_
                            clear n0_ n1_ n2_
                            have p327 : 0 ≤ (x65_3 : Int) := of_decide_eq_true (by first | (with_reducible assumption) | assumption)
                            have q327 : x65_3 < (l0_4.length : Int) := of_decide_eq_true (by first | (with_reducible assumption) | assumption)
                            obtain ⟨ad327, A327_3, c327_3, A327_4, c327_4, e327, hx327_0, hx327_1, hx327_2, hx327_3, hx327_4, hl327_3, hi327_3, hl327_4, hi327_4⟩ := at_T25 HR0_4.out x65_3 p327 q327
                            have hw327_4 := hx327_4
                            have hw327_3 := hx327_3
                            have hw327_2 := hx327_2
                            have hw327_1 := hx327_1
                            have hw327_0 := hx327_0
                            cases e327
                            replace hx327_0 := (HB.out.cell (World.block_lt_of_cell? w _ hx327_0)).trans hx327_0
                            replace hx327_1 := (HB.out.cell (World.block_lt_of_cell? w _ hx327_1)).trans hx327_1
                            replace hx327_2 := (HB.out.cell (World.block_lt_of_cell? w _ hx327_2)).trans hx327_2
                            replace hx327_3 := (HB.out.cell (World.block_lt_of_cell? w _ hx327_3)).trans hx327_3
                            replace hx327_4 := (HB.out.cell (World.block_lt_of_cell? w _ hx327_4)).trans hx327_4
                            have HR327_3 := Aside0.mk hi327_3
                            have HC327_3 := Aside0.mk hl327_3
                            clear hi327_3 hl327_3
                            have HR327_4 := Aside0.mk hi327_4
                            have HC327_4 := Aside0.mk hl327_4
                            clear hi327_4 hl327_4
                            replace p327 := eq_true p327
                            replace q327 := eq_true q327
                            have p328 : 0 ≤ (x65_3 : Int) := of_decide_eq_true (by first | (with_reducible assumption) | assumption)
                            have q328 : x65_3 < (l1_4.length : Int) := of_decide_eq_true (by first | (with_reducible assumption) | assumption)
                            obtain ⟨ad328, A328_3, c328_3, A328_4, c328_4, e328, hx328_0, hx328_1, hx328_2, hx328_3, hx328_4, hl328_3, hi328_3, hl328_4, hi328_4⟩ := at_T25 HR1_4.out x65_3 p328 q328
                            have hw328_4 := hx328_4
                            have hw328_3 := hx328_3
                            have hw328_2 := hx328_2
                            have hw328_1 := hx328_1
                            have hw328_0 := hx328_0
                            cases e328
                            replace hx328_0 := (HB.out.cell (World.block_lt_of_cell? w _ hx328_0)).trans hx328_0
                            replace hx328_1 := (HB.out.cell (World.block_lt_of_cell? w _ hx328_1)).trans hx328_1
                            replace hx328_2 := (HB.out.cell (World.block_lt_of_cell? w _ hx328_2)).trans hx328_2
                            replace hx328_3 := (HB.out.cell (World.block_lt_of_cell? w _ hx328_3)).trans hx328_3
                            replace hx328_4 := (HB.out.cell (World.block_lt_of_cell? w _ hx328_4)).trans hx328_4
                            have HR328_3 := Aside0.mk hi328_3
                            have HC328_3 := Aside0.mk hl328_3
                            clear hi328_3 hl328_3
                            have HR328_4 := Aside0.mk hi328_4
                            have HC328_4 := Aside0.mk hl328_4
                            clear hi328_4 hl328_4
                            replace p328 := eq_true p328
                            replace q328 := eq_true q328
                            refine start_ (n := 12) (S := fun w' => w'.cell? ⟨gb323, 0, none⟩ = some (.int .i64 a0_0) ∧ w'.cell? ⟨gb323, 1, none⟩ = some (.string a0_1) ∧ w'.cell? ⟨gb323, 2, none⟩ = some (.string a0_2) ∧ w'.cell? ⟨gb323, 3, none⟩ = some (.slice A0_3 l0_3.length c0_3) ∧ w'.cell? ⟨gb323, 4, none⟩ = some (.slice (some ad327) l0_4.length c0_4) ∧ w'.cell? ⟨gb324, 0, none⟩ = some (.int .i64 a1_0) ∧ w'.cell? ⟨gb324, 1, none⟩ = some (.string a1_1) ∧ w'.cell? ⟨gb324, 2, none⟩ = some (.string a1_2) ∧ w'.cell? ⟨gb324, 3, none⟩ = some (.slice A1_3 l1_3.length c1_3) ∧ w'.cell? ⟨gb324, 4, none⟩ = some (.slice (some ad328) l1_4.length c1_4) ∧ w'.cell? (ad327.add ((x65_3).toNat * 5)) = some (.int .i64 ((rd_T25 l0_4 x65_3).f0)) ∧ w'.cell? ⟨(ad327.add ((x65_3).toNat * 5)).block, (ad327.add ((x65_3).toNat * 5)).off + 1, none⟩ = some (.string ((rd_T25 l0_4 x65_3).f1)) ∧ w'.cell? ⟨(ad327.add ((x65_3).toNat * 5)).block, (ad327.add ((x65_3).toNat * 5)).off + 2, none⟩ = some (.string ((rd_T25 l0_4 x65_3).f2)) ∧ w'.cell? ⟨(ad327.add ((x65_3).toNat * 5)).block, (ad327.add ((x65_3).toNat * 5)).off + 3, none⟩ = some (.slice A327_3 ((rd_T25 l0_4 x65_3).f3).length c327_3) ∧ w'.cell? ⟨(ad327.add ((x65_3).toNat * 5)).block, (ad327.add ((x65_3).toNat * 5)).off + 4, none⟩ = some (.slice A327_4 ((rd_T25 l0_4 x65_3).f4).length c327_4) ∧ w'.cell? (ad328.add ((x65_3).toNat * 5)) = some (.int .i64 ((rd_T25 l1_4 x65_3).f0)) ∧ w'.cell? ⟨(ad328.add ((x65_3).toNat * 5)).block, (ad328.add ((x65_3).toNat * 5)).off + 1, none⟩ = some (.string ((rd_T25 l1_4 x65_3).f1)) ∧ w'.cell? ⟨(ad328.add ((x65_3).toNat * 5)).block, (ad328.add ((x65_3).toNat * 5)).off + 2, none⟩ = some (.string ((rd_T25 l1_4 x65_3).f2)) ∧ w'.cell? ⟨(ad328.add ((x65_3).toNat * 5)).block, (ad328.add ((x65_3).toNat * 5)).off + 3, none⟩ = some (.slice A328_3 ((rd_T25 l1_4 x65_3).f3).length c328_3) ∧ w'.cell? ⟨(ad328.add ((x65_3).toNat * 5)).block, (ad328.add ((x65_3).toNat * 5)).off + 4, none⟩ = some (.slice A328_4 ((rd_T25 l1_4 x65_3).f4).length c328_4)) (ds := []) #[false, false, false, false, false, false, false, false, false, false, false, false] (by kernel_rfl) rfl rfl ⟨(blk_cell BK323.out 0).trans rfl, (blk_cell BK323.out 1).trans rfl, (blk_cell BK323.out 2).trans rfl, (blk_cell BK323.out 3).trans rfl, (blk_cell BK323.out 4).trans rfl, (blk_cell BK324.out 0).trans rfl, (blk_cell BK324.out 1).trans rfl, (blk_cell BK324.out 2).trans rfl, (blk_cell BK324.out 3).trans rfl, (blk_cell BK324.out 4).trans rfl, ((HB.out.cell (World.block_lt_of_cell? w _ hw327_0)).trans hw327_0), ((HB.out.cell (World.block_lt_of_cell? w _ hw327_1)).trans hw327_1), ((HB.out.cell (World.block_lt_of_cell? w _ hw327_2)).trans hw327_2), ((HB.out.cell (World.block_lt_of_cell? w _ hw327_3)).trans hw327_3), ((HB.out.cell (World.block_lt_of_cell? w _ hw327_4)).trans hw327_4), ((HB.out.cell (World.block_lt_of_cell? w _ hw328_0)).trans hw328_0), ((HB.out.cell (World.block_lt_of_cell? w _ hw328_1)).trans hw328_1), ((HB.out.cell (World.block_lt_of_cell? w _ hw328_2)).trans hw328_2), ((HB.out.cell (World.block_lt_of_cell? w _ hw328_3)).trans hw328_3), ((HB.out.cell (World.block_lt_of_cell? w _ hw328_4)).trans hw328_4)⟩ (fun hHeld => ?_); refine with_tabW laws_equal29.tab12 laws_equal29.bits12 (fun HT_ HW_ => ?_)
                            generalize wr.drew = w45 at BK323 BK324 HB HR327_3 HR327_4 HR328_3 HR328_4 hx327_0 hx327_1 hx327_2 hx327_3 hx327_4 hx328_0 hx328_1 hx328_2 hx328_3 hx328_4 hHeld ⊢
                            refine pure_ (i := 0) (N := some 68) (v := ?_) (a' := ?_) #[true, false, false, false, false, false, false, false, false, false, false, false] rfl rfl (any_of HT_.out (by kernel_rfl)) (fun _ _ _ h => h) (Or.inl ⟨by rfl, ?_⟩) ?_ ?_
                            rotate_left
                            · intro w'
                              go_simp
                              with_reducible rfl
                            rotate_left
                            · simp only [Act.put, List.setIfInBounds_toArray, List.set_cons_zero, List.set_cons_succ, i64_w, i32_w]
                              rfl
                            refine pure_ (i := 2) (N := some 70) (v := ?_) (a' := ?_) #[true, false, true, false, false, false, false, false, false, false, false, false] rfl rfl (any_of HT_.out (by kernel_rfl)) (fun _ _ _ h => h) (Or.inl ⟨by rfl, ?_⟩) ?_ ?_
                            rotate_left
                            · intro w'
                              go_simp
                              with_reducible rfl
                            rotate_left
                            · simp only [Act.put, List.setIfInBounds_toArray, List.set_cons_zero, List.set_cons_succ, i64_w, i32_w]
                              rfl
                            refine pure_ (i := 5) (N := some 73) (v := ?_) (a' := ?_) #[true, false, true, false, false, true, false, false, false, false, false, false] rfl rfl (any_of HT_.out (by kernel_rfl)) (fun _ _ _ h => h) (Or.inl ⟨by rfl, ?_⟩) ?_ ?_
                            rotate_left
                            · intro w'
                              go_simp
                              with_reducible rfl
                            rotate_left
                            · simp only [Act.put, List.setIfInBounds_toArray, List.set_cons_zero, List.set_cons_succ, i64_w, i32_w]
                              rfl
                            refine pure_ (i := 7) (N := some 75) (v := ?_) (a' := ?_) #[true, false, true, false, false, true, false, true, false, false, false, false] rfl rfl (any_of HT_.out (by kernel_rfl)) (fun _ _ _ h => h) (Or.inl ⟨by rfl, ?_⟩) ?_ ?_
                            rotate_left
                            · intro w'
                              go_simp
                              with_reducible rfl
                            rotate_left
                            · simp only [Act.put, List.setIfInBounds_toArray, List.set_cons_zero, List.set_cons_succ, i64_w, i32_w]
                              rfl
                            refine take_ (i := 1) (N := some 69) (v := ?_) (a' := ?_) #[true, true, true, false, false, true, false, true, false, false, false, false] rfl rfl (take_ofW HT_.out HW_.out (by kernel_rfl)) (fun _ _ _ h => h) (Or.inl ⟨by rfl, ?_⟩) hHeld ?_ ?_
                            rotate_left
                            · rintro w' ⟨s0, s1, s2, s3, s4, s5, s6, s7, s8, s9, s10, s11, s12, s13, s14, s15, s16, s17, s18, s19⟩
                              go_simp
                              with_reducible rfl
                            rotate_left
                            · simp only [Act.put, List.setIfInBounds_toArray, List.set_cons_zero, List.set_cons_succ, i64_w, i32_w]
                              rfl
                            refine pure_ (i := 3) (N := some 71) (v := ?_) (a' := ?_) #[true, true, true, true, false, true, false, true, false, false, false, false] rfl rfl (any_of HT_.out (by kernel_rfl)) (fun _ _ _ h => h) (Or.inl ⟨by rfl, ?_⟩) ?_ ?_
                            rotate_left
                            · intro w'
                              go_simp
                              with_reducible rfl
                            rotate_left
                            · simp only [Act.put, List.setIfInBounds_toArray, List.set_cons_zero, List.set_cons_succ, i64_w, i32_w]
                              rfl
                            refine take_ (i := 4) (N := some 72) (v := ?_) (a' := ?_) #[true, true, true, true, true, true, false, true, false, false, false, false] rfl rfl (take_ofW HT_.out HW_.out (by kernel_rfl)) (fun _ _ _ h => h) (Or.inl ⟨by rfl, ?_⟩) hHeld ?_ ?_
                            rotate_left
                            · rintro w' ⟨s0, s1, s2, s3, s4, s5, s6, s7, s8, s9, s10, s11, s12, s13, s14, s15, s16, s17, s18, s19⟩
                              go_simp
                              with_reducible rfl
                            rotate_left
                            · simp only [Act.put, List.setIfInBounds_toArray, List.set_cons_zero, List.set_cons_succ, i64_w, i32_w]
                              rfl
                            refine take_ (i := 6) (N := some 74) (v := ?_) (a' := ?_) #[true, true, true, true, true, true, true, true, false, false, false, false] rfl rfl (take_ofW HT_.out HW_.out (by kernel_rfl)) (fun _ _ _ h => h) (Or.inl ⟨by rfl, ?_⟩) hHeld ?_ ?_
                            rotate_left
                            · rintro w' ⟨s0, s1, s2, s3, s4, s5, s6, s7, s8, s9, s10, s11, s12, s13, s14, s15, s16, s17, s18, s19⟩
                              go_simp
                              with_reducible rfl
                            rotate_left
                            · simp only [Act.put, List.setIfInBounds_toArray, List.set_cons_zero, List.set_cons_succ, i64_w, i32_w]
                              rfl
                            refine pure_ (i := 8) (N := some 76) (v := ?_) (a' := ?_) #[true, true, true, true, true, true, true, true, true, false, false, false] rfl rfl (any_of HT_.out (by kernel_rfl)) (fun _ _ _ h => h) (Or.inl ⟨by rfl, ?_⟩) ?_ ?_
                            rotate_left
                            · intro w'
                              go_simp
                              with_reducible rfl
                            rotate_left
                            · simp only [Act.put, List.setIfInBounds_toArray, List.set_cons_zero, List.set_cons_succ, i64_w, i32_w]
                              rfl
                            refine take_ (i := 9) (N := some 77) (v := ?_) (a' := ?_) #[true, true, true, true, true, true, true, true, true, true, false, false] rfl rfl (take_ofW HT_.out HW_.out (by kernel_rfl)) (fun _ _ _ h => h) (Or.inl ⟨by rfl, ?_⟩) hHeld ?_ ?_
                            rotate_left
                            · rintro w' ⟨s0, s1, s2, s3, s4, s5, s6, s7, s8, s9, s10, s11, s12, s13, s14, s15, s16, s17, s18, s19⟩
                              go_simp
                              with_reducible rfl
                            rotate_left
                            · simp only [Act.put, List.setIfInBounds_toArray, List.set_cons_zero, List.set_cons_succ, i64_w, i32_w]
                              rfl
                            refine one_ (i := 10) (N := some 78) #[true, true, true, true, true, true, true, true, true, true, true, false] rfl rfl (one_of HT_.out (by kernel_rfl)) (by decide) (fun K hK => ?_)
                            refine goes_ Try.func29 (by kernel_rfl) rfl #[.agg #[.int .i64 ((rd_T25 l0_4 x65_3).f0), .string ((rd_T25 l0_4 x65_3).f1), .string ((rd_T25 l0_4 x65_3).f2), .slice A327_3 ((rd_T25 l0_4 x65_3).f3).length c327_3, .slice A327_4 ((rd_T25 l0_4 x65_3).f4).length c327_4], .agg #[.int .i64 ((rd_T25 l1_4 x65_3).f0), .string ((rd_T25 l1_4 x65_3).f1), .string ((rd_T25 l1_4 x65_3).f2), .slice A328_3 ((rd_T25 l1_4 x65_3).f3).length c328_3, .slice A328_4 ((rd_T25 l1_4 x65_3).f4).length c328_4]] (by rfl) rfl rfl (by (try simp only [List.map_toArray, List.map_cons, List.map_nil]); first | done | rfl | (simp only [List.length_drop, List.length_take]; rfl)) ?_
                            with_reducible refine (ih k3 (by have := HJ2.out; have := HK2.out; have := HK3.out; omega) ((rd_T25 l0_4 x65_3).f0) ((rd_T25 l0_4 x65_3).f1) ((rd_T25 l0_4 x65_3).f2) _ _ ((rd_T25 l0_4 x65_3).f3) _ _ ((rd_T25 l0_4 x65_3).f4) ((rd_T25 l1_4 x65_3).f0) ((rd_T25 l1_4 x65_3).f1) ((rd_T25 l1_4 x65_3).f2) _ _ ((rd_T25 l1_4 x65_3).f3) _ _ ((rd_T25 l1_4 x65_3).f4) false _ ?side1 ?side2 ?side3 ?side4 ?side5 ?side6 ?side7 ?side8 A41.out).mono ?_
                            (case side1 => repeat (first | exact (Kd.C_below HR327_3.out HB.out) | (with_reducible refine Kd.C_alloc ?_ _) | (with_reducible refine Kd.C_drewN ?_ _) | (with_reducible refine Kd.C_drew ?_)))
                            (case side2 => exact HC327_3.out)
                            (case side3 => repeat (first | exact (Kd.C_below HR327_4.out HB.out) | (with_reducible refine Kd.C_alloc ?_ _) | (with_reducible refine Kd.C_drewN ?_ _) | (with_reducible refine Kd.C_drew ?_)))
                            (case side4 => exact HC327_4.out)
                            (case side5 => repeat (first | exact (Kd.C_below HR328_3.out HB.out) | (with_reducible refine Kd.C_alloc ?_ _) | (with_reducible refine Kd.C_drewN ?_ _) | (with_reducible refine Kd.C_drew ?_)))
                            (case side6 => exact HC328_3.out)
                            (case side7 => repeat (first | exact (Kd.C_below HR328_4.out HB.out) | (with_reducible refine Kd.C_alloc ?_ _) | (with_reducible refine Kd.C_drewN ?_ _) | (with_reducible refine Kd.C_drew ?_)))
                            (case side8 => exact HC328_4.out)
                            rintro e w46 ⟨rfl, hb⟩
                            refine ⟨_, rfl, ?_⟩
                            have n0_ := Aside0.mk (blk_below (g := gb323) (o := .cells #[.int .i64 a0_0, .string a0_1, .string a0_2, .slice A0_3 l0_3.length c0_3, .slice (some ad327) l0_4.length c0_4] 25 (0, 0)) (by (with_reducible repeat (first | refine blk_drewN ?_ _ | refine blk_drew ?_ | refine blk_alloc ?_ _)); exact BK323.out) hb)
                            have n1_ := Aside0.mk (blk_below (g := gb324) (o := .cells #[.int .i64 a1_0, .string a1_1, .string a1_2, .slice A1_3 l1_3.length c1_3, .slice (some ad328) l1_4.length c1_4] 25 (0, 0)) (by (with_reducible repeat (first | refine blk_drewN ?_ _ | refine blk_drew ?_ | refine blk_alloc ?_ _)); exact BK324.out) hb)
                            have n2_ := Aside0.mk (below_step (by repeat (first | (with_reducible first | exact HB.out | apply below_alloc | apply pw_below_drewN | apply below_drew1 | refine below_set ?_ GE323.out | refine below_set ?_ GE324.out) | exact HB.out)) hb)
                            clear BK323
                            clear BK324
                            clear HB
                            have BK323 := n0_
                            have BK324 := n1_
                            have HB := n2_
                            clear n0_ n1_ n2_
                            (try clear hb)
                            (try clear hb2)
                            (try clear hk)
                            (try clear hi)
                            refine hK.out _ _ ⟨(blk_cell BK323.out 0).trans rfl, (blk_cell BK323.out 1).trans rfl, (blk_cell BK323.out 2).trans rfl, (blk_cell BK323.out 3).trans rfl, (blk_cell BK323.out 4).trans rfl, (blk_cell BK324.out 0).trans rfl, (blk_cell BK324.out 1).trans rfl, (blk_cell BK324.out 2).trans rfl, (blk_cell BK324.out 3).trans rfl, (blk_cell BK324.out 4).trans rfl, ((HB.out.cell (World.block_lt_of_cell? w _ hw327_0)).trans hw327_0), ((HB.out.cell (World.block_lt_of_cell? w _ hw327_1)).trans hw327_1), ((HB.out.cell (World.block_lt_of_cell? w _ hw327_2)).trans hw327_2), ((HB.out.cell (World.block_lt_of_cell? w _ hw327_3)).trans hw327_3), ((HB.out.cell (World.block_lt_of_cell? w _ hw327_4)).trans hw327_4), ((HB.out.cell (World.block_lt_of_cell? w _ hw328_0)).trans hw328_0), ((HB.out.cell (World.block_lt_of_cell? w _ hw328_1)).trans hw328_1), ((HB.out.cell (World.block_lt_of_cell? w _ hw328_2)).trans hw328_2), ((HB.out.cell (World.block_lt_of_cell? w _ hw328_3)).trans hw328_3), ((HB.out.cell (World.block_lt_of_cell? w _ hw328_4)).trans hw328_4)⟩ (fun hHeld => ?_)
                            clear hK K
                            refine norm_ (a' := ?_) ?_ ?_
                            rotate_left
                            · show Act.put _ (some 78) _ = _
                              simp only [Act.put, List.setIfInBounds_toArray, List.set_cons_zero, List.set_cons_succ, i64_w, i32_w]
                              rfl
                            refine pure_ (i := 11) (N := some 79) (v := ?_) (a' := ?_) #[true, true, true, true, true, true, true, true, true, true, true, true] rfl rfl (any_of HT_.out (by kernel_rfl)) (fun _ _ _ h => h) (Or.inl ⟨by rfl, ?_⟩) ?_ ?_
                            rotate_left
                            · intro w'
                              go_simp
                              with_reducible rfl
                            rotate_left
                            · simp only [Act.put, List.setIfInBounds_toArray, List.set_cons_zero, List.set_cons_succ, i64_w, i32_w]
                              rfl
                            refine done_ (done_of HT_.out (by kernel_rfl)) ?_
                            try go_wp2
                            go_ret
                            exact ⟨by first | rfl | (simp [errW_none, errW_some] <;> rfl) | (simp [*, errW_none, errW_some] <;> rfl), by repeat (first | (with_reducible first | exact HB.out | apply below_alloc | apply pw_below_drewN | apply below_drew1 | refine below_set ?_ GE323.out | refine below_set ?_ GE324.out) | exact HB.out)⟩
                        · rw [if_neg c40] at H
                          exact absurd H (by simp)
                      · rw [if_neg c39] at H
                        exact absurd H (by simp)
                    · rw [if_neg c38] at H
                      exact absurd H (by simp)
                  · rw [if_neg c37] at H
                    have c37b0 : decide (x65_3 < (l0_4.length : Int)) = false := decide_eq_false c37
                    clear c37
                    obtain rfl := Option.some.inj H
                    go_wp2
                    go_ret
                    exact ⟨by first | rfl | (simp [errW_none, errW_some] <;> rfl) | (simp [*, errW_none, errW_some] <;> rfl), by repeat (first | (with_reducible first | exact HB.out | apply below_alloc | apply pw_below_drewN | apply below_drew1 | refine below_set ?_ GE323.out | refine below_set ?_ GE324.out) | exact HB.out)⟩
end Go.Proofs.Ytibfoaahdbdogaa.PDom

/- impl.at: the node at a place. -/
namespace Go.Proofs.Ytibfoaahdbdogaa.Dom
open Go.RowKit Go.Proofs.YtibfoaahdbdogaaW.PrintWords Go.Proofs.YtibfoaahdbdogaaW.PrintLast Go.Proofs.YtibfoaahdbdogaaW.PrintMore Go.Proofs.Ytibfoaahdbdogaa.PDom
set_option linter.unusedVariables false
set_option linter.unusedSimpArgs false

/-- The node at a place. -/
def RT.at_ : RT → List Int → Option RT
  | r, [] => some r
  | r, k :: l => if 0 ≤ k then (r.kids[k.toNat]?).bind fun y => RT.at_ y l else none
theorem kid_next {w : World} {D : Tab} (h : Dom w D) {p : Option Nat} {r : RT} (hr : Is D p r) {j : Nat} {x : Nat} (hx : r.kids[j]?.map RT.id = some x) : w.cell? ⟨x, 4, none⟩ = some (ptr (r.kids[j + 1]?.map RT.id)) := by
  by_cases hj : j < r.kids.length
  · rw [List.getElem?_eq_getElem hj] at hx
    have := Is.next h hr hj
    rw [Option.some.inj hx] at this
    exact this
  · rw [List.getElem?_eq_none (by omega)] at hx
    cases hx
theorem RT.preL_len (l : List RT) : l.length ≤ (RT.preL l).length ∧ ∀ k ∈ l, k.pre.length ≤ (RT.preL l).length := by
  induction l with
  | nil => exact ⟨Nat.le_refl _, fun k hk => by cases hk⟩
  | cons x l ih =>
    have hx : 0 < x.pre.length := by cases x; simp [RT.pre]
    simp only [RT.preL, List.length_append, List.length_cons]
    refine ⟨by omega, fun k hk => ?_⟩
    rcases List.mem_cons.1 hk with rfl | hk
    · omega
    · have := ih.2 k hk
      omega
theorem RT.kids_lt (r : RT) : r.kids.length < r.pre.length := by
  cases r with
  | node i t a d at_ ks =>
    have := (RT.preL_len ks).1
    simp only [RT.kids, RT.pre, List.length_cons]
    omega
theorem RT.kid_pre {r k : RT} (h : k ∈ r.kids) : k.pre.length < r.pre.length := by
  cases r with
  | node i t a d at_ ks =>
    have := (RT.preL_len ks).2 k h
    simp only [RT.pre, List.length_cons]
    omega
set_option maxHeartbeats 4000000 in
set_option maxRecDepth 100000 in
theorem at_calls (w : World) (D : Tab) (hdom : Dom w D) (p0 : Option Nat) (r : RT) (hr : Is D p0 r) (A : Option Addr) (c : Nat) (l : List Int) (hl : (Kd.int .i64).C w A l.length l) (hll : l.length ≤ 4398046510976) (hk : r.pre.length ≤ 4398046510976) :
    Calls Try.prog 41 #[ptr (some r.id), .slice A l.length c] w fun e w' => e = .returned (ptr ((r.at_ l).map RT.id)) ∧ w' = w := by
  have HD := Aside0.mk hdom
  have HR := Aside0.mk hr
  have HL := Aside0.mk hl
  have HK := Aside0.mk hk
  clear hdom hr hl hk
  rw [ptr_some]
  go_enter Try.func41, Try.ntmps41
  go_wp2_with fail
  go_loop [5, 13] (fun vx vj => ∃ (j : Nat) (y : RT) (p : Option Nat), j ≤ l.length ∧ vj = .int .i64 j ∧ vx = ptr (some y.id) ∧ Aside0 (Is D p y) ∧ Aside0 (r.at_ l = y.at_ (l.drop j)) ∧ Aside0 (y.pre.length ≤ 4398046510976)) (fun _ vj => l.length - (intOf vj).toNat)
  case atStart => exact ⟨0, r, p0, Nat.zero_le _, rfl, rfl, HR, ⟨by rw [List.drop_zero]⟩, HK⟩
  case round =>
    obtain ⟨j, y, p, hj, rfl, rfl, HY, HE, HK⟩ := hrel
    by_cases hlt : j < l.length
    · obtain ⟨ad, rfl, hcell⟩ := Kd.at_int HL.out (j : Int) (by omega) (by omega)
      have he : rd l (j : Int) = l[j] := by simp [rd, List.getD_eq_getElem?_getD, List.getElem?_eq_getElem hlt]
      rw [he, Int.toNat_natCast] at hcell
      have hdr : l.drop j = l[j] :: l.drop (j + 1) := List.drop_eq_getElem_cons hlt
      have HDR := Aside0.mk hdr
      have hf := Is.first HD.out HY.out
      have HN := Aside0.mk (fun (i x : Nat) (hx : y.kids[i]?.map RT.id = some x) => kid_next HD.out HY.out hx)
      have hkl : y.kids.length ≤ 4398046510976 := by
        have h1 := HK.out
        have h2 := RT.kids_lt y
        omega
      clear he hdr
      generalize l[j] = k at *
      rw [ptr_some]
      have HID := Aside0.mk (show (Option.some y).map RT.id = some y.id from rfl)
      generalize y.id = yi at *
      go_wp2_with fail
      go_loop [8, 9] (fun vc vi => ∃ i : Nat, i ≤ y.kids.length ∧ (i = 0 ∨ (i : Int) ≤ k) ∧ vi = .int .i64 i ∧ vc = ptr (y.kids[i]?.map RT.id)) (fun _ vi => y.kids.length - (intOf vi).toNat)
      case atStart => exact ⟨0, Nat.zero_le _, .inl rfl, rfl, rfl⟩
      case round =>
        obtain ⟨i, hi, hik, rfl, rfl⟩ := hrel
        by_cases hil : i < y.kids.length
        · have hx : y.kids[i]?.map RT.id = some y.kids[i].id := by rw [List.getElem?_eq_getElem hil]; rfl
          have hn := HN.out i _ hx
          have HX := Aside0.mk (List.getElem?_eq_getElem hil)
          rw [hx, ptr_some]
          clear hx
          have HKI := Aside0.mk (HY.out.kid (List.getElem_mem hil))
          have HKP := Aside0.mk (show (y.kids[i]).pre.length ≤ 4398046510976 by have h1 := HK.out; have h2 := RT.kid_pre (List.getElem_mem hil); omega)
          generalize hyi : y.kids[i] = z at *
          have HZ := Aside0.mk hyi
          clear hyi
          generalize hzi : z.id = zi at *
          have HZI := Aside0.mk hzi
          clear hzi
          by_cases hlk : (i : Int) < k
          · go_wp2_with fail
            go_round
            case rel => exact ⟨i + 1, by omega, by omega, by go_num, rfl⟩
            case measure => simp [intOf]; omega
          · by_cases hk0 : k < 0
            · go_wp2_with fail
              go_ret
              refine ⟨?_, rfl⟩
              rw [HE.out, HDR.out]
              unfold RT.at_
              rw [if_neg (by omega)]
              rfl
            · go_wp2_with fail
              go_round
              case rel =>
                refine ⟨j + 1, z, _, by omega, by go_num, by rw [HZI.out]; rfl, HKI, ⟨?_⟩, HKP⟩
                rw [HE.out, HDR.out]
                have hik2 : k.toNat = i := by omega
                show (if 0 ≤ k then (y.kids[k.toNat]?).bind fun y => RT.at_ y (l.drop (j + 1)) else none) = _
                rw [if_pos (by omega), hik2, HX.out]
                rfl
              case measure => simp [intOf]; omega
        · have hie : i = y.kids.length := by omega
          subst hie
          rw [List.getElem?_eq_none (Nat.le_refl _)]
          simp only [Option.map_none, ptr_none]
          have hfin : (if 0 ≤ k then (y.kids[k.toNat]?).bind fun y => RT.at_ y (l.drop (j + 1)) else none) = none := by
            by_cases h0 : 0 ≤ k
            · rw [if_pos h0, List.getElem?_eq_none (by omega)]
              rfl
            · rw [if_neg h0]
          have HFIN := Aside0.mk hfin
          clear hfin
          by_cases hlk : ((y.kids.length : Nat) : Int) < k
          all_goals
            by_cases hk0 : k < 0
            all_goals
              go_wp2_with fail
              go_ret
              refine ⟨?_, rfl⟩
              rw [HE.out, HDR.out]
              show Ending.returned (ptr none) = Ending.returned (ptr (Option.map RT.id (if 0 ≤ k then (y.kids[k.toNat]?).bind fun y => RT.at_ y (l.drop (j + 1)) else none)))
              rw [HFIN.out]
              rfl
    · have hje : j = l.length := by omega
      subst hje
      generalize hyi : y.id = yi at *
      rw [ptr_some]
      have HYI := Aside0.mk hyi
      clear hyi
      go_wp2_with fail
      go_ret
      refine ⟨?_, rfl⟩
      rw [HE.out, List.drop_length]
      show _ = Ending.returned (ptr (some y.id))
      rw [HYI.out]
      rfl
end Go.Proofs.Ytibfoaahdbdogaa.Dom

/- Places in a tree as plain data and among its nodes; first children and siblings at places. Plain facts. -/
namespace Go.Proofs.Ytibfoaahdbdogaa.PDom
open Go.RowKit Go.Proofs.YtibfoaahdbdogaaW.PrintWords Go.Proofs.YtibfoaahdbdogaaW.PrintLast Go.Proofs.YtibfoaahdbdogaaW.PrintMore Go.Proofs.Ytibfoaahdbdogaa.Dom
set_option linter.unusedVariables false
set_option linter.unusedSimpArgs false

/-- The tree at a place. -/
def atT : T → List Int → Option T
  | t, [] => some t
  | t, k :: l => if 0 ≤ k then (t.f4[k.toNat]?).bind fun y => atT y l else none
theorem atT_append (t : T) (l m : List Int) : atT t (l ++ m) = (atT t l).bind fun y => atT y m := by
  induction l generalizing t with
  | nil => rfl
  | cons k l ih =>
    simp only [List.cons_append, atT]
    by_cases h : 0 ≤ k
    · rw [if_pos h, if_pos h]
      cases t.f4[k.toNat]? with
      | none => rfl
      | some y => simp only [Option.bind_some]; exact ih y
    · rw [if_neg h, if_neg h]; rfl
theorem at_append (r : RT) (l m : List Int) : r.at_ (l ++ m) = (r.at_ l).bind fun y => y.at_ m := by
  induction l generalizing r with
  | nil => rfl
  | cons k l ih =>
    simp only [List.cons_append, RT.at_]
    by_cases h : 0 ≤ k
    · rw [if_pos h, if_pos h]
      cases r.kids[k.toNat]? with
      | none => rfl
      | some y => simp only [Option.bind_some]; exact ih y
    · rw [if_neg h, if_neg h]; rfl
theorem at_told (l : List Int) : ∀ (t : T) (r : RT) (root : Bool), Norm root t → TellsT t r →
    (atT t l = none ∧ r.at_ l = none) ∨ ∃ u y, atT t l = some u ∧ r.at_ l = some y ∧ TellsT u y ∧ ∃ root', Norm root' u := by
  induction l with
  | nil => intro t r root hn ht; exact .inr ⟨t, r, rfl, rfl, ht, root, hn⟩
  | cons k l ih =>
    intro t r root hn ht
    cases r with
    | node i ty a d at_ ks =>
      obtain ⟨hl, hk⟩ := told_open ht hn
      simp only [atT, RT.at_, RT.kids]
      by_cases h0 : 0 ≤ k
      · rw [if_pos h0, if_pos h0]
        by_cases h1 : k.toNat < ks.length
        · rw [List.getElem?_eq_getElem h1, List.getElem?_eq_getElem (show k.toNat < t.f4.length by omega)]
          exact ih _ _ false (hn.kid (List.getElem_mem _)) (hk _ (by omega) h1)
        · rw [List.getElem?_eq_none (by omega), List.getElem?_eq_none (by omega)]
          exact .inl ⟨rfl, rfl⟩
      · rw [if_neg h0, if_neg h0]
        exact .inl ⟨rfl, rfl⟩
/-! ### Which one is found -/
end Go.Proofs.Ytibfoaahdbdogaa.PDom

/- A table holds one tree at a node; no node of a tree is met twice. Plain facts. -/
namespace Go.Proofs.Ytibfoaahdbdogaa.Dom
open Go.RowKit Go.Proofs.YtibfoaahdbdogaaW.PrintWords Go.Proofs.YtibfoaahdbdogaaW.PrintLast Go.Proofs.YtibfoaahdbdogaaW.PrintMore Go.Proofs.Ytibfoaahdbdogaa.PDom
set_option linter.unusedVariables false
set_option linter.unusedSimpArgs false

theorem Is.inj {D : Tab} (r : RT) : ∀ {p q : Option Nat} {y : RT}, Is D p r → Is D q y → r.id = y.id → r = y := by
  induction r using RT.induct with
  | h i t a d at_ ks ih =>
    intro p q y hr hy e
    cases y with
    | node i2 t2 a2 d2 at2 ks2 =>
      have e : i = i2 := e
      subst e
      have h1 : D i = some ⟨p, ks.map RT.id, t, a, d, at_⟩ := hr.root
      have h2 : D i = some ⟨q, ks2.map RT.id, t2, a2, d2, at2⟩ := hy.root
      rw [h1] at h2
      injection h2 with h2
      injection h2 with _ h3 h4 h5 h6 h7
      subst h4 h5 h6 h7
      have hl : ks.length = ks2.length := by
        have := congrArg List.length h3
        simpa using this
      have : ks = ks2 := by
        apply List.ext_getElem hl
        intro j hj1 hj2
        refine ih _ (List.getElem_mem hj1) (hr.kid (List.getElem_mem hj1)) (hy.kid (List.getElem_mem hj2)) ?_
        have h8 : (ks.map RT.id)[j]'(by simpa using hj1) = (ks2.map RT.id)[j]'(by simpa using hj2) := by simp only [h3]
        simpa using h8
      rw [this]
theorem Is.sub {D : Tab} (r : RT) : ∀ {p : Option Nat} {x : Nat}, Is D p r → x ∈ r.pre → ∃ q y, Is D q y ∧ y.id = x ∧ y.pre.length ≤ r.pre.length ∧ (x = r.id ∨ ∃ z, q = some z ∧ z ∈ r.pre) := by
  induction r using RT.induct with
  | h i t a d at_ ks ih =>
    intro p x hr hx
    have hx2 : x = i ∨ x ∈ RT.preL ks := by simpa [RT.pre] using hx
    rcases hx2 with rfl | hx2
    · exact ⟨p, _, hr, rfl, Nat.le_refl _, .inl rfl⟩
    · obtain ⟨k, hk, hxk⟩ := RT.mem_preL.1 hx2
      obtain ⟨q, y, h1, h2, h3, h4⟩ := ih k hk (hr.kid hk) hxk
      have h5 : k.pre.length < (RT.node i t a d at_ ks).pre.length := RT.kid_pre (r := .node i t a d at_ ks) hk
      rcases h4 with h4 | ⟨z, rfl, hz⟩
      · have hyk : y = k := (Is.inj k (hr.kid hk) h1 (by rw [h2, h4])).symm
        subst hyk
        exact ⟨some i, y, hr.kid hk, h2, by omega, .inr ⟨i, rfl, by simp [RT.pre]⟩⟩
      · exact ⟨some z, y, h1, h2, by omega, .inr ⟨z, rfl, by simp only [RT.pre, List.mem_cons]; exact .inr (RT.mem_preL.2 ⟨k, hk, hz⟩)⟩⟩
/-- A node isn't met again below itself. -/
theorem Is.proper {D : Tab} {p : Option Nat} {r k : RT} {x : Nat} (h : Is D p r) (hk : k ∈ r.kids) (hx : x ∈ k.pre) : x ≠ r.id := by
  intro e
  obtain ⟨q, y, h1, h2, h3, _⟩ := Is.sub k (h.kid hk) hx
  have hy : r = y := Is.inj r h h1 (by rw [h2, e])
  have h4 := RT.kid_pre hk
  rw [hy] at h4
  omega
theorem Is.parent_of {D : Tab} {q : Option Nat} {y : RT} (h : Is D q y) {i : Info} (hi : D y.id = some i) : i.parent = q := by
  have := h.root
  rw [hi] at this
  obtain rfl := Option.some.inj this
  cases y
  rfl
/-- The children's trees have no node in common. -/
theorem Is.apart {D : Tab} {p : Option Nat} {r : RT} (wf : WF D) (h : Is D p r) : ∀ (n : Nat) {k1 k2 : RT} {x : Nat}, k1 ∈ r.kids → k2 ∈ r.kids → x ∈ k1.pre → x ∈ k2.pre → k1.pre.length ≤ n → k1.id = k2.id := by
  intro n
  -- the way up from x meets a child of r in each case
  have key : ∀ (m : Nat) (k1 : RT), k1 ∈ r.kids → ∀ (q : Option Nat) (y : RT), Is D q y → y.id ∈ k1.pre → ∀ (k2 : RT), k2 ∈ r.kids → y.id ∈ k2.pre → k1.pre.length - y.pre.length ≤ m → k1.id = k2.id := by
    intro m
    induction m with
    | zero =>
      intro k1 hk1 q y hy h1 k2 hk2 h2 hm
      obtain ⟨q1, y1, a1, a2, a3, a4⟩ := Is.sub k1 (h.kid hk1) h1
      have e1 : y1 = y := Is.inj y1 a1 hy a2
      subst e1
      rcases a4 with a4 | ⟨z, rfl, hz⟩
      · obtain ⟨q2, y2, b1, b2, b3, b4⟩ := Is.sub k2 (h.kid hk2) h2
        rcases b4 with b4 | ⟨z, rfl, hz⟩
        · rw [← a4, ← b4]
        · have e2 : y2 = y1 := Is.inj y2 b1 hy b2
          subst e2
          have e3 : k1 = y2 := Is.inj k1 (h.kid hk1) hy (by rw [a4])
          subst e3
          have e4 := Is.parent_of b1 (h.kid hk1).root
          have e5 := Is.parent_of (h.kid hk1) (h.kid hk1).root
          rw [e4] at e5
          have e6 : z = r.id := Option.some.inj e5
          exact absurd e6 (h.proper hk2 hz)
      · exfalso
        obtain ⟨q3, y3, c1, c2, c3, _⟩ := Is.sub k1 (h.kid hk1) hz
        have hyk : y1.id ∈ (y3.info q3).kids := by
          obtain ⟨ip, d1, d2⟩ := wf.up a1.root (show (y1.info (some z)).parent = some z by cases y1; rfl)
          have := c1.root
          rw [c2, d1] at this
          obtain rfl := Option.some.inj this
          exact d2
        have e7 : (y3.info q3).kids = y3.kids.map RT.id := by cases y3; rfl
        rw [e7] at hyk
        obtain ⟨y4, d3, d4⟩ := List.mem_map.1 hyk
        have e8 : y4 = y1 := Is.inj y4 (c1.kid d3) a1 d4
        subst e8
        have := RT.kid_pre d3
        omega
    | succ m ih =>
      intro k1 hk1 q y hy h1 k2 hk2 h2 hm
      obtain ⟨q1, y1, a1, a2, a3, a4⟩ := Is.sub k1 (h.kid hk1) h1
      have e1 : y1 = y := Is.inj y1 a1 hy a2
      subst e1
      obtain ⟨q2, y2, b1, b2, b3, b4⟩ := Is.sub k2 (h.kid hk2) h2
      have e2 : y2 = y1 := Is.inj y2 b1 hy b2
      subst e2
      have hq : q1 = q2 := (Is.parent_of a1 a1.root).symm.trans (Is.parent_of b1 a1.root)
      subst hq
      rcases a4 with a4 | ⟨z, rfl, hz⟩
      · rcases b4 with b4 | ⟨z, rfl, hz⟩
        · rw [← a4, ← b4]
        · have e3 : k1 = y2 := Is.inj k1 (h.kid hk1) hy (by rw [a4])
          subst e3
          have e5 := Is.parent_of (h.kid hk1) (h.kid hk1).root
          rw [Is.parent_of a1 (h.kid hk1).root] at e5
          have e6 : z = r.id := Option.some.inj e5
          exact absurd e6 (h.proper hk2 hz)
      · rcases b4 with b4 | ⟨z2, hz2, hz3⟩
        · have e3 : k2 = y2 := Is.inj k2 (h.kid hk2) hy (by rw [b4])
          subst e3
          have e5 := Is.parent_of (h.kid hk2) (h.kid hk2).root
          rw [Is.parent_of a1 (h.kid hk2).root] at e5
          have e6 : z = r.id := Option.some.inj e5
          exact absurd e6 (h.proper hk1 hz)
        · have e9 : z = z2 := Option.some.inj hz2
          subst e9
          obtain ⟨q3, y3, c1, c2, c3, _⟩ := Is.sub k1 (h.kid hk1) hz
          have hyk : y2.id ∈ (y3.info q3).kids := by
            obtain ⟨ip, d1, d2⟩ := wf.up a1.root (show (y2.info (some z)).parent = some z by cases y2; rfl)
            have := c1.root
            rw [c2, d1] at this
            obtain rfl := Option.some.inj this
            exact d2
          have e7 : (y3.info q3).kids = y3.kids.map RT.id := by cases y3; rfl
          rw [e7] at hyk
          obtain ⟨y4, d3, d4⟩ := List.mem_map.1 hyk
          have e8 : y4 = y2 := Is.inj y4 (c1.kid d3) a1 d4
          subst e8
          have hlt := RT.kid_pre d3
          exact ih k1 hk1 q3 y3 c1 (by rw [c2]; exact hz) k2 hk2 (by rw [c2]; exact hz3) (by omega)
  intro k1 k2 x hk1 hk2 h1 h2 _
  obtain ⟨q, y, a1, a2, _, _⟩ := Is.sub k1 (h.kid hk1) h1
  exact key k1.pre.length k1 hk1 q y a1 (by rw [a2]; exact h1) k2 hk2 (by rw [a2]; exact h2) (by omega)
theorem Is.nodup {D : Tab} (wf : WF D) (r : RT) : ∀ {p : Option Nat}, Is D p r → r.pre.Nodup := by
  induction r using RT.induct with
  | h i t a d at_ ks ih =>
    intro p hr
    have hkn : (ks.map RT.id).Nodup := wf.nodup hr.root
    show (i :: RT.preL ks).Nodup
    rw [List.nodup_cons]
    refine ⟨fun hi => ?_, ?_⟩
    · obtain ⟨k, hk, hx⟩ := RT.mem_preL.1 hi
      exact hr.proper (r := .node i t a d at_ ks) hk hx rfl
    · have key : ∀ (l l1 : List RT), ks = l1 ++ l → (RT.preL l).Nodup := by
        intro l
        induction l with
        | nil => exact fun _ _ => List.nodup_nil
        | cons k l ihl =>
          intro l1 e
          have hk : k ∈ ks := by rw [e]; simp
          have h1 := ihl (l1 ++ [k]) (by rw [e]; simp)
          have h2 := ih k hk (hr.kid (r := .node i t a d at_ ks) hk)
          simp only [RT.preL]
          rw [List.nodup_append]
          refine ⟨h2, h1, fun x hx y hy exy => ?_⟩
          subst exy
          obtain ⟨k2, hk2, hx2⟩ := RT.mem_preL.1 hy
          have hk2' : k2 ∈ ks := by rw [e]; simp [hk2]
          have e3 := Is.apart wf hr (r := .node i t a d at_ ks) k.pre.length hk hk2' hx hx2 (Nat.le_refl _)
          rw [e, List.map_append, List.map_cons, List.nodup_append] at hkn
          have h4 := (List.nodup_cons.1 hkn.2.1).1
          exact h4 (by rw [e3]; exact List.mem_map_of_mem hk2)
      exact key ks [] rfl
end Go.Proofs.Ytibfoaahdbdogaa.Dom

/- A node taken out of its parent, and a node put in: what a list of stores into nodes makes of a table. Plain facts. -/
namespace Go.Proofs.Ytibfoaahdbdogaa.Dom
open Go.RowKit Go.Proofs.YtibfoaahdbdogaaW.PrintWords Go.Proofs.YtibfoaahdbdogaaW.PrintLast Go.Proofs.YtibfoaahdbdogaaW.PrintMore
set_option linter.unusedVariables false
set_option linter.unusedSimpArgs false

/-! ### A list of stores -/
def updR (r : Rec) (k : Nat) (p : Option Nat) : Rec :=
  if k = 0 then { r with parent := p } else if k = 1 then { r with first := p } else if k = 2 then { r with last := p } else if k = 3 then { r with prev := p } else { r with next := p }
abbrev Stores := List (Nat × Nat × Option Nat)
def stAll (w : World) : Stores → World
  | [] => w
  | s :: l => stAll (st w s.1 s.2.1 s.2.2) l
def updAll (r : Rec) (b : Nat) : Stores → Rec
  | [] => r
  | s :: l => updAll (if s.1 = b then updR r s.2.1 s.2.2 else r) b l
theorem Has.upd {w : World} {b : Nat} {r : Rec} (h : Has w b r) (k : Nat) (hk : k < 5) (p : Option Nat) : Has (Dom.st w b k p) b (updR r k p) := by
  rcases k with _ | _ | _ | _ | _ | k
  · exact h.put0 p
  · exact h.put1 p
  · exact h.put2 p
  · exact h.put3 p
  · exact h.put4 p
  · omega
theorem Has.stored {b : Nat} (l : Stores) : ∀ {w : World} {r : Rec}, Has w b r → (∀ s ∈ l, s.2.1 < 5) → Has (stAll w l) b (updAll r b l) := by
  induction l with
  | nil => exact fun h _ => h
  | cons s l ih =>
    intro w r h hl
    obtain ⟨x, k, p⟩ := s
    show Has (stAll (Dom.st w x k p) l) b (updAll (if x = b then updR r k p else r) b l)
    refine ih ?_ (fun s hs => hl s (List.mem_cons_of_mem _ hs))
    by_cases hb : x = b
    · subst hb
      rw [if_pos rfl]
      exact h.upd k (hl _ List.mem_cons_self) p
    · rw [if_neg hb]
      exact h.st (fun e => hb e.symm) k p
theorem AttrAt.stored {v : Value} {a : List (ByteArray × ByteArray)} (l : Stores) : ∀ {w : World}, AttrAt w v a → (∀ s ∈ l, s.2.1 < 5 ∧ ∃ r, Has w s.1 r) → AttrAt (stAll w l) v a := by
  induction l with
  | nil => exact fun h _ => h
  | cons s l ih =>
    intro w h hl
    obtain ⟨x, k, p⟩ := s
    obtain ⟨hk, r, hr⟩ := hl _ List.mem_cons_self
    refine ih (h.st hr k p) (fun s hs => ?_)
    obtain ⟨hk2, r2, hr2⟩ := hl s (List.mem_cons_of_mem _ hs)
    refine ⟨hk2, ?_⟩
    by_cases hx : s.1 = x
    · rw [hx] at hr2 ⊢
      exact ⟨_, hr2.upd k hk p⟩
    · exact ⟨_, hr2.st hx k p⟩
theorem Only.stored {D : Tab} {w0 : World} (l : Stores) : ∀ {w : World}, Only D w0 w → (∀ s ∈ l, D s.1 ≠ none) → Only D w0 (stAll w l) := by
  induction l with
  | nil => exact fun h _ => h
  | cons s l ih =>
    intro w h hl
    exact ih (h.st (hl s List.mem_cons_self) _ _) (fun s hs => hl s (List.mem_cons_of_mem _ hs))
theorem Dom.stored {w : World} {D D' : Tab} (h : Dom w D) (l : Stores) (hl : ∀ s ∈ l, D s.1 ≠ none ∧ s.2.1 < 5) (wf : WF D')
    (hd : ∀ b i', D' b = some i' → ∃ i, D b = some i ∧ i'.attrs = i.attrs ∧ ∀ v, updAll (recOf D b i v) b l = recOf D' b i' v) : Dom (stAll w l) D' := by
  refine ⟨wf, fun {b i'} hb => ?_⟩
  obtain ⟨i, hi, ha, hr⟩ := hd b i' hb
  obtain ⟨v, hv, hA⟩ := h.has hi
  refine ⟨v, ?_, ?_⟩
  · rw [← hr v]
    exact hv.stored l (fun s hs => (hl s hs).2)
  · rw [ha]
    refine hA.stored l (fun s hs => ⟨(hl s hs).2, ?_⟩)
    cases hx : D s.1 with
    | none => exact absurd hx (hl s hs).1
    | some ix =>
      obtain ⟨vx, hvx, _⟩ := h.has hx
      exact ⟨_, hvx⟩

/-! ### Neighbours, where a list is in two parts -/
theorem next_l1 {m1 m2 r : List Nat} {b : Nat} (h : b ∉ m1) : nextIn ((m1 ++ b :: m2) ++ r) b = (m2 ++ r).head? := by
  rw [List.append_assoc, List.cons_append, nextIn_split h]
theorem prev_l1 {m1 m2 r : List Nat} {b : Nat} (h2 : b ∉ m2) (h3 : b ∉ r) : prevIn ((m1 ++ b :: m2) ++ r) b = m1.getLast? := by
  rw [List.append_assoc, List.cons_append, prevIn_split (by simp [h2, h3])]
theorem next_l2 {m1 m2 r : List Nat} {b : Nat} (h : b ∉ m1) (h2 : b ∉ r) : nextIn (r ++ (m1 ++ b :: m2)) b = m2.head? := by
  rw [← List.append_assoc, nextIn_split (by simp [h, h2])]
theorem prev_l2 {m1 m2 r : List Nat} {b : Nat} (h2 : b ∉ m2) : prevIn (r ++ (m1 ++ b :: m2)) b = (r ++ m1).getLast? := by
  rw [← List.append_assoc, prevIn_split h2]

theorem gl2 (c : Nat) (m : List Nat) (y : Nat) : (c :: (m ++ [y])).getLast? = some y := by rw [← List.cons_append, List.getLast?_append]; rfl
theorem gl3 (l : List Nat) (y : Nat) : (l ++ [y]).getLast? = some y := by simp
/-! ### What changes: the children of n, the parent of c -/
def relink (D : Tab) (n c : Nat) (i ic : Info) (K : List Nat) (pc : Option Nat) : Tab := put (put D n { i with kids := K }) c { ic with parent := pc }
section
variable {D : Tab} {n c : Nat} {i ic : Info} {K : List Nat} {pc : Option Nat}
theorem relink_n (hne : n ≠ c) : relink D n c i ic K pc n = some { i with kids := K } := by unfold relink; rw [put_other _ _ hne, put_same]
theorem relink_c : relink D n c i ic K pc c = some { ic with parent := pc } := put_same _ _ _
theorem relink_o {b : Nat} (h1 : b ≠ n) (h2 : b ≠ c) : relink D n c i ic K pc b = D b := by unfold relink; rw [put_other _ _ h2, put_other _ _ h1]
theorem relink_kids (hne : n ≠ c) (hc : D c = some ic) (p : Nat) : kidsOf (relink D n c i ic K pc) p = if p = n then K else kidsOf D p := by
  unfold relink
  rw [kidsOf_put, kidsOf_put]
  by_cases hp : p = c
  · subst hp
    rw [if_pos rfl, if_neg (fun e => hne e.symm), kidsOf_some hc]
  · rw [if_neg hp]
theorem relink_sibs (hne : n ≠ c) (hc : D c = some ic) {j : Info} (hj : j.parent ≠ some n) : sibs (relink D n c i ic K pc) j = sibs D j := by
  unfold sibs
  cases hp : j.parent with
  | none => rfl
  | some p =>
    simp only [hp]
    rw [relink_kids hne hc, if_neg (fun e => hj (by rw [hp, e]))]
end

/-! ### Taken out -/
def rmStores (n c : Nat) (l1 l2 : List Nat) : Stores :=
  (if l1 = [] then [(n, 1, l2.head?)] else []) ++ ((match l2.head? with | some y => [(y, 3, l1.getLast?)] | none => []) ++ ((if l2 = [] then [(n, 2, l1.getLast?)] else []) ++ ((match l1.getLast? with | some x => [(x, 4, l2.head?)] | none => []) ++ [(c, 0, none), (c, 3, none), (c, 4, none)])))
theorem updAll_append (r : Rec) (b : Nat) (l m : Stores) : updAll r b (l ++ m) = updAll (updAll r b l) b m := by
  induction l generalizing r with
  | nil => rfl
  | cons s l ih => exact ih _
theorem rm_upd (r : Rec) (b n c : Nat) (l1 l2 : List Nat) : updAll r b (rmStores n c l1 l2) =
    { r with
      parent := if c = b then none else r.parent
      first := if n = b ∧ l1 = [] then l2.head? else r.first
      last := if n = b ∧ l2 = [] then l1.getLast? else r.last
      prev := if c = b then none else if l2.head? = some b then l1.getLast? else r.prev
      next := if c = b then none else if l1.getLast? = some b then l2.head? else r.next } := by
  have h1 : ∀ r : Rec, updAll r b (if l1 = [] then [(n, 1, l2.head?)] else []) = { r with first := if n = b ∧ l1 = [] then l2.head? else r.first } := by
    intro r
    by_cases hl : l1 = []
    · rw [if_pos hl]
      by_cases hn : n = b <;> simp [updAll, updR, hn, hl]
    · rw [if_neg hl]
      simp [updAll, hl]
  have h2 : ∀ r : Rec, updAll r b (match l2.head? with | some y => [(y, 3, l1.getLast?)] | none => []) = { r with prev := if l2.head? = some b then l1.getLast? else r.prev } := by
    intro r
    cases l2.head? with
    | none => simp [updAll]
    | some y => by_cases hn : y = b <;> simp [updAll, updR, hn]
  have h3 : ∀ r : Rec, updAll r b (if l2 = [] then [(n, 2, l1.getLast?)] else []) = { r with last := if n = b ∧ l2 = [] then l1.getLast? else r.last } := by
    intro r
    by_cases hl : l2 = []
    · rw [if_pos hl]
      by_cases hn : n = b <;> simp [updAll, updR, hn, hl]
    · rw [if_neg hl]
      simp [updAll, hl]
  have h4 : ∀ r : Rec, updAll r b (match l1.getLast? with | some x => [(x, 4, l2.head?)] | none => []) = { r with next := if l1.getLast? = some b then l2.head? else r.next } := by
    intro r
    cases l1.getLast? with
    | none => simp [updAll]
    | some y => by_cases hn : y = b <;> simp [updAll, updR, hn]
  have h5 : ∀ r : Rec, updAll r b [(c, 0, none), (c, 3, none), (c, 4, none)] = { r with parent := if c = b then none else r.parent, prev := if c = b then none else r.prev, next := if c = b then none else r.next } := by
    intro r
    by_cases hn : c = b <;> simp [updAll, updR, hn]
  unfold rmStores
  rw [updAll_append, updAll_append, updAll_append, updAll_append, h1, h2, h3, h4, h5]
theorem Dom.no_loop {w : World} {D : Tab} (h : Dom w D) {n : Nat} {i : Info} (hn : D n = some i) (hself : i.parent ≠ some n) : n ∉ i.kids := fun hm => by
  have := h.kid_parent hn hn hm
  exact hself this
/-- RemoveChild, as stores. -/
theorem Dom.remove {w : World} {D : Tab} (h : Dom w D) {n c : Nat} {i ic : Info} {l1 l2 : List Nat} (hn : D n = some i) (hc : D c = some ic) (hK : i.kids = l1 ++ c :: l2) (hself : i.parent ≠ some n) :
    Dom (stAll w (rmStores n c l1 l2)) (relink D n c i ic (l1 ++ l2) none) ∧ Only D w (stAll w (rmStores n c l1 l2)) := by
  have hcm : c ∈ i.kids := by rw [hK]; simp
  have hpc : ic.parent = some n := h.kid_parent hn hc hcm
  have hne : n ≠ c := fun e => h.no_loop hn hself (by rw [e]; rw [← e] at hcm ⊢; exact hcm)
  have hnd0 := h.wf.nodup hn
  rw [hK] at hnd0
  obtain ⟨d1, d2, d3⟩ := nodup_split hnd0
  have in1 : ∀ x ∈ l1, x ∈ i.kids := fun x hx => by rw [hK]; simp [hx]
  have in2 : ∀ x ∈ l2, x ∈ i.kids := fun x hx => by rw [hK]; simp [hx]
  have kd : ∀ x ∈ i.kids, D x ≠ none := fun x hx => by
    obtain ⟨ix, h1, _⟩ := h.wf.down hn hx
    rw [h1]; simp
  have hl : ∀ s ∈ rmStores n c l1 l2, D s.1 ≠ none ∧ s.2.1 < 5 := by
    intro s hs
    unfold rmStores at hs
    rcases List.mem_append.1 hs with hs | hs
    · split at hs
      · obtain rfl := List.mem_singleton.1 hs
        exact ⟨by rw [hn]; simp, by simp⟩
      · cases hs
    rcases List.mem_append.1 hs with hs | hs
    · split at hs
      · rename_i y hy
        obtain rfl := List.mem_singleton.1 hs
        exact ⟨kd _ (in2 _ (List.mem_of_mem_head? hy)), by simp⟩
      · cases hs
    rcases List.mem_append.1 hs with hs | hs
    · split at hs
      · obtain rfl := List.mem_singleton.1 hs
        exact ⟨by rw [hn]; simp, by simp⟩
      · cases hs
    rcases List.mem_append.1 hs with hs | hs
    · split at hs
      · rename_i y hy
        obtain rfl := List.mem_singleton.1 hs
        exact ⟨kd _ (in1 _ (List.mem_of_getLast? hy)), by simp⟩
      · cases hs
    · simp only [List.mem_cons, List.not_mem_nil, or_false] at hs
      rcases hs with rfl | rfl | rfl <;> exact ⟨by rw [hc]; simp, by simp⟩
  refine ⟨h.stored _ hl ?_ ?_, (Only.refl D w).stored _ (fun s hs => (hl s hs).1)⟩
  · refine ⟨?_, ?_, ?_⟩
    · intro b j p hb hp
      have hbc : b ≠ c := fun e => by
        subst e
        rw [relink_c] at hb
        obtain rfl := Option.some.inj hb
        cases hp
      have key : ∃ j0, D b = some j0 ∧ j0.parent = some p := by
        by_cases hbn : b = n
        · subst hbn
          rw [relink_n hne] at hb
          obtain rfl := Option.some.inj hb
          exact ⟨i, hn, hp⟩
        · rw [relink_o hbn hbc] at hb
          exact ⟨j, hb, hp⟩
      obtain ⟨j0, h0, hp0⟩ := key
      obtain ⟨ip, hip, hm⟩ := h.wf.up h0 hp0
      by_cases hpn : p = n
      · subst hpn
        rw [hn] at hip
        obtain rfl := Option.some.inj hip
        rw [hK] at hm
        exact ⟨_, relink_n hne, by simp at hm ⊢; rcases hm with h1 | h1 | h1; exact .inl h1; exact absurd h1 hbc; exact .inr h1⟩
      · by_cases hpc2 : p = c
        · subst hpc2
          rw [hc] at hip
          obtain rfl := Option.some.inj hip
          exact ⟨_, relink_c, hm⟩
        · exact ⟨ip, by rw [relink_o hpn hpc2]; exact hip, hm⟩
    · intro b j x hb hx
      have key : ∃ j0, D b = some j0 ∧ x ∈ j0.kids ∧ (b = n → x ≠ c) := by
        by_cases hbn : b = n
        · subst hbn
          rw [relink_n hne] at hb
          obtain rfl := Option.some.inj hb
          have hx' : x ∈ l1 ++ l2 := hx
          refine ⟨i, hn, by rw [hK]; simp at hx' ⊢; rcases hx' with h1 | h1; exact .inl h1; exact .inr (.inr h1), fun _ e => ?_⟩
          subst e
          rcases List.mem_append.1 hx' with h1 | h1
          · exact d1 h1
          · exact d2 h1
        · by_cases hbc : b = c
          · subst hbc
            rw [relink_c] at hb
            obtain rfl := Option.some.inj hb
            exact ⟨ic, hc, hx, fun e => absurd e hbn⟩
          · rw [relink_o hbn hbc] at hb
            exact ⟨j, hb, hx, fun e => absurd e hbn⟩
      obtain ⟨j0, h0, hx0, hxc0⟩ := key
      obtain ⟨ix, hix, hpx⟩ := h.wf.down h0 hx0
      have hxc : x ≠ c := fun e => by
        subst e
        rw [hc] at hix
        obtain rfl := Option.some.inj hix
        rw [hpc] at hpx
        exact hxc0 (Option.some.inj hpx).symm rfl
      by_cases hxn : x = n
      · subst hxn
        rw [hn] at hix
        obtain rfl := Option.some.inj hix
        exact ⟨_, relink_n hne, hpx⟩
      · exact ⟨ix, by rw [relink_o hxn hxc]; exact hix, hpx⟩
    · intro b j hb
      by_cases hbn : b = n
      · subst hbn
        rw [relink_n hne] at hb
        obtain rfl := Option.some.inj hb
        exact d3
      · by_cases hbc : b = c
        · subst hbc
          rw [relink_c] at hb
          obtain rfl := Option.some.inj hb
          show ic.kids.Nodup
          exact h.wf.nodup hc
        · rw [relink_o hbn hbc] at hb
          exact h.wf.nodup hb
  · intro b j hb
    have hnl : n ∉ i.kids := h.no_loop hn hself
    by_cases hbn : b = n
    · subst hbn
      rw [relink_n hne] at hb
      obtain rfl := Option.some.inj hb
      refine ⟨i, hn, rfl, fun v => ?_⟩
      rw [rm_upd]
      have e1 : l2.head? ≠ some b := fun e => hnl (in2 _ (List.mem_of_mem_head? e))
      have e2 : l1.getLast? ≠ some b := fun e => hnl (in1 _ (List.mem_of_getLast? e))
      have e3 : c ≠ b := fun e => hne e.symm
      unfold recOf
      rw [relink_sibs (j := { i with kids := l1 ++ l2 }) hne hc hself]
      simp only [if_neg e1, if_neg e2, if_neg e3, true_and, hK]
      congr 1
      · cases l1 <;> simp
      · rcases List.eq_nil_or_concat l2 with rfl | ⟨m, y, rfl⟩
        · simp
        · simp [gl2]
    · by_cases hbc : b = c
      · subst hbc
        rw [relink_c] at hb
        obtain rfl := Option.some.inj hb
        refine ⟨ic, hc, rfl, fun v => ?_⟩
        rw [rm_upd]
        have e3 : ¬ n = b := hne
        unfold recOf
        rw [sibs_none (i := { ic with parent := none }) rfl]
        simp only [if_true, e3, false_and, if_false]
        rfl
      · rw [relink_o hbn hbc] at hb
        refine ⟨j, hb, rfl, fun v => ?_⟩
        rw [rm_upd]
        have e3 : ¬ n = b := fun e => hbn e.symm
        have e4 : ¬ c = b := fun e => hbc e.symm
        unfold recOf
        simp only [e3, e4, false_and, if_false]
        by_cases hp : j.parent = some n
        · have hm : b ∈ i.kids := h.kid_of hn hb hp
          rw [sibs_some hp, sibs_some hp, relink_kids hne hc, if_pos rfl, kidsOf_some hn, hK]
          rw [hK] at hm
          rcases List.mem_append.1 hm with hm | hm
          · obtain ⟨m1, m2, rfl⟩ := List.append_of_mem hm
            have hnd2 : ((m1 ++ b :: m2) ++ (c :: l2)).Nodup := by simpa using hnd0
            rw [List.nodup_append] at hnd2
            obtain ⟨x1, x2, x3⟩ := hnd2
            obtain ⟨y1, y2, _⟩ := nodup_split x1
            have y3 : b ∉ c :: l2 := fun hx => x3 b (by simp) b hx rfl
            have y4 : b ∉ l2 := fun hx => y3 (List.mem_cons_of_mem _ hx)
            have e5 : l2.head? ≠ some b := fun e => y4 (List.mem_of_mem_head? e)
            rw [next_l1 y1, next_l1 y1, prev_l1 y2 y3, prev_l1 y2 y4, if_neg e5]
            rcases List.eq_nil_or_concat m2 with rfl | ⟨m, y, rfl⟩
            · simp
            · have e6 : (m1 ++ b :: (m ++ [y])).getLast? ≠ some b := by
                intro e
                rw [show m1 ++ b :: (m ++ [y]) = (m1 ++ b :: m) ++ [y] by simp, gl3] at e
                obtain rfl := Option.some.inj e
                exact y2 (by simp)
              rw [if_neg (by simpa using e6)]
              cases m <;> simp
          · have hm2 : b ∈ l2 := by
              rcases List.mem_cons.1 hm with h1 | h1
              · exact absurd h1 hbc
              · exact h1
            obtain ⟨m1, m2, rfl⟩ := List.append_of_mem hm2
            have hnd2 : (l1 ++ [c] ++ (m1 ++ b :: m2)).Nodup := by simpa using hnd0
            rw [List.nodup_append] at hnd2
            obtain ⟨x1, x2, x3⟩ := hnd2
            obtain ⟨y1, y2, _⟩ := nodup_split x2
            have y3 : b ∉ l1 ++ [c] := fun hx => x3 b hx b (by simp) rfl
            have y4 : b ∉ l1 := fun hx => y3 (by simp [hx])
            have e5 : l1.getLast? ≠ some b := fun e => y4 (List.mem_of_getLast? e)
            rw [if_neg e5, show l1 ++ c :: (m1 ++ b :: m2) = (l1 ++ [c]) ++ (m1 ++ b :: m2) by simp, next_l2 y1 y3, next_l2 y1 y4, prev_l2 y2, prev_l2 y2]
            cases m1 with
            | nil => simp
            | cons y m =>
              have e6 : ((y :: m) ++ b :: m2).head? ≠ some b := by
                intro e
                have : y = b := by simpa using e
                subst this
                exact y1 (by simp)
              rw [if_neg e6]
              rcases List.eq_nil_or_concat (y :: m) with h0 | ⟨m', y', h0⟩
              · cases h0
              · rw [h0]
                simp [gl2]
        · have hbk : b ∉ i.kids := fun hm => hp (h.kid_parent hn hb hm)
          have e5 : l2.head? ≠ some b := fun e => hbk (in2 _ (List.mem_of_mem_head? e))
          have e6 : l1.getLast? ≠ some b := fun e => hbk (in1 _ (List.mem_of_getLast? e))
          rw [if_neg e5, if_neg e6, relink_sibs hne hc hp]
/-! ### Put in -/
def inStores (n c : Nat) (l1 l2 : List Nat) : Stores :=
  (match l1.getLast? with | some x => [(x, 4, some c)] | none => [(n, 1, some c)]) ++ ((match l2.head? with | some y => [(y, 3, some c)] | none => [(n, 2, some c)]) ++ [(c, 0, some n), (c, 3, l1.getLast?), (c, 4, l2.head?)])
theorem in_upd (r : Rec) (b n c : Nat) (l1 l2 : List Nat) : updAll r b (inStores n c l1 l2) =
    { r with
      parent := if c = b then some n else r.parent
      first := if n = b ∧ l1.getLast? = none then some c else r.first
      last := if n = b ∧ l2.head? = none then some c else r.last
      prev := if c = b then l1.getLast? else if l2.head? = some b then some c else r.prev
      next := if c = b then l2.head? else if l1.getLast? = some b then some c else r.next } := by
  have h1 : ∀ r : Rec, updAll r b (match l1.getLast? with | some x => [(x, 4, some c)] | none => [(n, 1, some c)]) = { r with first := if n = b ∧ l1.getLast? = none then some c else r.first, next := if l1.getLast? = some b then some c else r.next } := by
    intro r
    cases l1.getLast? with
    | none => by_cases hn : n = b <;> simp [updAll, updR, hn]
    | some y => by_cases hn : y = b <;> simp [updAll, updR, hn]
  have h2 : ∀ r : Rec, updAll r b (match l2.head? with | some y => [(y, 3, some c)] | none => [(n, 2, some c)]) = { r with last := if n = b ∧ l2.head? = none then some c else r.last, prev := if l2.head? = some b then some c else r.prev } := by
    intro r
    cases l2.head? with
    | none => by_cases hn : n = b <;> simp [updAll, updR, hn]
    | some y => by_cases hn : y = b <;> simp [updAll, updR, hn]
  have h5 : ∀ r : Rec, updAll r b [(c, 0, some n), (c, 3, l1.getLast?), (c, 4, l2.head?)] = { r with parent := if c = b then some n else r.parent, prev := if c = b then l1.getLast? else r.prev, next := if c = b then l2.head? else r.next } := by
    intro r
    by_cases hn : c = b <;> simp [updAll, updR, hn]
  unfold inStores
  rw [updAll_append, updAll_append, h1, h2, h5]
/-- InsertBefore and AppendChild, as stores. -/
theorem Dom.insert {w : World} {D : Tab} (h : Dom w D) {n c : Nat} {i ic : Info} {l1 l2 : List Nat} (hn : D n = some i) (hc : D c = some ic) (hK : i.kids = l1 ++ l2) (hne : n ≠ c) (hroot : ic.parent = none) (hself : i.parent ≠ some n) :
    Dom (stAll w (inStores n c l1 l2)) (relink D n c i ic (l1 ++ c :: l2) (some n)) ∧ Only D w (stAll w (inStores n c l1 l2)) := by
  have hcn : c ∉ i.kids := h.kid_ne hn hc hroot
  have hnd0 := h.wf.nodup hn
  rw [hK] at hnd0 hcn
  have c1 : c ∉ l1 := fun hx => hcn (by simp [hx])
  have c2 : c ∉ l2 := fun hx => hcn (by simp [hx])
  have in1 : ∀ x ∈ l1, x ∈ i.kids := fun x hx => by rw [hK]; simp [hx]
  have in2 : ∀ x ∈ l2, x ∈ i.kids := fun x hx => by rw [hK]; simp [hx]
  have kd : ∀ x ∈ i.kids, D x ≠ none := fun x hx => by
    obtain ⟨ix, h1, _⟩ := h.wf.down hn hx
    rw [h1]; simp
  have hl : ∀ s ∈ inStores n c l1 l2, D s.1 ≠ none ∧ s.2.1 < 5 := by
    intro s hs
    unfold inStores at hs
    rcases List.mem_append.1 hs with hs | hs
    · split at hs
      · rename_i y hy
        obtain rfl := List.mem_singleton.1 hs
        exact ⟨kd _ (in1 _ (List.mem_of_getLast? hy)), by simp⟩
      · obtain rfl := List.mem_singleton.1 hs
        exact ⟨by rw [hn]; simp, by simp⟩
    rcases List.mem_append.1 hs with hs | hs
    · split at hs
      · rename_i y hy
        obtain rfl := List.mem_singleton.1 hs
        exact ⟨kd _ (in2 _ (List.mem_of_mem_head? hy)), by simp⟩
      · obtain rfl := List.mem_singleton.1 hs
        exact ⟨by rw [hn]; simp, by simp⟩
    · simp only [List.mem_cons, List.not_mem_nil, or_false] at hs
      rcases hs with rfl | rfl | rfl <;> exact ⟨by rw [hc]; simp, by simp⟩
  refine ⟨h.stored _ hl ?_ ?_, (Only.refl D w).stored _ (fun s hs => (hl s hs).1)⟩
  · refine ⟨?_, ?_, ?_⟩
    · intro b j p hb hp
      by_cases hbc : b = c
      · subst hbc
        rw [relink_c] at hb
        obtain rfl := Option.some.inj hb
        obtain rfl := Option.some.inj hp
        exact ⟨_, relink_n hne, by simp⟩
      · have key : ∃ j0, D b = some j0 ∧ j0.parent = some p := by
          by_cases hbn : b = n
          · subst hbn
            rw [relink_n hne] at hb
            obtain rfl := Option.some.inj hb
            exact ⟨i, hn, hp⟩
          · rw [relink_o hbn hbc] at hb
            exact ⟨j, hb, hp⟩
        obtain ⟨j0, h0, hp0⟩ := key
        obtain ⟨ip, hip, hm⟩ := h.wf.up h0 hp0
        by_cases hpn : p = n
        · subst hpn
          rw [hn] at hip
          obtain rfl := Option.some.inj hip
          rw [hK] at hm
          exact ⟨_, relink_n hne, by simp at hm ⊢; rcases hm with h1 | h1; exact .inl h1; exact .inr (.inr h1)⟩
        · by_cases hpc2 : p = c
          · subst hpc2
            rw [hc] at hip
            obtain rfl := Option.some.inj hip
            exact ⟨_, relink_c, hm⟩
          · exact ⟨ip, by rw [relink_o hpn hpc2]; exact hip, hm⟩
    · intro b j x hb hx
      by_cases hxc : x = c
      · subst hxc
        by_cases hbn : b = n
        · subst hbn
          exact ⟨_, relink_c, rfl⟩
        · exfalso
          have key : ∃ j0, D b = some j0 ∧ x ∈ j0.kids := by
            by_cases hbc : b = x
            · subst hbc
              rw [relink_c] at hb
              obtain rfl := Option.some.inj hb
              exact ⟨ic, hc, hx⟩
            · rw [relink_o hbn hbc] at hb
              exact ⟨j, hb, hx⟩
          obtain ⟨j0, h0, hx0⟩ := key
          have := h.kid_parent h0 hc hx0
          rw [hroot] at this
          cases this
      · have key : ∃ j0, D b = some j0 ∧ x ∈ j0.kids := by
          by_cases hbn : b = n
          · subst hbn
            rw [relink_n hne] at hb
            obtain rfl := Option.some.inj hb
            have hx' : x ∈ l1 ++ c :: l2 := hx
            refine ⟨i, hn, ?_⟩
            rw [hK]
            simp at hx' ⊢
            rcases hx' with h1 | h1 | h1
            · exact .inl h1
            · exact absurd h1 hxc
            · exact .inr h1
          · by_cases hbc : b = c
            · subst hbc
              rw [relink_c] at hb
              obtain rfl := Option.some.inj hb
              exact ⟨ic, hc, hx⟩
            · rw [relink_o hbn hbc] at hb
              exact ⟨j, hb, hx⟩
        obtain ⟨j0, h0, hx0⟩ := key
        obtain ⟨ix, hix, hpx⟩ := h.wf.down h0 hx0
        by_cases hxn : x = n
        · subst hxn
          rw [hn] at hix
          obtain rfl := Option.some.inj hix
          exact ⟨_, relink_n hne, hpx⟩
        · exact ⟨ix, by rw [relink_o hxn hxc]; exact hix, hpx⟩
    · intro b j hb
      by_cases hbn : b = n
      · subst hbn
        rw [relink_n hne] at hb
        obtain rfl := Option.some.inj hb
        show (l1 ++ c :: l2).Nodup
        rw [List.nodup_append] at hnd0 ⊢
        obtain ⟨x1, x2, x3⟩ := hnd0
        refine ⟨x1, List.nodup_cons.2 ⟨c2, x2⟩, fun a ha y hy e => ?_⟩
        rcases List.mem_cons.1 hy with rfl | hy
        · exact c1 (e ▸ ha)
        · exact x3 a ha y hy e
      · by_cases hbc : b = c
        · subst hbc
          rw [relink_c] at hb
          obtain rfl := Option.some.inj hb
          show ic.kids.Nodup
          exact h.wf.nodup hc
        · rw [relink_o hbn hbc] at hb
          exact h.wf.nodup hb
  · intro b j hb
    have hnl : n ∉ i.kids := h.no_loop hn hself
    by_cases hbn : b = n
    · subst hbn
      rw [relink_n hne] at hb
      obtain rfl := Option.some.inj hb
      refine ⟨i, hn, rfl, fun v => ?_⟩
      rw [in_upd]
      have e1 : l2.head? ≠ some b := fun e => hnl (in2 _ (List.mem_of_mem_head? e))
      have e2 : l1.getLast? ≠ some b := fun e => hnl (in1 _ (List.mem_of_getLast? e))
      have e3 : c ≠ b := fun e => hne e.symm
      unfold recOf
      rw [relink_sibs (j := { i with kids := l1 ++ c :: l2 }) hne hc hself]
      simp only [if_neg e1, if_neg e2, if_neg e3, true_and, hK]
      congr 1
      · cases l1 <;> simp
      · rcases List.eq_nil_or_concat l2 with rfl | ⟨m, y, rfl⟩
        · simp
        · cases m <;> simp
    · by_cases hbc : b = c
      · subst hbc
        rw [relink_c] at hb
        obtain rfl := Option.some.inj hb
        refine ⟨ic, hc, rfl, fun v => ?_⟩
        rw [in_upd]
        have e3 : ¬ n = b := hne
        have hs : sibs (relink D n b i ic (l1 ++ b :: l2) (some n)) { ic with parent := some n } = l1 ++ b :: l2 := by rw [sibs_some (i := { ic with parent := some n }) rfl, relink_kids hne hc, if_pos rfl]
        unfold recOf
        rw [hs, prevIn_split c2, nextIn_split c1]
        simp only [if_true, e3, false_and, if_false]
      · rw [relink_o hbn hbc] at hb
        refine ⟨j, hb, rfl, fun v => ?_⟩
        rw [in_upd]
        have e3 : ¬ n = b := fun e => hbn e.symm
        have e4 : ¬ c = b := fun e => hbc e.symm
        unfold recOf
        simp only [e3, e4, false_and, if_false]
        by_cases hp : j.parent = some n
        · have hm : b ∈ i.kids := h.kid_of hn hb hp
          rw [sibs_some hp, sibs_some hp, relink_kids hne hc, if_pos rfl, kidsOf_some hn, hK]
          rw [hK] at hm
          rw [List.nodup_append] at hnd0
          obtain ⟨x1, x2, x3⟩ := hnd0
          rcases List.mem_append.1 hm with hm | hm
          · obtain ⟨m1, m2, rfl⟩ := List.append_of_mem hm
            obtain ⟨y1, y2, _⟩ := nodup_split x1
            have y4 : b ∉ l2 := fun hx => x3 b (by simp) b hx rfl
            have y3 : b ∉ c :: l2 := fun hx => by
              rcases List.mem_cons.1 hx with h1 | h1
              · exact hbc h1
              · exact y4 h1
            have e5 : l2.head? ≠ some b := fun e => y4 (List.mem_of_mem_head? e)
            rw [next_l1 y1, next_l1 y1, prev_l1 y2 y3, prev_l1 y2 y4, if_neg e5]
            rcases List.eq_nil_or_concat m2 with rfl | ⟨m, y, rfl⟩
            · simp
            · have e6 : (m1 ++ b :: (m ++ [y])).getLast? ≠ some b := by
                intro e
                rw [show m1 ++ b :: (m ++ [y]) = (m1 ++ b :: m) ++ [y] by simp, gl3] at e
                obtain rfl := Option.some.inj e
                exact y2 (by simp)
              rw [if_neg (by simpa using e6)]
              cases m <;> simp
          · obtain ⟨m1, m2, rfl⟩ := List.append_of_mem hm
            obtain ⟨y1, y2, _⟩ := nodup_split x2
            have y4 : b ∉ l1 := fun hx => x3 b hx b (by simp) rfl
            have y3 : b ∉ l1 ++ [c] := fun hx => by
              rcases List.mem_append.1 hx with h1 | h1
              · exact y4 h1
              · exact hbc (List.mem_singleton.1 h1)
            have e5 : l1.getLast? ≠ some b := fun e => y4 (List.mem_of_getLast? e)
            rw [if_neg e5, show l1 ++ c :: (m1 ++ b :: m2) = (l1 ++ [c]) ++ (m1 ++ b :: m2) by simp, next_l2 y1 y3, next_l2 y1 y4, prev_l2 y2, prev_l2 y2]
            cases m1 with
            | nil => simp
            | cons y m =>
              have e6 : ((y :: m) ++ b :: m2).head? ≠ some b := by
                intro e
                have : y = b := by simpa using e
                subst this
                exact y1 (by simp)
              rw [if_neg e6]
              rcases List.eq_nil_or_concat (y :: m) with h0 | ⟨m', y', h0⟩
              · cases h0
              · rw [h0]
                simp [gl2]
        · have hbk : b ∉ i.kids := fun hm => hp (h.kid_parent hn hb hm)
          have e5 : l2.head? ≠ some b := fun e => hbk (in2 _ (List.mem_of_mem_head? e))
          have e6 : l1.getLast? ≠ some b := fun e => hbk (in1 _ (List.mem_of_getLast? e))
          rw [if_neg e5, if_neg e6, relink_sibs hne hc hp]
end Go.Proofs.Ytibfoaahdbdogaa.Dom

/- Two nodes compared. -/
namespace Go.Proofs.Ytibfoaahdbdogaa.Dom
open Go.RowKit Go.Proofs.YtibfoaahdbdogaaW.PrintWords Go.Proofs.YtibfoaahdbdogaaW.PrintLast Go.Proofs.YtibfoaahdbdogaaW.PrintMore
set_option linter.unusedVariables false
set_option linter.unusedSimpArgs false

theorem infoN : (Try.prog.info? 86).map (fun i => i.size) = some 10 := by kernel_rfl
theorem eql_in {w : World} {x y : Nat} {r r' : Rec} (hx : Has w x r) (hy : Has w y r') (d : Nat) : (Op.equalIn (d + 1) 59 (.pointer (some ⟨x, 0, none⟩)) (.pointer (some ⟨y, 0, none⟩))).run Try.prog w = .ok (x == y) w := by
  obtain ⟨j, hj, hs⟩ := Option.map_eq_some_iff.1 infoN
  by_cases h : x = y
  · subst h
    simp [Op.equalIn, run_underlying Try.underlying59, sizeOf, typeInfo, hj, run_sameAddr_same]
  · have hne : (⟨x, 0, none⟩ : Addr) ≠ ⟨y, 0, none⟩ := fun e => h (congrArg Addr.block e)
    simp [Op.equalIn, run_underlying Try.underlying59, sizeOf, typeInfo, hj, hs, run_sameAddr_other w hne hx hy, h]
theorem eql_nodes {w : World} {x y : Nat} {r r' : Rec} (hx : Has w x r) (hy : Has w y r') : (binOp .eql 59 (.pointer (some ⟨x, 0, none⟩)) (.pointer (some ⟨y, 0, none⟩))).run Try.prog w = .ok (.bool (x == y)) w := by
  simp only [binOp]
  simp [Op.equal, Op.maxDepth, eql_in hx hy 9999]
theorem neq_nodes {w : World} {x y : Nat} {r r' : Rec} (hx : Has w x r) (hy : Has w y r') : (binOp .neq 59 (.pointer (some ⟨x, 0, none⟩)) (.pointer (some ⟨y, 0, none⟩))).run Try.prog w = .ok (.bool (x != y)) w := by
  simp only [binOp]
  simp [Op.equal, Op.maxDepth, eql_in hx hy 9999, bne]
end Go.Proofs.Ytibfoaahdbdogaa.Dom

/- (*html.Node).RemoveChild and InsertBefore: their contracts over a table. -/
namespace Go.Proofs.Ytibfoaahdbdogaa.Dom
open Go.RowKit Go.Proofs.YtibfoaahdbdogaaW.PrintWords Go.Proofs.YtibfoaahdbdogaaW.PrintLast Go.Proofs.YtibfoaahdbdogaaW.PrintMore
set_option linter.unusedVariables false
set_option linter.unusedSimpArgs false

theorem snoc_or (l : List Nat) : l = [] ∨ ∃ k x, l = k ++ [x] := by
  rcases List.eq_nil_or_concat l with h | ⟨k, x, h⟩
  · exact .inl h
  · exact .inr ⟨k, x, by rw [h]; simp⟩
theorem Dom.moved {w w' : World} {D : Tab} (h : Dom w D) (hb : Below w.heap.size w w') : Dom w' D :=
  ⟨h.wf, fun hd => by
    obtain ⟨v, h1, h2⟩ := h.has hd
    exact ⟨v, h1.of_heap (hb.block _ h1.lt), h2.below hb⟩⟩
theorem Only.drewN {D : Tab} {w w' : World} (h : Only D w w') (k : Nat) : Only D w (w'.drewN k) := ⟨h.os, h.tape, h.output, h.size, h.block⟩
theorem Dom.drewN {w : World} {D : Tab} (h : Dom w D) (k : Nat) : Dom (w.drewN k) D := h.moved (pw_below_drewN (Below.refl _ _) k)
set_option maxHeartbeats 4000000 in
set_option maxRecDepth 100000 in
theorem remove_calls (w : World) (D : Tab) (n c : Nat) (i ic : Info) (l1 l2 : List Nat) (h : Dom w D) (hn : D n = some i) (hc : D c = some ic) (hK : i.kids = l1 ++ c :: l2) (hself : i.parent ≠ some n) :
    Calls Try.prog 82 #[ptr (some n), ptr (some c)] w fun e w' => e = .returned (.tuple #[]) ∧ Dom w' (relink D n c i ic (l1 ++ l2) none) ∧ Only D w w' := by
  have R := Aside0.mk (h.remove hn hc hK hself)
  obtain ⟨vn, hHn, _⟩ := h.has hn
  obtain ⟨vc, hHc, _⟩ := h.has hc
  have hcm : c ∈ i.kids := by rw [hK]; simp
  have hpc : ic.parent = some n := h.kid_parent hn hc hcm
  have hne : n ≠ c := fun e => h.no_loop hn hself (by rw [e]; rw [← e] at hcm ⊢; exact hcm)
  have hnd0 := h.wf.nodup hn
  rw [hK] at hnd0
  obtain ⟨d1, d2, d3⟩ := nodup_split hnd0
  have c0 : w.cell? ⟨c, 0, none⟩ = some (.pointer (some ⟨n, 0, none⟩)) := by rw [hHc.cells10.1]; show some (ptr ic.parent) = _; rw [hpc]; rfl
  have c3 : w.cell? ⟨c, 3, none⟩ = some (ptr l1.getLast?) := by rw [hHc.cells10.2.2.2.1]; show some (ptr (prevIn (sibs D ic) c)) = _; rw [sibs_some hpc, kidsOf_some hn, hK, prevIn_split d2]
  have c4 : w.cell? ⟨c, 4, none⟩ = some (ptr l2.head?) := by rw [hHc.cells10.2.2.2.2.1]; show some (ptr (nextIn (sibs D ic) c)) = _; rw [sibs_some hpc, kidsOf_some hn, hK, nextIn_split d1]
  have n1 : w.cell? ⟨n, 1, none⟩ = some (ptr (l1 ++ c :: l2).head?) := by rw [hHn.cells10.2.1]; show some (ptr i.kids.head?) = _; rw [hK]
  have n2 : w.cell? ⟨n, 2, none⟩ = some (ptr (l1 ++ c :: l2).getLast?) := by rw [hHn.cells10.2.2.1]; show some (ptr i.kids.getLast?) = _; rw [hK]
  have hfc0 := hHc.frozen 0
  have hfc3 := hHc.frozen 3
  have hfc4 := hHc.frozen 4
  have hfn1 := hHn.frozen 1
  have hfn2 := hHn.frozen 2
  have hnc : ¬ c = n := fun e => hne e.symm
  have HN := Aside0.mk hHn
  have HC := Aside0.mk hHc
  have hq0 := neq_nodes hHn hHn
  have HD := Aside0.mk h
  have HDN := Aside0.mk hn
  have hnl : ¬ (n ∈ l1 ∨ n ∈ l2) := fun hx => h.no_loop hn hself (by rw [hK]; rcases hx with hx | hx <;> simp [hx])
  have d12 : ∀ q, q ∈ l1 → q ∈ l2 → False := fun q h1 h2 => by rw [List.nodup_append] at hnd0; exact hnd0.2.2 q h1 q (List.mem_cons_of_mem _ h2) rfl
  have HD := Aside0.mk h
  have HDN := Aside0.mk hn
  have hnl : ¬ (n ∈ l1 ∨ n ∈ l2) := fun hx => h.no_loop hn hself (by rw [hK]; rcases hx with hx | hx <;> simp [hx])
  have d12 : ∀ q, q ∈ l1 → q ∈ l2 → False := fun q h1 h2 => by rw [List.nodup_append] at hnd0; exact hnd0.2.2 q h1 q (List.mem_cons_of_mem _ h2) rfl
  have HD := Aside0.mk h
  have HDN := Aside0.mk hn
  have hnl : ¬ (n ∈ l1 ∨ n ∈ l2) := fun hx => h.no_loop hn hself (by rw [hK]; rcases hx with hx | hx <;> simp [hx])
  have d12 : ∀ q, q ∈ l1 → q ∈ l2 → False := fun q h1 h2 => by rw [List.nodup_append] at hnd0; exact hnd0.2.2 q h1 q (List.mem_cons_of_mem _ h2) rfl
  have HD := Aside0.mk h
  have HDN := Aside0.mk hn
  have hnl : ¬ (n ∈ l1 ∨ n ∈ l2) := fun hx => h.no_loop hn hself (by rw [hK]; rcases hx with hx | hx <;> simp [hx])
  have d12 : ∀ q, q ∈ l1 → q ∈ l2 → False := fun q h1 h2 => by rw [List.nodup_append] at hnd0; exact hnd0.2.2 q h1 q (List.mem_cons_of_mem _ h2) rfl
  clear hHn hHc h hn hc hpc hself hnd0 d3 hcm
  -- CASES
  have kd : ∀ q, q ∈ l1 ∨ q ∈ l2 → ∃ r, Has w q r := fun q hq => by
    obtain ⟨iq, h1, _⟩ := HD.out.wf.down HDN.out (by rw [hK]; rcases hq with hq | hq <;> simp [hq] : q ∈ i.kids)
    obtain ⟨v, hv, _⟩ := HD.out.has h1
    exact ⟨_, hv⟩
  unfold ptr
  rcases snoc_or l1 with rfl | ⟨k1, x, rfl⟩
  · cases l2 with
    | nil =>
      have c3' : w.cell? ⟨c, 3, none⟩ = some (.pointer none) := by rw [c3]; simp [ptr]
      have c4' : w.cell? ⟨c, 4, none⟩ = some (.pointer none) := by rw [c4]; simp [ptr]
      have n1' : w.cell? ⟨n, 1, none⟩ = some (.pointer (some ⟨c, 0, none⟩)) := by rw [n1]; rfl
      have n2' : w.cell? ⟨n, 2, none⟩ = some (.pointer (some ⟨c, 0, none⟩)) := by rw [n2]; simp [ptr]
      have hq1 := eql_nodes HC.out HC.out
      have hq2 := eql_nodes (HC.out.far (p := ⟨n, 1, none⟩) hnc (.pointer none)) (HC.out.far (p := ⟨n, 1, none⟩) hnc (.pointer none))
      rw [show rmStores n c [] [] = [(n, 1, none), (n, 2, none), (c, 0, none), (c, 3, none), (c, 4, none)] by unfold rmStores; simp] at R
      clear c3 c4 n1 n2 kd
      clear d1 d2 d12 hnl hK
      go_enter Try.func82, Try.ntmps82
      go_wp2_with fail
      go_end0
      exact ⟨rfl, (R.out.1.drewN 0 : _), (R.out.2.drewN 0 : _)⟩
    | cons y k2 =>
      have c3' : w.cell? ⟨c, 3, none⟩ = some (.pointer none) := by rw [c3]; simp [ptr]
      have c4' : w.cell? ⟨c, 4, none⟩ = some (.pointer (some ⟨y, 0, none⟩)) := by rw [c4]; simp [ptr]
      have n1' : w.cell? ⟨n, 1, none⟩ = some (.pointer (some ⟨c, 0, none⟩)) := by rw [n1]; rfl
      obtain ⟨z, hz, hzm⟩ : ∃ z, (y :: k2).getLast? = some z ∧ z ∈ y :: k2 := by
        cases hg : (y :: k2).getLast? with
        | none => simp at hg
        | some z => exact ⟨z, rfl, List.mem_of_getLast? hg⟩
      have n2' : w.cell? ⟨n, 2, none⟩ = some (.pointer (some ⟨z, 0, none⟩)) := by rw [n2, List.getLast?_append, List.getLast?_cons_cons, hz]; rfl
      obtain ⟨rz, hHz⟩ := kd z (.inr hzm)
      have HZ := Aside0.mk hHz
      obtain ⟨ry, hHy⟩ := kd y (.inr (by simp))
      have HY := Aside0.mk hHy
      have hzc : (z == c) = false := beq_eq_false_iff_ne.2 (fun e => d2 (e ▸ hzm))
      have hyc : ¬ y = c := fun e => d2 (by rw [← e]; simp)
      have hcy : ¬ c = y := fun e => hyc e.symm
      have hyn : ¬ y = n := fun e => hnl (by rw [← e]; exact .inr (by simp))
      have hny : ¬ n = y := fun e => hyn e.symm
      have hfy := hHy.frozen 3
      have y3 := hHy.cells10.2.2.2.1
      have hq1 := eql_nodes HC.out HC.out
      have hz_n : z ≠ n := fun e => hnl (by rw [← e]; exact .inr hzm)
      have hHz2 : ∃ r, Has (((w.setCell ⟨n, 1, none⟩ (.pointer (some ⟨y, 0, none⟩)))).setCell ⟨y, 3, none⟩ (.pointer none)) z r := by
        by_cases e : z = y
        · subst e
          exact ⟨_, ((HZ.out.far (p := ⟨n, 1, none⟩) hz_n (.pointer (some ⟨z, 0, none⟩)))).put3 none⟩
        · exact ⟨_, ((HZ.out.far (p := ⟨n, 1, none⟩) hz_n (.pointer (some ⟨y, 0, none⟩)))).far (p := ⟨y, 3, none⟩) e _⟩
      obtain ⟨rz2, hHz2⟩ := hHz2
      have hq2 : (binOp .eql 59 (.pointer (some ⟨z, 0, none⟩)) (.pointer (some ⟨c, 0, none⟩))).run Try.prog ((((w.setCell ⟨n, 1, none⟩ (.pointer (some ⟨y, 0, none⟩)))).setCell ⟨y, 3, none⟩ (.pointer none)).drew) = .ok (.bool (z == c)) ((((w.setCell ⟨n, 1, none⟩ (.pointer (some ⟨y, 0, none⟩)))).setCell ⟨y, 3, none⟩ (.pointer none)).drew) := eql_nodes (hHz2.of_heap rfl) (((HC.out.far (p := ⟨n, 1, none⟩) hnc (.pointer (some ⟨y, 0, none⟩))).far (p := ⟨y, 3, none⟩) hcy (.pointer none)).of_heap rfl)
      rw [hzc] at hq2
      rw [show rmStores n c [] (y :: k2) = [(n, 1, some y), (y, 3, none), (c, 0, none), (c, 3, none), (c, 4, none)] by unfold rmStores; simp] at R
      clear c3 c4 n1 n2 kd
      clear hHz hHy hz hzm hzc hz_n hHz2
      clear d1 d2 d12 hnl hK
      go_enter Try.func82, Try.ntmps82
      go_wp2_with fail
      go_region
      go_wp2_with fail
      go_end0
      exact ⟨rfl, (R.out.1.drewN 1 : _), (R.out.2.drewN 1 : _)⟩
  · cases l2 with
    | nil =>
      have c3' : w.cell? ⟨c, 3, none⟩ = some (.pointer (some ⟨x, 0, none⟩)) := by rw [c3]; simp [ptr]
      have c4' : w.cell? ⟨c, 4, none⟩ = some (.pointer none) := by rw [c4]; simp [ptr]
      obtain ⟨x0, hx0, hx0m⟩ : ∃ x0, (k1 ++ [x]).head? = some x0 ∧ x0 ∈ k1 ++ [x] := by cases k1 with | nil => exact ⟨x, rfl, by simp⟩ | cons a k1 => exact ⟨a, rfl, by simp⟩
      have n1' : w.cell? ⟨n, 1, none⟩ = some (.pointer (some ⟨x0, 0, none⟩)) := by rw [n1, List.head?_append, hx0]; rfl
      obtain ⟨rx0, hHx0⟩ := kd x0 (.inl hx0m)
      have HX0 := Aside0.mk hHx0
      obtain ⟨rx, hHx⟩ := kd x (.inl (by simp))
      have HX := Aside0.mk hHx
      have hx0c : (x0 == c) = false := beq_eq_false_iff_ne.2 (fun e => d1 (e ▸ hx0m))
      have hxc : ¬ x = c := fun e => d1 (by rw [← e]; simp)
      have hcx : ¬ c = x := fun e => hxc e.symm
      have hxn : ¬ x = n := fun e => hnl (by rw [← e]; exact .inl (by simp))
      have hnx : ¬ n = x := fun e => hxn e.symm
      have hfx := hHx.frozen 4
      have x4 := hHx.cells10.2.2.2.2.1
      have n2' : w.cell? ⟨n, 2, none⟩ = some (.pointer (some ⟨c, 0, none⟩)) := by rw [n2]; simp [ptr]
      have hq1 := eql_nodes HX0.out HC.out
      have hq2 := eql_nodes HC.out HC.out
      rw [hx0c] at hq1
      rw [show rmStores n c (k1 ++ [x]) [] = [(n, 2, some x), (x, 4, none), (c, 0, none), (c, 3, none), (c, 4, none)] by unfold rmStores; simp] at R
      clear c3 c4 n1 n2 kd
      clear hHx0 hHx hx0 hx0m hx0c
      clear d1 d2 d12 hnl hK
      go_enter Try.func82, Try.ntmps82
      go_wp2_with fail
      go_region
      go_wp2_with fail
      go_end0
      exact ⟨rfl, (R.out.1.drewN 1 : _), (R.out.2.drewN 1 : _)⟩
    | cons y k2 =>
      have c3' : w.cell? ⟨c, 3, none⟩ = some (.pointer (some ⟨x, 0, none⟩)) := by rw [c3]; simp [ptr]
      have c4' : w.cell? ⟨c, 4, none⟩ = some (.pointer (some ⟨y, 0, none⟩)) := by rw [c4]; simp [ptr]
      obtain ⟨x0, hx0, hx0m⟩ : ∃ x0, (k1 ++ [x]).head? = some x0 ∧ x0 ∈ k1 ++ [x] := by cases k1 with | nil => exact ⟨x, rfl, by simp⟩ | cons a k1 => exact ⟨a, rfl, by simp⟩
      have n1' : w.cell? ⟨n, 1, none⟩ = some (.pointer (some ⟨x0, 0, none⟩)) := by rw [n1, List.head?_append, hx0]; rfl
      obtain ⟨rx0, hHx0⟩ := kd x0 (.inl hx0m)
      have HX0 := Aside0.mk hHx0
      obtain ⟨rx, hHx⟩ := kd x (.inl (by simp))
      have HX := Aside0.mk hHx
      have hx0c : (x0 == c) = false := beq_eq_false_iff_ne.2 (fun e => d1 (e ▸ hx0m))
      have hxc : ¬ x = c := fun e => d1 (by rw [← e]; simp)
      have hcx : ¬ c = x := fun e => hxc e.symm
      have hxn : ¬ x = n := fun e => hnl (by rw [← e]; exact .inl (by simp))
      have hnx : ¬ n = x := fun e => hxn e.symm
      have hfx := hHx.frozen 4
      have x4 := hHx.cells10.2.2.2.2.1
      obtain ⟨z, hz, hzm⟩ : ∃ z, (y :: k2).getLast? = some z ∧ z ∈ y :: k2 := by
        cases hg : (y :: k2).getLast? with
        | none => simp at hg
        | some z => exact ⟨z, rfl, List.mem_of_getLast? hg⟩
      have n2' : w.cell? ⟨n, 2, none⟩ = some (.pointer (some ⟨z, 0, none⟩)) := by rw [n2, List.getLast?_append, List.getLast?_cons_cons, hz]; rfl
      obtain ⟨rz, hHz⟩ := kd z (.inr hzm)
      have HZ := Aside0.mk hHz
      obtain ⟨ry, hHy⟩ := kd y (.inr (by simp))
      have HY := Aside0.mk hHy
      have hzc : (z == c) = false := beq_eq_false_iff_ne.2 (fun e => d2 (e ▸ hzm))
      have hyc : ¬ y = c := fun e => d2 (by rw [← e]; simp)
      have hcy : ¬ c = y := fun e => hyc e.symm
      have hyn : ¬ y = n := fun e => hnl (by rw [← e]; exact .inr (by simp))
      have hny : ¬ n = y := fun e => hyn e.symm
      have hfy := hHy.frozen 3
      have y3 := hHy.cells10.2.2.2.1
      have hxy : ¬ x = y := fun e => d12 x (by simp) (by simp [e])
      have hyx : ¬ y = x := fun e => hxy e.symm
      have hq1 := eql_nodes HX0.out HC.out
      have hz_n : z ≠ n := fun e => hnl (by rw [← e]; exact .inr hzm)
      have hHz2 : ∃ r, Has ((w).setCell ⟨y, 3, none⟩ (.pointer (some ⟨x, 0, none⟩))) z r := by
        by_cases e : z = y
        · subst e
          exact ⟨_, (HZ.out).put3 (some x)⟩
        · exact ⟨_, (HZ.out).far (p := ⟨y, 3, none⟩) e _⟩
      obtain ⟨rz2, hHz2⟩ := hHz2
      have hq2 : (binOp .eql 59 (.pointer (some ⟨z, 0, none⟩)) (.pointer (some ⟨c, 0, none⟩))).run Try.prog (((w).setCell ⟨y, 3, none⟩ (.pointer (some ⟨x, 0, none⟩))).drew) = .ok (.bool (z == c)) (((w).setCell ⟨y, 3, none⟩ (.pointer (some ⟨x, 0, none⟩))).drew) := eql_nodes (hHz2.of_heap rfl) ((HC.out.far (p := ⟨y, 3, none⟩) hcy (.pointer (some ⟨x, 0, none⟩))).of_heap rfl)
      rw [hzc] at hq2
      rw [hx0c] at hq1
      rw [show rmStores n c (k1 ++ [x]) (y :: k2) = [(y, 3, some x), (x, 4, some y), (c, 0, none), (c, 3, none), (c, 4, none)] by unfold rmStores; simp] at R
      clear c3 c4 n1 n2 kd
      clear hHx0 hHx hx0 hx0m hx0c
      clear hHz hHy hz hzm hzc hz_n hHz2
      clear d1 d2 d12 hnl hK
      go_enter Try.func82, Try.ntmps82
      go_wp2_with fail
      go_region
      go_wp2_with fail
      go_region
      go_wp2_with fail
      go_end0
      exact ⟨rfl, (R.out.1.drewN 2 : _), (R.out.2.drewN 2 : _)⟩
end Go.Proofs.Ytibfoaahdbdogaa.Dom

/- impl.told: a tree of nodes, as plain data. -/
namespace Go.Proofs.Ytibfoaahdbdogaa.Dom
open Go.RowKit Go.Proofs.YtibfoaahdbdogaaW.PrintWords Go.Proofs.YtibfoaahdbdogaaW.PrintLast Go.Proofs.YtibfoaahdbdogaaW.PrintMore Go.Proofs.Ytibfoaahdbdogaa.PDom
set_option linter.unusedVariables false
set_option linter.unusedSimpArgs false

abbrev At := S78
mutual
/-- The tree as plain data. -/
def RT.toT : RT → T
  | .node _ ty _ d at_ ks => if ty = 3 then ⟨0, d, ⟨#[]⟩, at_.map (fun a => (⟨a.1, a.2⟩ : At)), RT.toTL ks⟩ else if ty = 1 then ⟨1, ⟨#[]⟩, d, [], []⟩ else if ty = 4 then ⟨2, ⟨#[]⟩, d, [], []⟩ else ⟨3, ⟨#[]⟩, ⟨#[]⟩, [], RT.toTL ks⟩
def RT.toTL : List RT → List T
  | [] => []
  | k :: ks => k.toT :: RT.toTL ks
end
theorem RT.toTL_map (l : List RT) : RT.toTL l = l.map RT.toT := by
  induction l with
  | nil => rfl
  | cons k l ih => rw [RT.toTL, ih, List.map_cons]
/-- How many attributes and children a node has. -/
inductive RFit : RT → Prop
  | mk (i : Nat) (ty a : Int) (d : ByteArray) (at_ : List (ByteArray × ByteArray)) (ks : List RT) (h3 : at_.length ≤ 4398046510976) (h4 : ks.length ≤ 1000000000000) (hk : ∀ k ∈ ks, RFit k) : RFit (.node i ty a d at_ ks)
theorem at_A {w : World} {A : Option Addr} {n : Nat} {xs : List (ByteArray × ByteArray)} (h : Kd.C kA w A n xs) (i : Int) (h0 : 0 ≤ i) (h1 : i < n) : ∃ ad, A = some ad ∧ w.cell? (ad.add (i.toNat * 3)) = some (.string ⟨#[]⟩) ∧ w.cell? ⟨(ad.add (i.toNat * 3)).block, (ad.add (i.toNat * 3)).off + 1, none⟩ = some (.string (xs.getD i.toNat (⟨#[]⟩, ⟨#[]⟩)).1) ∧ w.cell? ⟨(ad.add (i.toNat * 3)).block, (ad.add (i.toNat * 3)).off + 2, none⟩ = some (.string (xs.getD i.toNat (⟨#[]⟩, ⟨#[]⟩)).2) := by
  obtain ⟨ad, c, e, _, hK, hc0⟩ := Kd.C_get h (⟨#[]⟩, ⟨#[]⟩) i h0 h1
  have hc : ∀ j u, c[j]? = some u → w.cell? (ad.add (i.toNat * 3 + j)) = some u := hc0
  obtain ⟨_, _, rfl, rfl, ⟨_, _, rfl, rfl, rfl⟩⟩ := hK
  exact ⟨ad, e, hc 0 _ rfl, by rw [← add_field _ _ 1 (by omega)]; exact hc 1 _ rfl, by rw [← add_field _ _ 2 (by omega)]; exact hc 2 _ rfl⟩
/-- The state of the tree that is being told: its box, its rows. -/
structure TB (w wr : World) (f0 : Int) (f1 f2 : ByteArray) (v3 v4 : Value) (l3 : List At) (l4 : List T) : Prop where
  box : wr.heap[w.heap.size + 1]? = some (.cells #[.int .i64 f0, .string f1, .string f2, v3, v4] 25 (0, 0))
  res : ∃ a0 a1 a2 a3 a4 : Value, wr.heap[w.heap.size]? = some (.cells #[a0, a1, a2, a3, a4] 25 (0, 0))
  n3 : Kd.N k78 78 wr w.heap.size (fun k => w.heap.size + 2 ≤ k ∧ some k ≠ v4.ownBlock) v3 l3
  n4 : Kd.N k25 25 wr w.heap.size (fun k => w.heap.size + 2 ≤ k) v4 l4
  below : Below w.heap.size w wr
theorem TB.start (w : World) (f0 : Int) (f1 f2 : ByteArray) {wr : World} (hb : wr.heap[w.heap.size + 1]? = some (.cells #[.int .i64 f0, .string f1, .string f2, .slice none 0 0, .slice none 0 0] 25 (0, 0)))
    (hr : ∃ a0 a1 a2 a3 a4 : Value, wr.heap[w.heap.size]? = some (.cells #[a0, a1, a2, a3, a4] 25 (0, 0))) (hw : Below w.heap.size w wr) : TB w wr f0 f1 f2 (.slice none 0 0) (.slice none 0 0) [] [] :=
  ⟨hb, hr, Kd.N_nil _ _ _ _ _, Kd.N_nil _ _ _ _ _, hw⟩
section
variable {w wr w1 w2 w3 : World} {f0 : Int} {f1 f2 : ByteArray} {v3 v4 v1 : Value} {l3 : List At} {l4 : List T}
theorem TB.moved (h : TB w wr f0 f1 f2 v3 v4 l3 l4) (hb : Below wr.heap.size wr w1) : TB w w1 f0 f1 f2 v3 v4 l3 l4 :=
  ⟨(hb.block _ (blk_lt h.box)).trans h.box, by obtain ⟨a0, a1, a2, a3, a4, hr⟩ := h.res; exact ⟨a0, a1, a2, a3, a4, (hb.block _ (blk_lt hr)).trans hr⟩, Kd.N_below h.n3 hb, Kd.N_below h.n4 hb, below_step h.below hb⟩
theorem TB.size (h : TB w wr f0 f1 f2 v3 v4 l3 l4) : w.heap.size + 2 ≤ wr.heap.size := blk_lt h.box
theorem TB.cells (h : TB w wr f0 f1 f2 v3 v4 l3 l4) : wr.cell? ⟨w.heap.size + 1, 0, none⟩ = some (.int .i64 f0) ∧ wr.cell? ⟨w.heap.size + 1, 1, none⟩ = some (.string f1) ∧ wr.cell? ⟨w.heap.size + 1, 2, none⟩ = some (.string f2) ∧ wr.cell? ⟨w.heap.size + 1, 3, none⟩ = some v3 ∧ wr.cell? ⟨w.heap.size + 1, 4, none⟩ = some v4 :=
  ⟨blk_cell h.box 0, blk_cell h.box 1, blk_cell h.box 2, blk_cell h.box 3, blk_cell h.box 4⟩
/-- A block that is kept through an append to an own row. -/
theorem grown_kept {r : Option Nat} (hg : w2.grownBy w3 r) {b : Nat} {x : Obj} (hb : w2.heap[b]? = some x) (hr : some b ≠ r) : w3.heap[b]? = some x :=
  (hg.block b (Array.getElem?_eq_some_iff.1 hb).1 hr).trans hb
/-- One more attribute. -/
theorem TB.attr (h : TB w wr f0 f1 f2 v3 (.slice none 0 0) l3 []) (hb : Below wr.heap.size wr w2) {p : At} (ho : Kd.N k78 78 w3 w.heap.size (fun k => w.heap.size + 2 ≤ k) v1 (l3 ++ [p])) (hb3 : Below w.heap.size w w3) (hg : w2.grownBy w3 v3.ownBlock) :
    w3.cell? ⟨w.heap.size + 1, 3, none⟩ = some v3 ∧ w3.frozen? ⟨w.heap.size + 1, 3, none⟩ = false ∧ TB w (w3.setCell ⟨w.heap.size + 1, 3, none⟩ v1) f0 f1 f2 v1 (.slice none 0 0) (l3 ++ [p]) [] := by
  have h2 := h.moved hb
  have n1 : some (w.heap.size + 1) ≠ v3.ownBlock := fun e => by have := (h2.n3.1 _ e.symm).1; omega
  have n0 : some w.heap.size ≠ v3.ownBlock := fun e => by have := (h2.n3.1 _ e.symm).1; omega
  have b3 := grown_kept hg h2.box n1
  obtain ⟨a0, a1, a2, a3, a4, hr⟩ := h2.res
  have r3 := grown_kept hg hr n0
  refine ⟨blk_cell b3 3, blk_frozen b3 3, blk_set b3 3 _, ⟨a0, a1, a2, a3, a4, (Below.heap_setCell w3 _ _ _ (by show w.heap.size ≠ w.heap.size + 1; omega)).trans r3⟩, ?_, Kd.N_nil _ _ _ _ _, ?_⟩
  · refine Kd.N_mono (Kd.N_far ho (fun k hk => ?_) _) (fun k hk => ⟨hk, by simp [Value.ownBlock]⟩)
    show k ≠ w.heap.size + 1
    omega
  · exact Below.setCell hb3 (by show w.heap.size ≤ w.heap.size + 1; omega) _
/-- One more child. -/
theorem TB.kid (h : TB w wr f0 f1 f2 v3 v4 l3 l4) (hb : Below wr.heap.size wr w2) {p : T} (ho : Kd.N k25 25 w3 w.heap.size (fun k => w.heap.size + 2 ≤ k) v1 (l4 ++ [p])) (hb3 : Below w.heap.size w w3) (hg : w2.grownBy w3 v4.ownBlock)
    (hat : v1.ownBlock = v4.ownBlock ∨ ∃ b, v1.ownBlock = some b ∧ w2.heap.size ≤ b) :
    w3.cell? ⟨w.heap.size + 1, 4, none⟩ = some v4 ∧ w3.frozen? ⟨w.heap.size + 1, 4, none⟩ = false ∧ TB w (w3.setCell ⟨w.heap.size + 1, 4, none⟩ v1) f0 f1 f2 v3 v1 l3 (l4 ++ [p]) := by
  have h2 := h.moved hb
  have n1 : some (w.heap.size + 1) ≠ v4.ownBlock := fun e => by have := h2.n4.1 _ e.symm; omega
  have n0 : some w.heap.size ≠ v4.ownBlock := fun e => by have := h2.n4.1 _ e.symm; omega
  have b3 := grown_kept hg h2.box n1
  obtain ⟨a0, a1, a2, a3, a4, hr⟩ := h2.res
  have r3 := grown_kept hg hr n0
  refine ⟨blk_cell b3 4, blk_frozen b3 4, blk_set b3 4 _, ⟨a0, a1, a2, a3, a4, (Below.heap_setCell w3 _ _ _ (by show w.heap.size ≠ w.heap.size + 1; omega)).trans r3⟩, ?_, ?_, ?_⟩
  · refine Kd.N_far (Kd.N_after h2.n3 hg hat) (fun k hk => ?_) _
    show k ≠ w.heap.size + 1
    omega
  · refine Kd.N_far ho (fun k hk => ?_) _
    show k ≠ w.heap.size + 1
    omega
  · exact Below.setCell hb3 (by show w.heap.size ≤ w.heap.size + 1; omega) _
theorem kids_step {P : Program} {ops : Array Oper} {o : Oper} {a : Act} {Q : Exit → Act → World → Prop} {K : Act → World → Prop} {E : Prop} {w0 W : World} (hgd : o.guard = none) (base : Nat) (s x : Operand) (t : TypeId) (z : Value)
    (ho : o.op = .call { callee := .builtin .append, args := #[s, x], argTypes := #[t, t] })
    (ht : P.underlying t = some (.slice 25)) (hinfo : (P.info? 25).map (fun i => (i.zero, i.size, i.bytes)) = some (some z, 5, 88)) (hz : z.cells.size = 5)
    (v : Value) (xs : List T) (p : T) (cs : List Value) (ok okp : Nat → Prop) (hs : a.eval s = v) (hx : a.eval x = .slice (some ⟨W.heap.size, 0, none⟩) 1 1) (hp : Kd.FK k25 W okp p cs) (hokp : ∀ k, okp k → ok k ∧ some k ≠ v.ownBlock) (hfresh : ∀ k, W.heap.size ≤ k → ok k)
    (HO : Kd.N k25 25 W base ok v xs) (HB : Below base w0 W) (hbase : base ≤ W.heap.size) (hl : (xs.length + 1) * 88 ≤ 140737488355328)
    (h : ∀ v1 w1, Kd.N k25 25 w1 base ok v1 (xs ++ [p]) → Below base w0 w1 → W.grownBy w1 v.ownBlock → (v1.ownBlock = v.ownBlock ∨ ∃ b, v1.ownBlock = some b ∧ W.heap.size ≤ b) → K (a.put o.dst v1) w1) :
    if Region.wanted o (yielded ops a.tmps) = true then Oper.wp P o a (W.alloc (.cells cs.toArray 25)) K Q else E := by
  have hw : Region.wanted o (yielded ops a.tmps) = true := by simp [Region.wanted, hgd]
  have := Kd.N_append_step (P := P) (ops := ops) (o := o) (a := a) (Q := Q) (Kc := K) k25 base hw s x t 25 z 88 ho ht hinfo hz (by decide) (by decide) v xs p cs ok okp hs hx hp hokp hfresh HO HB hbase hl h
  rw [if_pos hw] at this ⊢
  exact this
end
theorem infoNd : (Try.prog.info? 25).map (fun i => (i.zero, i.size, i.bytes)) = some (some (.agg #[.int .i64 0, .string ⟨#[]⟩, .string ⟨#[]⟩, .slice none 0 0, .slice none 0 0]), 5, 88) := by kernel_rfl
theorem infoAt : (Try.prog.info? 78).map (fun i => (i.zero, i.size, i.bytes)) = some (some (.agg #[.string ⟨#[]⟩, .string ⟨#[]⟩]), 2, 32) := by kernel_rfl
/-- What impl.told returns. -/
def Told (w w' : World) (t : T) (e : Ending) : Prop := ∃ A3 c3 A4 c4, e = .returned (.agg #[.int .i64 t.f0, .string t.f1, .string t.f2, .slice A3 t.f3.length c3, .slice A4 t.f4.length c4]) ∧ t.f3.length ≤ c3 ∧ Kd.F k78 w' (fun k => w.heap.size ≤ k) A3 t.f3.length t.f3 ∧ t.f4.length ≤ c4 ∧ Kd.F k25 w' (fun k => w.heap.size ≤ k) A4 t.f4.length t.f4 ∧ Below w.heap.size w w'
theorem told_leaf (w : World) (t : T) (h3 : t.f3 = []) (h4 : t.f4 = []) (w' : World) (hb : Below w.heap.size w w') (e : Ending) (he : e = .returned (.agg #[.int .i64 t.f0, .string t.f1, .string t.f2, .slice none 0 0, .slice none 0 0])) : Told w w' t e := by
  refine ⟨none, 0, none, 0, by rw [h3, h4]; exact he, by rw [h3]; exact Nat.le_refl _, by rw [h3]; exact Kd.F_nil _ _ _, by rw [h4]; exact Nat.le_refl _, by rw [h4]; exact Kd.F_nil _ _ _, hb⟩
theorem told_end {w wr w' : World} {t : T} {v3 v4 : Value} (h : TB w wr t.f0 t.f1 t.f2 v3 v4 t.f3 t.f4) (hw : ∀ k, w.heap.size + 2 ≤ k → k < wr.heap.size → w'.heap[k]? = wr.heap[k]?) (hb : Below w.heap.size w w') : Told w w' t (.returned (.agg #[.int .i64 t.f0, .string t.f1, .string t.f2, v3, v4])) := by
  obtain ⟨A3, c3, rfl⟩ := Kd.N_slice h.n3
  obtain ⟨A4, c4, rfl⟩ := Kd.N_slice h.n4
  have m3 := Kd.N_step h.n3 (w1 := w') (fun k hk hlt => hw k hk.1 hlt)
  have m4 := Kd.N_step h.n4 (w1 := w') (fun k hk hlt => hw k hk hlt)
  exact ⟨A3, c3, A4, c4, rfl, (Kd.N_reads' m3).2.1, Kd.F_mono (Kd.N_F m3) (fun k hk => Nat.le_trans (by omega) hk.1), (Kd.N_reads' m4).2.1, Kd.F_mono (Kd.N_F m4) (fun k hk => Nat.le_trans (by omega) hk), hb⟩
theorem sets5 (w : World) (b : Nat) (a0 a1 a2 a3 a4 : Value) (k : Nat) (hk : k ≠ b) : (((((w.setCell ⟨b, 0, none⟩ a0).setCell ⟨b, 1, none⟩ a1).setCell ⟨b, 2, none⟩ a2).setCell ⟨b, 3, none⟩ a3).setCell ⟨b, 4, none⟩ a4).heap[k]? = w.heap[k]? := by
  rw [Below.heap_setCell _ ⟨b, 4, none⟩ _ _ hk, Below.heap_setCell _ ⟨b, 3, none⟩ _ _ hk, Below.heap_setCell _ ⟨b, 2, none⟩ _ _ hk, Below.heap_setCell _ ⟨b, 1, none⟩ _ _ hk, Below.heap_setCell _ ⟨b, 0, none⟩ _ _ hk]
theorem below_sets5 {w wr : World} (h : Below w.heap.size w wr) (a0 a1 a2 a3 a4 : Value) : Below w.heap.size w (((((wr.setCell ⟨w.heap.size, 0, none⟩ a0).setCell ⟨w.heap.size, 1, none⟩ a1).setCell ⟨w.heap.size, 2, none⟩ a2).setCell ⟨w.heap.size, 3, none⟩ a3).setCell ⟨w.heap.size, 4, none⟩ a4) :=
  ((((h.setCell (p := ⟨w.heap.size, 0, none⟩) (Nat.le_refl _) a0).setCell (p := ⟨w.heap.size, 1, none⟩) (Nat.le_refl _) a1).setCell (p := ⟨w.heap.size, 2, none⟩) (Nat.le_refl _) a2).setCell (p := ⟨w.heap.size, 3, none⟩) (Nat.le_refl _) a3).setCell (p := ⟨w.heap.size, 4, none⟩) (Nat.le_refl _) a4
set_option maxHeartbeats 4000000 in
set_option maxRecDepth 100000 in
theorem told_calls (D : Tab) (r : RT) : ∀ (p : Option Nat), Is D p r → RFit r → ∀ (w : World), Dom w D → Calls Try.prog 80 #[ptr (some r.id)] w fun e w' => Told w w' r.toT e := by
  induction r using RT.induct with
  | h i ty a d at_ ks ih =>
    intro p hr hf w hdom
    have hroot : D i = some _ := hr.root
    obtain ⟨va, hHi, hA⟩ := hdom.has hroot
    have c5 : w.cell? ⟨i, 5, none⟩ = some (.int .u32 ty) := hHi.cells10.2.2.2.2.2.1
    have c7 : w.cell? ⟨i, 7, none⟩ = some (.string d) := hHi.cells10.2.2.2.2.2.2.2.1
    have c9 : w.cell? ⟨i, 9, none⟩ = some va := hHi.cells10.2.2.2.2.2.2.2.2.2
    have hl : i < w.heap.size := hHi.lt
    show Calls _ _ #[ptr (some i)] _ _
    rw [ptr_some]
    by_cases t1 : ty = 1
    · subst t1
      clear ih hr hf hdom hroot hHi hA c9
      go_enter Try.func80, Try.ntmps80
      go_wp2_with fail
      refine bodyPost_ret (v := .agg #[.int .i64 1, .string ⟨#[]⟩, .string d, .slice none 0 0, .slice none 0 0]) (by simp [results, Try.results80, go_sem]) rfl ?_
      exact told_leaf w _ rfl rfl _ (below_alloc (below_alloc (Below.refl _ _) _) _) _ rfl
    · by_cases t4 : ty = 4
      · subst t4
        clear ih hr hf hdom hroot hHi hA c9
        go_enter Try.func80, Try.ntmps80
        go_wp2_with fail
        refine bodyPost_ret (v := .agg #[.int .i64 2, .string ⟨#[]⟩, .string d, .slice none 0 0, .slice none 0 0]) (by simp [results, Try.results80, go_sem]) rfl ?_
        exact told_leaf w _ rfl rfl _ (below_alloc (below_alloc (Below.refl _ _) _) _) _ rfl
      · obtain ⟨Aa, ca, hva, hca, hCa⟩ := Kd.R_reads hA
        have hva' : va = .slice Aa at_.length ca := hva
        subst hva'
        have HC := Aside0.mk (show Kd.C kA w Aa at_.length at_ from hCa)
        have HF := Aside0.mk hf
        have HR := Aside0.mk hr
        have HD := Aside0.mk hdom
        have HI := Aside0.mk hHi
        have IH := Aside0.mk ih
        clear ih hr hf hdom hroot hHi hA hCa hva hca
        have HE : ∃ t : T, (RT.node i ty a d at_ ks).toT = t ∧ t.f4 = RT.toTL ks ∧ ((ty = 3 ∧ t.f0 = 0 ∧ t.f1 = d ∧ t.f2 = ⟨#[]⟩ ∧ t.f3 = at_.map (fun a => (⟨a.1, a.2⟩ : At))) ∨ (ty ≠ 3 ∧ t.f0 = 3 ∧ t.f1 = ⟨#[]⟩ ∧ t.f2 = ⟨#[]⟩ ∧ t.f3 = [])) := by
          refine ⟨_, rfl, ?_⟩
          simp only [RT.toT]
          by_cases t3 : ty = 3
          · rw [if_pos t3]
            exact ⟨rfl, .inl ⟨t3, rfl, rfl, rfl, rfl⟩⟩
          · rw [if_neg t3, if_neg t1, if_neg t4]
            exact ⟨rfl, .inr ⟨t3, rfl, rfl, rfl, rfl⟩⟩
        obtain ⟨t, het, hk4, hcase⟩ := HE
        rw [het]
        rcases hcase with ⟨t3, q0, q1, q2, q3⟩ | ⟨t3, q0, q1, q2, q3⟩
        · subst t3
          have HT := Aside0.mk (⟨het, hk4, q0, q1, q2, q3⟩ : _ ∧ _ ∧ _ ∧ _ ∧ _ ∧ _)
          clear het hk4 q0 q1 q2 q3 t1 t4
          go_enter Try.func80, Try.ntmps80
          go_wp2_with fail
          have hS := TB.start w 0 d ⟨#[]⟩ (two_new w (.cells #[.int .i64 0, .string ⟨#[]⟩, .string ⟨#[]⟩, .slice none 0 0, .slice none 0 0] 25) (.cells #[.int .i64 0, .string d, .string ⟨#[]⟩, .slice none 0 0, .slice none 0 0] 25)) ⟨_, _, _, _, _, two_old w _ _⟩ (below_alloc (below_alloc (Below.refl _ _) _) _)
          have HS := Aside0.mk hS
          clear hS
          generalize (w.alloc (.cells #[.int .i64 0, .string ⟨#[]⟩, .string ⟨#[]⟩, .slice none 0 0, .slice none 0 0] 25)).alloc (.cells #[.int .i64 0, .string d, .string ⟨#[]⟩, .slice none 0 0, .slice none 0 0] 25) = W0 at HS ⊢
          clear c5 c7 c9
          go_loopw [24] (fun vj wr => ∃ (j : Nat) (v3 : Value), vj = .int .i64 j ∧ j ≤ at_.length ∧ Aside0 (TB w wr 0 d ⟨#[]⟩ v3 (.slice none 0 0) ((at_.map (fun a => (⟨a.1, a.2⟩ : At))).take j) [])) (fun vj _ => at_.length - (intOf vj).toNat)
          case atStart => exact ⟨0, _, rfl, Nat.zero_le _, HS⟩
          case round =>
            obtain ⟨j, v3, rfl, hj, HB⟩ := hrel
            by_cases hlt : j < at_.length
            · obtain ⟨ad, rfl, y0, y1, y2⟩ := at_A (Kd.C_below HC.out HB.out.below) (j : Int) (by omega) (by omega)
              have he : at_.getD ((j : Int)).toNat (⟨#[]⟩, ⟨#[]⟩) = at_[j] := by simp [List.getD_eq_getElem?_getD, List.getElem?_eq_getElem hlt]
              have hsn : (at_.map (fun a => (⟨a.1, a.2⟩ : At))).take (j + 1) = (at_.map (fun a => (⟨a.1, a.2⟩ : At))).take j ++ [(⟨at_[j].1, at_[j].2⟩ : At)] := by
                rw [List.take_succ_eq_append_getElem (by rw [List.length_map]; exact hlt), List.getElem_map]
              have hlen : ((at_.map (fun a => (⟨a.1, a.2⟩ : At))).take j).length ≤ 4398046510976 := by
                cases HF.out with
                | mk _ _ _ _ _ _ h3 h4 hk => rw [List.length_take, List.length_map]; omega
              rw [he] at y1 y2
              simp only [Int.toNat_natCast] at y0 y1 y2
              generalize at_[j] = q at y1 y2 hsn
              obtain ⟨q0, q1⟩ := q
              simp only at y1 y2 hsn
              have HSN := Aside0.mk hsn
              have HLN := Aside0.mk hlen
              have HWJ := Aside0.mk (show wrap64 ((j : Int) + 1) = ((j + 1 : Nat) : Int) from by
                have := HLN.out
                have : at_.length ≤ 4398046510976 := by cases HF.out with | mk _ _ _ _ _ _ h3 h4 hk => exact h3
                unfold wrap64; omega)
              clear he hsn hlen
              go_upto_region 9 with fail
-- FILL
              have hcp : (wr.alloc (.cells #[.string ⟨#[]⟩, .string q0, .string q1] 89)).heap[wr.heap.size]? = some (.cells #[.string ⟨#[]⟩, .string q0, .string q1] 89 (0, 0)) := heap_alloc_new wr _
              have HB8 := Aside0.mk (below_alloc (Below.refl wr.heap.size wr) (.cells #[.string ⟨#[]⟩, .string q0, .string q1] 89))
              generalize wr.alloc (.cells #[.string ⟨#[]⟩, .string q0, .string q1] 89) = w8 at hcp HB8 ⊢
              have e1 : w8.cell? ⟨wr.heap.size, 1, none⟩ = some (.string q0) := by rw [blk_cell hcp]; rfl
              have e2 : w8.cell? ⟨wr.heap.size, 2, none⟩ = some (.string q1) := by rw [blk_cell hcp]; rfl
              have HM := Aside0.mk (HB.out.moved HB8.out)
              have x3 : w8.cell? ⟨w.heap.size + 1, 3, none⟩ = some v3 := HM.out.cells.2.2.2.1
              clear hcp y0 y1 y2
              go_wp2_with ((with_reducible refine gate_builtin (b := .append) (xs := #[.tmp 29, .tmp 35]) rfl ?_); at_builtin; go_must (refine Kd.N_append k78 (w0 := w) w.heap.size rfl (.tmp 29) (.tmp 35) 22 78 (.agg #[.string ⟨#[]⟩, .string ⟨#[]⟩]) 32 rfl Try.underlying22 infoAt rfl (by decide) (by decide) v3 ((at_.map (fun a => (⟨a.1, a.2⟩ : At))).take j) (⟨q0, q1⟩ : At) [.string q0, .string q1] (fun k => w.heap.size + 2 ≤ k) (fun _ => False) rfl (by go_simp) (k78_mkF w8 _ ⟨q0, q1⟩) (fun _ h => h.elim) (fun k hk => Nat.le_trans HM.out.size hk) (Kd.N_mono HM.out.n3 (fun k hk => hk.1)) HM.out.below HM.out.below.size (by have := HLN.out; omega) ?_))
              intro v1 w3 ho hb hg hat
              rw [← HSN.out] at ho
              obtain ⟨L1, hL1⟩ : ∃ L1, L1 = ((at_.map (fun a => (⟨a.1, a.2⟩ : At))).take (j + 1)).length := ⟨_, rfl⟩
              obtain ⟨A1, k1, hv1⟩ := Kd.N_slice ho
              rw [← hL1] at hv1
              subst hv1
              clear hL1
              obtain ⟨g3, gf3, ht3⟩ := HB.out.attr HB8.out (p := ⟨q0, q1⟩) (by rw [← HSN.out]; exact ho) hb hg
              rw [← HSN.out] at ht3
              have HT3 := Aside0.mk ht3
              clear ho hb hg hat ht3
              go_wp2_with fail
              go_roundw
              case rel => exact ⟨j + 1, _, by rw [HWJ.out], hlt, HT3⟩
              case measure => rw [HWJ.out]; simp [intOf]; omega
            · have hje : j = at_.length := by omega
              subst hje
              have hB := HB.out
              rw [List.take_of_length_le (by rw [List.length_map]; exact Nat.le_refl _)] at hB
              have HB0 := Aside0.mk hB
              clear hB HB hlt hj
              have c1 : wr.cell? ⟨i, 1, none⟩ = some (ptr (ks[0]?.map RT.id)) := Is.first (HD.out.below HB0.out.below) HR.out
              go_wp2_with fail
              go_loopg [6] ks.length (fun n v6 wr => ∃ (j : Nat) (v4 : Value), n = ks.length - j ∧ j ≤ ks.length ∧ v6 = ptr (ks[j]?.map RT.id) ∧ Aside0 (TB w wr 0 d ⟨#[]⟩ v3 v4 (at_.map (fun a => (⟨a.1, a.2⟩ : At))) ((ks.map RT.toT).take j)))
              case atStart => exact ⟨0, _, rfl, Nat.zero_le _, rfl, HB0⟩
              case round =>
                clear c1
                obtain ⟨j, v4, rfl, hj, rfl, HB⟩ := hrel
                by_cases hlt : j < ks.length
                · rw [List.getElem?_eq_getElem hlt]
                  have hkm : ks[j] ∈ ks := List.getElem_mem hlt
                  have HNX := Aside0.mk (show ∀ wx, Below w.heap.size w wx → wx.cell? ⟨ks[j].id, 4, none⟩ = some (ptr (ks[j + 1]?.map RT.id)) from fun wx hb => Is.next (HD.out.below hb) HR.out (j := j) hlt)
                  have HKC := Aside0.mk (fun wx hb => IH.out ks[j] hkm (some i) (HR.out.kid hkm) (by cases HF.out with | mk _ _ _ _ _ _ h3 h4 hk => exact hk _ hkm) wx (HD.out.below hb))
                  have hsn : (ks.map RT.toT).take (j + 1) = (ks.map RT.toT).take j ++ [ks[j].toT] := by rw [List.take_succ_eq_append_getElem (by rw [List.length_map]; exact hlt), List.getElem_map]
                  have hlen : ((ks.map RT.toT).take j).length ≤ 1000000000000 := by
                    cases HF.out with
                    | mk _ _ _ _ _ _ h3 h4 hk => rw [List.length_take, List.length_map]; omega
                  have HSN := Aside0.mk hsn
                  have HLN := Aside0.mk hlen
                  simp only [Option.map_some, ptr_some] at HKC ⊢
                  generalize ks[j].toT = u at HKC HSN
                  generalize ks[j].id = x at HNX HKC ⊢
                  clear hkm hsn hlen
                  have x4 : wr.cell? ⟨w.heap.size + 1, 4, none⟩ = some v4 := HB.out.cells.2.2.2.2
                  have HDW := Aside0.mk (below_drew (Below.refl wr.heap.size wr))
                  have x4d : wr.drew.cell? ⟨w.heap.size + 1, 4, none⟩ = some v4 := (HB.out.moved HDW.out).cells.2.2.2.2
                  go_upto_region 18 with fail
                  go_region_law (first
                    | (refine kids_step (w0 := w) (W := w2) rfl w.heap.size (.tmp 64) (.tmp 67) 23 (.agg #[.int .i64 0, .string ⟨#[]⟩, .string ⟨#[]⟩, .slice none 0 0, .slice none 0 0]) rfl Try.underlying23 infoNd rfl v4 ((ks.map RT.toT).take j) u [.int .i64 u.f0, .string u.f1, .string u.f2, .slice A3 u.f3.length c3, .slice A4 u.f4.length c4] (fun k => w.heap.size + 2 ≤ k) (fun k => wr.heap.size ≤ k) (by simp [Act.eval, Act.put]) (by simp [Act.eval, Act.put]) HFK.out HOK.out HFR.out HM2.out.n4 HM2.out.below HM2.out.below.size (by have := HLN.out; omega) ?_; intro v1 w3 ho hb hg hat; obtain ⟨L1, hL1⟩ : ∃ L1, L1 = ((ks.map RT.toT).take j ++ [u]).length := ⟨_, rfl⟩; obtain ⟨A1, k1, hv1⟩ := Kd.N_slice ho; rw [← hL1] at hv1; subst hv1; clear hL1; obtain ⟨g3, gf3, ht3⟩ := HB.out.kid HB2.out ho hb hg hat; rw [← HSN.out] at ht3; have HT3 := Aside0.mk ht3; have nx := HNX.out _ ht3.below; clear ho hb hg hat ht3)
                    | (go_simp; go_at_call 80; refine (HKC.out _ (below_step HB.out.below HDW.out)).mono ?_; rintro e w2 ⟨A3, c3, A4, c4, rfl, m3, F3, m4, F4, hb2⟩; have HB2 := Aside0.mk (below_step HDW.out hb2); have HM2 := Aside0.mk (HB.out.moved HB2.out); have HFK := Aside0.mk (k25_mkF w2 (fun k => wr.heap.size ≤ k) u m3 F3 m4 F4); have HOK := Aside0.mk (show ∀ k, wr.heap.size ≤ k → w.heap.size + 2 ≤ k ∧ some k ≠ v4.ownBlock from fun k hk => ⟨Nat.le_trans HB.out.size hk, fun e => by have := Kd.N_lt HB.out.n4 k e.symm; omega⟩); have HFR := Aside0.mk (show ∀ k, w2.heap.size ≤ k → w.heap.size + 2 ≤ k from fun k hk => Nat.le_trans HM2.out.size hk); have x42 : w2.cell? ⟨w.heap.size + 1, 4, none⟩ = some v4 := HM2.out.cells.2.2.2.2; have x43 : (w2.alloc (.cells #[.int .i64 u.f0, .string u.f1, .string u.f2, .slice A3 u.f3.length c3, .slice A4 u.f4.length c4] 25)).cell? ⟨w.heap.size + 1, 4, none⟩ = some v4 := (HM2.out.moved (below_alloc (Below.refl _ _) _)).cells.2.2.2.2; clear m3 F3 m4 F4 hb2))
                  all_goals (simp only [Exit.inBlock, Exit.then]; go_wp2_with fail; go_roundg (ks.length - (j + 1)))
                  all_goals first
                    | exact ⟨j + 1, _, rfl, hlt, rfl, HT3⟩
                    | omega
                    | trace_state
                · have hje : j = ks.length := by omega
                  subst hje
                  rw [List.getElem?_eq_none (Nat.le_refl _)]
                  simp only [Option.map_none, ptr_none]
                  have hB := HB.out
                  rw [List.take_of_length_le (by rw [List.length_map]; exact Nat.le_refl _), ← RT.toTL_map] at hB
                  obtain ⟨n3, A3, c3, e3⟩ : ∃ n A c, v3 = .slice A n c := by obtain ⟨A, c, h⟩ := Kd.N_slice hB.n3; exact ⟨_, A, c, h⟩
                  obtain ⟨n4, A4, c4, e4⟩ : ∃ n A c, v4 = .slice A n c := by obtain ⟨A, c, h⟩ := Kd.N_slice hB.n4; exact ⟨_, A, c, h⟩
                  subst e4
                  subst e3
                  obtain ⟨a0, a1, a2, a3, a4, hr⟩ := hB.res
                  obtain ⟨b0, b1, b2, b3, b4⟩ := hB.cells
                  have r0 := blk_cell hr 0
                  have r1 := blk_cell hr 1
                  have r2 := blk_cell hr 2
                  have r3 := blk_cell hr 3
                  have r4 := blk_cell hr 4
                  have f0 := blk_frozen hr 0
                  have f1 := blk_frozen hr 1
                  have f2 := blk_frozen hr 2
                  have f3 := blk_frozen hr 3
                  have f4 := blk_frozen hr 4
                  have HBB := Aside0.mk hB
                  clear hB hr HB
                  go_wp2_with fail
                  refine bodyPost_ret (v := .agg #[.int .i64 0, .string d, .string ⟨#[]⟩, .slice A3 n3 c3, .slice A4 n4 c4]) (by simp [results, Try.results80, go_sem, r0, r1, r2, r3, r4]) rfl ?_
                  obtain ⟨het, hk4, q0, q1, q2, q3⟩ := HT.out
                  have hte := told_end (t := t) (by rw [q0, q1, q2, q3, hk4]; exact HBB.out) (fun k hk _ => sets5 wr w.heap.size (.int .i64 0) (.string d) (.string ⟨#[]⟩) (.slice A3 n3 c3) (.slice A4 n4 c4) k (by omega)) (below_sets5 HBB.out.below (.int .i64 0) (.string d) (.string ⟨#[]⟩) (.slice A3 n3 c3) (.slice A4 n4 c4))
                  rw [q0, q1, q2] at hte
                  exact hte
        · have b3 : (ty == 3) = false := beq_eq_false_iff_ne.2 t3
          have b1 : (ty == 1) = false := beq_eq_false_iff_ne.2 t1
          have b4 : (ty == 4) = false := beq_eq_false_iff_ne.2 t4
          have d3 := decide_eq_false t3
          have d1 := decide_eq_false t1
          have d4 := decide_eq_false t4
          have HT := Aside0.mk (⟨het, hk4, q0, q1, q2, q3⟩ : _ ∧ _ ∧ _ ∧ _ ∧ _ ∧ _)
          clear het hk4 q0 q1 q2 q3 t1 t4 t3
          go_enter Try.func80, Try.ntmps80
          go_upto_region 15 with fail
          have HB0 := Aside0.mk (TB.start w 3 ⟨#[]⟩ ⟨#[]⟩ (two_new w (.cells #[.int .i64 0, .string ⟨#[]⟩, .string ⟨#[]⟩, .slice none 0 0, .slice none 0 0] 25) (.cells #[.int .i64 3, .string ⟨#[]⟩, .string ⟨#[]⟩, .slice none 0 0, .slice none 0 0] 25)) ⟨_, _, _, _, _, two_old w _ _⟩ (below_alloc (below_alloc (Below.refl _ _) _) _))
          generalize (w.alloc (.cells #[.int .i64 0, .string ⟨#[]⟩, .string ⟨#[]⟩, .slice none 0 0, .slice none 0 0] 25)).alloc (.cells #[.int .i64 3, .string ⟨#[]⟩, .string ⟨#[]⟩, .slice none 0 0, .slice none 0 0] 25) = W0 at HB0 ⊢
          clear c5 c7 c9
          have c1 : W0.cell? ⟨i, 1, none⟩ = some (ptr (ks[0]?.map RT.id)) := Is.first (HD.out.below HB0.out.below) HR.out
          go_wp2_with fail
          go_loopg [6] ks.length (fun n v6 wr => ∃ (j : Nat) (v4 : Value), n = ks.length - j ∧ j ≤ ks.length ∧ v6 = ptr (ks[j]?.map RT.id) ∧ Aside0 (TB w wr 3 ⟨#[]⟩ ⟨#[]⟩ (.slice none 0 0) v4 [] ((ks.map RT.toT).take j)))
          case atStart => exact ⟨0, _, rfl, Nat.zero_le _, rfl, HB0⟩
          case round =>
            clear c1
            obtain ⟨j, v4, rfl, hj, rfl, HB⟩ := hrel
            by_cases hlt : j < ks.length
            · rw [List.getElem?_eq_getElem hlt]
              have hkm : ks[j] ∈ ks := List.getElem_mem hlt
              have HNX := Aside0.mk (show ∀ wx, Below w.heap.size w wx → wx.cell? ⟨ks[j].id, 4, none⟩ = some (ptr (ks[j + 1]?.map RT.id)) from fun wx hb => Is.next (HD.out.below hb) HR.out (j := j) hlt)
              have HKC := Aside0.mk (fun wx hb => IH.out ks[j] hkm (some i) (HR.out.kid hkm) (by cases HF.out with | mk _ _ _ _ _ _ h3 h4 hk => exact hk _ hkm) wx (HD.out.below hb))
              have hsn : (ks.map RT.toT).take (j + 1) = (ks.map RT.toT).take j ++ [ks[j].toT] := by rw [List.take_succ_eq_append_getElem (by rw [List.length_map]; exact hlt), List.getElem_map]
              have hlen : ((ks.map RT.toT).take j).length ≤ 1000000000000 := by
                cases HF.out with
                | mk _ _ _ _ _ _ h3 h4 hk => rw [List.length_take, List.length_map]; omega
              have HSN := Aside0.mk hsn
              have HLN := Aside0.mk hlen
              simp only [Option.map_some, ptr_some] at HKC ⊢
              generalize ks[j].toT = u at HKC HSN
              generalize ks[j].id = x at HNX HKC ⊢
              clear hkm hsn hlen
              have x4 : wr.cell? ⟨w.heap.size + 1, 4, none⟩ = some v4 := HB.out.cells.2.2.2.2
              have HDW := Aside0.mk (below_drew (Below.refl wr.heap.size wr))
              have x4d : wr.drew.cell? ⟨w.heap.size + 1, 4, none⟩ = some v4 := (HB.out.moved HDW.out).cells.2.2.2.2
              go_upto_region 18 with fail
              go_region_law (first
                | (refine kids_step (w0 := w) (W := w2) rfl w.heap.size (.tmp 64) (.tmp 67) 23 (.agg #[.int .i64 0, .string ⟨#[]⟩, .string ⟨#[]⟩, .slice none 0 0, .slice none 0 0]) rfl Try.underlying23 infoNd rfl v4 ((ks.map RT.toT).take j) u [.int .i64 u.f0, .string u.f1, .string u.f2, .slice A3 u.f3.length c3, .slice A4 u.f4.length c4] (fun k => w.heap.size + 2 ≤ k) (fun k => wr.heap.size ≤ k) (by simp [Act.eval, Act.put]) (by simp [Act.eval, Act.put]) HFK.out HOK.out HFR.out HM2.out.n4 HM2.out.below HM2.out.below.size (by have := HLN.out; omega) ?_; intro v1 w3 ho hb hg hat; obtain ⟨L1, hL1⟩ : ∃ L1, L1 = ((ks.map RT.toT).take j ++ [u]).length := ⟨_, rfl⟩; obtain ⟨A1, k1, hv1⟩ := Kd.N_slice ho; rw [← hL1] at hv1; subst hv1; clear hL1; obtain ⟨g3, gf3, ht3⟩ := HB.out.kid HB2.out ho hb hg hat; rw [← HSN.out] at ht3; have HT3 := Aside0.mk ht3; have nx := HNX.out _ ht3.below; clear ho hb hg hat ht3)
                | (go_simp; go_at_call 80; refine (HKC.out _ (below_step HB.out.below HDW.out)).mono ?_; rintro e w2 ⟨A3, c3, A4, c4, rfl, m3, F3, m4, F4, hb2⟩; have HB2 := Aside0.mk (below_step HDW.out hb2); have HM2 := Aside0.mk (HB.out.moved HB2.out); have HFK := Aside0.mk (k25_mkF w2 (fun k => wr.heap.size ≤ k) u m3 F3 m4 F4); have HOK := Aside0.mk (show ∀ k, wr.heap.size ≤ k → w.heap.size + 2 ≤ k ∧ some k ≠ v4.ownBlock from fun k hk => ⟨Nat.le_trans HB.out.size hk, fun e => by have := Kd.N_lt HB.out.n4 k e.symm; omega⟩); have HFR := Aside0.mk (show ∀ k, w2.heap.size ≤ k → w.heap.size + 2 ≤ k from fun k hk => Nat.le_trans HM2.out.size hk); have x42 : w2.cell? ⟨w.heap.size + 1, 4, none⟩ = some v4 := HM2.out.cells.2.2.2.2; have x43 : (w2.alloc (.cells #[.int .i64 u.f0, .string u.f1, .string u.f2, .slice A3 u.f3.length c3, .slice A4 u.f4.length c4] 25)).cell? ⟨w.heap.size + 1, 4, none⟩ = some v4 := (HM2.out.moved (below_alloc (Below.refl _ _) _)).cells.2.2.2.2; clear m3 F3 m4 F4 hb2))
              all_goals (simp only [Exit.inBlock, Exit.then]; go_wp2_with fail; go_roundg (ks.length - (j + 1)))
              all_goals first
                | exact ⟨j + 1, _, rfl, hlt, rfl, HT3⟩
                | omega
                | trace_state
            · have hje : j = ks.length := by omega
              subst hje
              rw [List.getElem?_eq_none (Nat.le_refl _)]
              simp only [Option.map_none, ptr_none]
              have hB := HB.out
              rw [List.take_of_length_le (by rw [List.length_map]; exact Nat.le_refl _), ← RT.toTL_map] at hB
              have e3 : True := trivial
              obtain ⟨n4, A4, c4, e4⟩ : ∃ n A c, v4 = .slice A n c := by obtain ⟨A, c, h⟩ := Kd.N_slice hB.n4; exact ⟨_, A, c, h⟩
              subst e4
              clear e3
              obtain ⟨a0, a1, a2, a3, a4, hr⟩ := hB.res
              obtain ⟨b0, b1, b2, b3, b4⟩ := hB.cells
              have r0 := blk_cell hr 0
              have r1 := blk_cell hr 1
              have r2 := blk_cell hr 2
              have r3 := blk_cell hr 3
              have r4 := blk_cell hr 4
              have f0 := blk_frozen hr 0
              have f1 := blk_frozen hr 1
              have f2 := blk_frozen hr 2
              have f3 := blk_frozen hr 3
              have f4 := blk_frozen hr 4
              have HBB := Aside0.mk hB
              clear hB hr HB
              go_wp2_with fail
              refine bodyPost_ret (v := .agg #[.int .i64 3, .string ⟨#[]⟩, .string ⟨#[]⟩, .slice none 0 0, .slice A4 n4 c4]) (by simp [results, Try.results80, go_sem, r0, r1, r2, r3, r4]) rfl ?_
              obtain ⟨het, hk4, q0, q1, q2, q3⟩ := HT.out
              have hte := told_end (t := t) (by rw [q0, q1, q2, q3, hk4]; exact HBB.out) (fun k hk _ => sets5 wr w.heap.size (.int .i64 3) (.string ⟨#[]⟩) (.string ⟨#[]⟩) (.slice none 0 0) (.slice A4 n4 c4) k (by omega)) (below_sets5 HBB.out.below (.int .i64 3) (.string ⟨#[]⟩) (.string ⟨#[]⟩) (.slice none 0 0) (.slice A4 n4 c4))
              rw [q0, q1, q2] at hte
              exact hte
end Go.Proofs.Ytibfoaahdbdogaa.Dom

/- Trees of nodes whose children change at one place: what a table holds of them. Plain facts. -/
namespace Go.Proofs.Ytibfoaahdbdogaa.Dom
open Go.RowKit Go.Proofs.YtibfoaahdbdogaaW.PrintWords Go.Proofs.YtibfoaahdbdogaaW.PrintLast Go.Proofs.YtibfoaahdbdogaaW.PrintMore Go.Proofs.Ytibfoaahdbdogaa.PDom
set_option linter.unusedVariables false
set_option linter.unusedSimpArgs false

theorem Is.congr {D D' : Tab} (r : RT) : ∀ {p : Option Nat}, Is D p r → (∀ b ∈ r.pre, D' b = D b) → Is D' p r := by
  induction r using RT.induct with
  | h i t a d at_ ks ih =>
    intro p h he
    have hroot : D i = some _ := h.root
    refine Is.mk p i t a d at_ ks ((he i (by simp [RT.pre])).trans hroot) (fun k hk => ih k hk (h.kid hk) (fun b hb => he b ?_))
    show b ∈ i :: RT.preL ks
    exact List.mem_cons_of_mem _ (RT.mem_preL.2 ⟨k, hk, hb⟩)
/-- A tree whose root has another parent. -/
theorem Is.reroot {D D' : Tab} {r : RT} {p q : Option Nat} (h : Is D p r) (hr : D' r.id = some (r.info q)) (he : ∀ b ∈ RT.preL r.kids, D' b = D b) : Is D' q r := by
  cases r with
  | node i t a d at_ ks =>
    refine Is.mk q i t a d at_ ks hr (fun k hk => (h.kid (r := .node i t a d at_ ks) hk).congr k (fun b hb => he b (RT.mem_preL.2 ⟨k, hk, hb⟩)))
/-- The children of the node at a place, changed. -/
def RT.mapAt (f : List RT → List RT) : RT → List Int → RT
  | .node i t a d at_ ks, [] => .node i t a d at_ (f ks)
  | .node i t a d at_ ks, j :: l => .node i t a d at_ (match ks[j.toNat]? with | some k => ks.set j.toNat (RT.mapAt f k l) | none => ks)
theorem RT.mapAt_id (f : List RT → List RT) (r : RT) (l : List Int) : (r.mapAt f l).id = r.id := by
  cases r
  cases l <;> simp [RT.mapAt, RT.id]
theorem RT.mapAt_cons (f : List RT → List RT) (i : Nat) (t a : Int) (d : ByteArray) (at_ : List (ByteArray × ByteArray)) (ks : List RT) (j : Int) (l : List Int) {k : RT} (hk : ks[j.toNat]? = some k) :
    RT.mapAt f (.node i t a d at_ ks) (j :: l) = .node i t a d at_ (ks.set j.toNat (k.mapAt f l)) := by
  simp only [RT.mapAt, hk]
theorem RT.sub_pre (l : List Int) : ∀ (r y : RT), r.at_ l = some y → ∀ b ∈ y.pre, b ∈ r.pre := by
  induction l with
  | nil =>
    intro r y h b hb
    have : r = y := by simpa [RT.at_] using h
    rw [this]; exact hb
  | cons j l ih =>
    intro r y h b hb
    simp only [RT.at_] at h
    split at h
    · obtain ⟨k, hk, h2⟩ := Option.bind_eq_some_iff.1 h
      have hkm : k ∈ r.kids := List.mem_of_getElem? hk
      have := ih k y h2 b hb
      cases r with
      | node i t a d at_ ks =>
        show b ∈ i :: RT.preL ks
        exact List.mem_cons_of_mem _ (RT.mem_preL.2 ⟨k, hkm, this⟩)
    · cases h
theorem map_set {α β : Type} (f : α → β) (l : List α) (j : Nat) (x : α) {y : α} (hy : l[j]? = some y) (h : f x = f y) : (l.set j x).map f = l.map f := by
  rw [List.map_set, h]
  apply List.ext_getElem?
  intro m
  by_cases hm : m = j
  · subst hm
    have hlt := (List.getElem?_eq_some_iff.1 hy).1
    rw [List.getElem?_set_self (by rw [List.length_map]; exact hlt), List.getElem?_map, hy]
    rfl
  · rw [List.getElem?_set_ne (fun e => hm e.symm)]
theorem nodup_kid {i : Nat} {ks : List RT} {k k' : RT} {j : Nat} (h : (i :: RT.preL ks).Nodup) (hk : ks[j]? = some k) : i ∉ k.pre ∧ k.pre.Nodup ∧ ∀ m, m ≠ j → ks[m]? = some k' → ∀ b ∈ k'.pre, b ∉ k.pre := by
  obtain ⟨h1, h2⟩ := List.nodup_cons.1 h
  have hlt := (List.getElem?_eq_some_iff.1 hk).1
  have hs : ks = ks.take j ++ k :: ks.drop (j + 1) := by
    have := (List.getElem?_eq_some_iff.1 hk).2
    rw [← this]
    exact (List.take_append_drop j ks).symm.trans (by rw [List.drop_eq_getElem_cons hlt])
  have hp : RT.preL ks = RT.preL (ks.take j) ++ (k.pre ++ RT.preL (ks.drop (j + 1))) := by
    conv => lhs; rw [hs]
    rw [RT.preL_append]
    rfl
  rw [hp] at h1 h2
  rw [List.nodup_append] at h2
  obtain ⟨n1, n2, n3⟩ := h2
  rw [List.nodup_append] at n2
  obtain ⟨m1, m2, m3⟩ := n2
  refine ⟨fun hb => h1 (by simp [hb]), m1, fun m hm hk' b hb hbk => ?_⟩
  rcases Nat.lt_or_gt_of_ne hm with hlt2 | hgt
  · refine n3 b (RT.mem_preL.2 ⟨k', ?_, hb⟩) b (by simp [hbk]) rfl
    refine List.mem_of_getElem? (i := m) ?_
    rw [List.getElem?_take, if_pos hlt2, hk']
  · refine m3 b hbk b (RT.mem_preL.2 ⟨k', ?_, hb⟩) rfl
    refine List.mem_of_getElem? (i := m - (j + 1)) ?_
    rw [List.getElem?_drop, show j + 1 + (m - (j + 1)) = m by omega, hk']
theorem Is.mapAt {D D' : Tab} (f : List RT → List RT) (l : List Int) : ∀ (r up : RT) {p : Option Nat}, Is D p r → r.at_ l = some up → r.pre.Nodup → (∃ q, D' up.id = some { up.info q with kids := (f up.kids).map RT.id } ∧ Is D q up) → (∀ k ∈ f up.kids, Is D' (some up.id) k) →
    (∀ b ∈ r.pre, b ≠ up.id → b ∉ RT.preL up.kids → D' b = D b) → Is D' p (r.mapAt f l) := by
  induction l with
  | nil =>
    intro r up p h hu hnd hD hK hO
    obtain rfl : r = up := by simpa [RT.at_] using hu
    obtain ⟨q, hD, hq⟩ := hD
    have hpq : q = p := by
      have h1 := h.root
      have h2 := hq.root
      rw [h1] at h2
      have := congrArg Info.parent (Option.some.inj h2)
      cases r
      exact this.symm
    subst hpq
    cases r with
    | node i t a d at_ ks =>
      simp only [RT.mapAt]
      exact Is.mk q i t a d at_ (f ks) hD hK
  | cons j l ih =>
    intro r up p h hu hnd hD hK hO
    cases r with
    | node i t a d at_ ks =>
      simp only [RT.at_] at hu
      split at hu
      case isFalse => cases hu
      obtain ⟨k, hk, hu⟩ := Option.bind_eq_some_iff.1 hu
      have hk' : ks[j.toNat]? = some k := hk
      rw [RT.mapAt_cons f i t a d at_ ks j l hk']
      have hkm : k ∈ ks := List.mem_of_getElem? hk'
      have hnd' : (i :: RT.preL ks).Nodup := hnd
      obtain ⟨d1, d2, _⟩ := nodup_kid (k' := k) hnd' hk'
      have hsub := RT.sub_pre l k up hu
      have upk : up.id ∈ k.pre := hsub _ (RT.id_mem up)
      have kidsk : ∀ b ∈ RT.preL up.kids, b ∈ k.pre := fun b hb => hsub b (by cases up; exact List.mem_cons_of_mem _ hb)
      have hroot : D i = some _ := h.root
      refine Is.mk p i t a d at_ _ ?_ ?_
      · rw [hO i (by simp [RT.pre]) (fun e => d1 (by rw [e]; exact upk)) (fun hb => d1 (kidsk _ hb)), hroot, map_set RT.id ks _ _ hk' (RT.mapAt_id f k l)]
        rfl
      · intro x hx
        obtain ⟨m, hm, rfl⟩ := List.getElem_of_mem hx
        by_cases hmj : m = j.toNat
        · subst hmj
          rw [List.getElem_set_self]
          refine ih k up (h.kid hkm) hu d2 hD hK (fun b hb h1 h2 => hO b ?_ h1 h2)
          show b ∈ i :: RT.preL ks
          exact List.mem_cons_of_mem _ (RT.mem_preL.2 ⟨k, hkm, hb⟩)
        · rw [List.getElem_set_ne (fun e => hmj e.symm)]
          have hml : m < ks.length := by simpa using hm
          have hks : ks[m]? = some ks[m] := List.getElem?_eq_getElem hml
          obtain ⟨_, _, d3⟩ := nodup_kid (k' := ks[m]) hnd' hk'
          have hd := d3 m hmj hks
          refine (h.kid (r := .node i t a d at_ ks) (List.getElem_mem hml)).congr _ (fun b hb => hO b ?_ ?_ ?_)
          · show b ∈ i :: RT.preL ks
            exact List.mem_cons_of_mem _ (RT.mem_preL.2 ⟨_, List.getElem_mem hml, hb⟩)
          · exact fun e => hd b hb (by rw [e]; exact upk)
          · exact fun h2 => hd b hb (kidsk b h2)
/-- The same, of plain data. -/
def mapAtT (f : List T → List T) : T → List Int → T
  | t, [] => { t with f4 := f t.f4 }
  | t, j :: l => { t with f4 := match t.f4[j.toNat]? with | some k => t.f4.set j.toNat (mapAtT f k l) | none => t.f4 }
/-- A node that may have children. -/
def Opens (r : RT) : Prop := r.ty ≠ 1 ∧ r.ty ≠ 4
theorem toT_kids {r : RT} (h : Opens r) : r.toT.f4 = RT.toTL r.kids := by
  cases r with
  | node i t a d at_ ks =>
    simp only [RT.toT]
    split
    · rfl
    · rw [if_neg (show ¬ t = 1 from h.1), if_neg (show ¬ t = 4 from h.2)]
      rfl
theorem toT_set (i : Nat) (t a : Int) (d : ByteArray) (at_ : List (ByteArray × ByteArray)) (ks ks' : List RT) (h : Opens (.node i t a d at_ ks)) : (RT.node i t a d at_ ks').toT = { (RT.node i t a d at_ ks).toT with f4 := RT.toTL ks' } := by
  simp only [RT.toT]
  split
  · rfl
  · have h1 : t ≠ 1 := h.1
    have h2 : t ≠ 4 := h.2
    rw [if_neg h1, if_neg h1, if_neg h2, if_neg h2]
theorem toT_mapAt (f : List RT → List RT) (g : List T → List T) (l : List Int) : ∀ (r up : RT), r.at_ l = some up → RT.toTL (f up.kids) = g (RT.toTL up.kids) → (∀ m y, r.at_ (l.take m) = some y → Opens y) → (r.mapAt f l).toT = mapAtT g r.toT l := by
  induction l with
  | nil =>
    intro r up hu hfg ho
    obtain rfl : r = up := by simpa [RT.at_] using hu
    have h0 : Opens r := ho 0 r (by simp [RT.at_])
    have hk := toT_kids h0
    cases r with
    | node i t a d at_ ks =>
      simp only [RT.mapAt]
      rw [toT_set i t a d at_ ks _ h0]
      show _ = { (RT.node i t a d at_ ks).toT with f4 := g (RT.node i t a d at_ ks).toT.f4 }
      rw [hk]
      exact congrArg (fun z => { (RT.node i t a d at_ ks).toT with f4 := z }) hfg
  | cons j l ih =>
    intro r up hu hfg ho
    have h0 : Opens r := ho 0 r (by simp [RT.at_])
    have hk := toT_kids h0
    cases r with
    | node i t a d at_ ks =>
      have hu0 := hu
      simp only [RT.at_] at hu
      split at hu
      case isFalse => cases hu
      rename_i hj0
      obtain ⟨k, hkj, hu⟩ := Option.bind_eq_some_iff.1 hu
      have hk' : ks[j.toNat]? = some k := hkj
      rw [RT.mapAt_cons f i t a d at_ ks j l hk', toT_set i t a d at_ ks _ h0]
      have ihk := ih k up hu hfg (fun m y hy => ho (m + 1) y (by
        show RT.at_ (.node i t a d at_ ks) (j :: l.take m) = some y
        simp only [RT.at_]
        rw [if_pos hj0]
        show (ks[j.toNat]?).bind _ = _
        rw [hk']
        exact hy))
      have hkt : (RT.node i t a d at_ ks).toT.f4[j.toNat]? = some k.toT := by
        rw [hk, RT.toTL_map]
        show (ks.map RT.toT)[j.toNat]? = _
        rw [List.getElem?_map, hk']
        rfl
      show _ = mapAtT g _ (j :: l)
      simp only [mapAtT, hkt]
      rw [← ihk, hk, RT.toTL_map, RT.toTL_map]
      show _ = ({ (RT.node i t a d at_ ks).toT with f4 := (ks.map RT.toT).set j.toNat (k.mapAt f l).toT } : T)
      rw [List.map_set]
end Go.Proofs.Ytibfoaahdbdogaa.Dom

/- (*html.Node).InsertBefore: its contract over a table. -/
namespace Go.Proofs.Ytibfoaahdbdogaa.Dom
open Go.RowKit Go.Proofs.YtibfoaahdbdogaaW.PrintWords Go.Proofs.YtibfoaahdbdogaaW.PrintLast Go.Proofs.YtibfoaahdbdogaaW.PrintMore
set_option linter.unusedVariables false
set_option linter.unusedSimpArgs false

set_option maxHeartbeats 4000000 in
set_option maxRecDepth 100000 in
theorem insert_calls (w : World) (D : Tab) (n c : Nat) (i ic : Info) (l1 l2 : List Nat) (h : Dom w D) (hn : D n = some i) (hc : D c = some ic) (hK : i.kids = l1 ++ l2) (hne : n ≠ c) (hroot : ic.parent = none) (hself : i.parent ≠ some n) :
    Calls Try.prog 81 #[ptr (some n), ptr (some c), ptr l2.head?] w fun e w' => e = .returned (.tuple #[]) ∧ Dom w' (relink D n c i ic (l1 ++ c :: l2) (some n)) ∧ Only D w w' := by
  have R := Aside0.mk (h.insert (c := c) hn hc hK hne hroot hself)
  obtain ⟨vn, hHn, _⟩ := h.has hn
  obtain ⟨vc, hHc, _⟩ := h.has hc
  have hnc : ¬ c = n := fun e => hne e.symm
  have hcn := h.kid_ne hn hc hroot
  have hnd0 := h.wf.nodup hn
  rw [hK] at hnd0 hcn
  have hnl : ¬ (n ∈ l1 ∨ n ∈ l2) := fun hx => h.no_loop hn hself (by rw [hK]; rcases hx with hx | hx <;> simp [hx])
  have d12 : ∀ q, q ∈ l1 → q ∈ l2 → False := fun q h1 h2 => by rw [List.nodup_append] at hnd0; exact hnd0.2.2 q h1 q h2 rfl
  have c0 : w.cell? ⟨c, 0, none⟩ = some (.pointer none) := by rw [hHc.cells10.1]; show some (ptr ic.parent) = _; rw [hroot]; rfl
  have c3 : w.cell? ⟨c, 3, none⟩ = some (.pointer none) := by rw [hHc.cells10.2.2.2.1]; show some (ptr (prevIn (sibs D ic) c)) = _; rw [sibs_none hroot]; rfl
  have c4 : w.cell? ⟨c, 4, none⟩ = some (.pointer none) := by rw [hHc.cells10.2.2.2.2.1]; show some (ptr (nextIn (sibs D ic) c)) = _; rw [sibs_none hroot]; rfl
  have n1 := hHn.cells10.2.1
  have n2 : w.cell? ⟨n, 2, none⟩ = some (ptr (l1 ++ l2).getLast?) := by rw [hHn.cells10.2.2.1]; show some (ptr i.kids.getLast?) = _; rw [hK]
  have hfc0 := hHc.frozen 0
  have hfc3 := hHc.frozen 3
  have hfc4 := hHc.frozen 4
  have hfn1 := hHn.frozen 1
  have hfn2 := hHn.frozen 2
  have HD := Aside0.mk h
  have HDN := Aside0.mk hn
  have kd : ∀ q, q ∈ l1 ∨ q ∈ l2 → ∃ iq, D q = some iq ∧ iq.parent = some n := fun q hq => h.wf.down hn (by rw [hK]; rcases hq with hq | hq <;> simp [hq] : q ∈ i.kids)
  unfold ptr
  rcases snoc_or l1 with rfl | ⟨k1, x, rfl⟩
  · cases l2 with
    | nil =>
      rw [show inStores n c [] [] = [(n, 1, some c), (n, 2, some c), (c, 0, some n), (c, 3, none), (c, 4, none)] by unfold inStores; simp] at R
      have n2' : w.cell? ⟨n, 2, none⟩ = some (.pointer none) := by rw [n2]; simp [ptr]
      clear hHn hHc h hn hc hroot hself hnd0 hcn hnl d12 kd n2 hK
      go_enter Try.func81, Try.ntmps81
      go_wp2_with fail
      go_end0
      exact ⟨rfl, R.out⟩
    | cons y k2 =>
      rw [show inStores n c [] (y :: k2) = [(n, 1, some c), (y, 3, some c), (c, 0, some n), (c, 3, none), (c, 4, some y)] by unfold inStores; simp] at R
      obtain ⟨iy, hiy, hpy⟩ := kd y (.inr (by simp))
      obtain ⟨vy, hHy, _⟩ := h.has hiy
      have hyc : ¬ y = c := fun e => hcn (by rw [← e]; simp)
      have hcy : ¬ c = y := fun e => hyc e.symm
      have hyn : ¬ y = n := fun e => hnl (by rw [← e]; exact .inr (by simp))
      have hny : ¬ n = y := fun e => hyn e.symm
      have hfy := hHy.frozen 3
      have hy1 : y ∉ [] := fun hx => d12 y hx (by simp)
      have hy2 : y ∉ k2 := by rw [List.nodup_append] at hnd0; exact (List.nodup_cons.1 hnd0.2.1).1
      have y3 : w.cell? ⟨y, 3, none⟩ = some (.pointer none) := by rw [hHy.cells10.2.2.2.1]; show some (ptr (prevIn (sibs D iy) y)) = _; rw [sibs_some hpy, kidsOf_some hn, hK, prevIn_split hy2]; simp [ptr]
      clear hHn hHc h hn hc hroot hself hnd0 hcn hnl d12 kd n2 hK
      clear hHy hiy hpy hy1 hy2
      go_enter Try.func81, Try.ntmps81
      go_wp2_with fail
      go_end0
      exact ⟨rfl, R.out⟩
  · cases l2 with
    | nil =>
      rw [show inStores n c (k1 ++ [x]) [] = [(x, 4, some c), (n, 2, some c), (c, 0, some n), (c, 3, some x), (c, 4, none)] by unfold inStores; simp] at R
      obtain ⟨ix, hix, hpx⟩ := kd x (.inl (by simp))
      obtain ⟨vx, hHx, _⟩ := h.has hix
      have hxc : ¬ x = c := fun e => hcn (by rw [← e]; simp)
      have hcx : ¬ c = x := fun e => hxc e.symm
      have hxn : ¬ x = n := fun e => hnl (by rw [← e]; exact .inl (by simp))
      have hnx : ¬ n = x := fun e => hxn e.symm
      have hfx := hHx.frozen 4
      have x4 := hHx.cells10.2.2.2.2.1
      have n2' : w.cell? ⟨n, 2, none⟩ = some (.pointer (some ⟨x, 0, none⟩)) := by rw [n2]; simp [ptr]
      clear hHn hHc h hn hc hroot hself hnd0 hcn hnl d12 kd n2 hK
      clear hHx hix hpx
      go_enter Try.func81, Try.ntmps81
      go_wp2_with fail
      go_end0
      exact ⟨rfl, R.out⟩
    | cons y k2 =>
      rw [show inStores n c (k1 ++ [x]) (y :: k2) = [(x, 4, some c), (y, 3, some c), (c, 0, some n), (c, 3, some x), (c, 4, some y)] by unfold inStores; simp] at R
      obtain ⟨ix, hix, hpx⟩ := kd x (.inl (by simp))
      obtain ⟨vx, hHx, _⟩ := h.has hix
      have hxc : ¬ x = c := fun e => hcn (by rw [← e]; simp)
      have hcx : ¬ c = x := fun e => hxc e.symm
      have hxn : ¬ x = n := fun e => hnl (by rw [← e]; exact .inl (by simp))
      have hnx : ¬ n = x := fun e => hxn e.symm
      have hfx := hHx.frozen 4
      have x4 := hHx.cells10.2.2.2.2.1
      obtain ⟨iy, hiy, hpy⟩ := kd y (.inr (by simp))
      obtain ⟨vy, hHy, _⟩ := h.has hiy
      have hyc : ¬ y = c := fun e => hcn (by rw [← e]; simp)
      have hcy : ¬ c = y := fun e => hyc e.symm
      have hyn : ¬ y = n := fun e => hnl (by rw [← e]; exact .inr (by simp))
      have hny : ¬ n = y := fun e => hyn e.symm
      have hfy := hHy.frozen 3
      have hy1 : y ∉ (k1 ++ [x]) := fun hx => d12 y hx (by simp)
      have hy2 : y ∉ k2 := by rw [List.nodup_append] at hnd0; exact (List.nodup_cons.1 hnd0.2.1).1
      have y3 : w.cell? ⟨y, 3, none⟩ = some (.pointer (some ⟨x, 0, none⟩)) := by rw [hHy.cells10.2.2.2.1]; show some (ptr (prevIn (sibs D iy) y)) = _; rw [sibs_some hpy, kidsOf_some hn, hK, prevIn_split hy2]; simp [ptr]
      have hxy : ¬ x = y := fun e => d12 x (by simp) (by simp [e])
      have hyx : ¬ y = x := fun e => hxy e.symm
      clear hHn hHc h hn hc hroot hself hnd0 hcn hnl d12 kd n2 hK
      clear hHx hix hpx
      clear hHy hiy hpy hy1 hy2
      go_enter Try.func81, Try.ntmps81
      go_wp2_with fail
      go_end0
      exact ⟨rfl, R.out⟩
end Go.Proofs.Ytibfoaahdbdogaa.Dom

/- A subtree taken out of a tree, and a tree put in. Plain facts on tables. -/
namespace Go.Proofs.Ytibfoaahdbdogaa.Dom
open Go.RowKit Go.Proofs.YtibfoaahdbdogaaW.PrintWords Go.Proofs.YtibfoaahdbdogaaW.PrintLast Go.Proofs.YtibfoaahdbdogaaW.PrintMore Go.Proofs.Ytibfoaahdbdogaa.PDom
set_option linter.unusedVariables false
set_option linter.unusedSimpArgs false

theorem Is.avoid {D : Tab} {r : RT} (hr : Is D none r) (y : RT) : ∀ {q : Option Nat}, Is D q y → y.id ∉ r.pre → ∀ b ∈ y.pre, b ∉ r.pre := by
  induction y using RT.induct with
  | h i t a d at_ ks ih =>
    intro q hy hid b hb
    rcases List.mem_cons.1 (show b ∈ i :: RT.preL ks from hb) with rfl | hb
    · exact hid
    · obtain ⟨k, hk, hbk⟩ := RT.mem_preL.1 hb
      have hki := hy.kid (r := .node i t a d at_ ks) hk
      refine ih k hk hki (fun hm => ?_) b hbk
      obtain ⟨q', y', h1, h2, _, h4⟩ := hr.sub r hm
      have hp : q' = some i := by
        have e1 := h1.root
        have e2 := hki.root
        rw [h2, e2] at e1
        have := congrArg Info.parent (Option.some.inj e1)
        cases k
        cases y'
        exact this.symm
      rcases h4 with h4 | ⟨z, hz, hzm⟩
      · have e2 := hki.root
        have e1 := hr.root
        rw [h4, e1] at e2
        have := congrArg Info.parent (Option.some.inj e2)
        cases k
        cases r
        simp [RT.info] at this
      · rw [hp] at hz
        obtain rfl := Option.some.inj hz
        exact hid hzm
theorem Is.up {D : Tab} {r up : RT} {p : Option Nat} {l : List Int} (h : Is D p r) (hu : r.at_ l = some up) : ∃ q, Is D q up := by
  induction l generalizing r p with
  | nil =>
    have : r = up := by simpa [RT.at_] using hu
    exact ⟨p, this ▸ h⟩
  | cons j l ih =>
    simp only [RT.at_] at hu
    split at hu
    · obtain ⟨k, hk, h2⟩ := Option.bind_eq_some_iff.1 hu
      exact ih (h.kid (List.mem_of_getElem? hk)) h2
    · cases hu
theorem info_k (p : Option Nat) (r : RT) : (r.info p).kids = r.kids.map RT.id := by cases r; rfl
theorem info_p (p : Option Nat) (r : RT) : (r.info p).parent = p := by cases r; rfl
theorem info_set (p q : Option Nat) (r : RT) : { r.info p with parent := q } = r.info q := by cases r; rfl
def RT.withKids : RT → List RT → RT
  | .node i t a d at_ _, ks => .node i t a d at_ ks
theorem withKids_kids (r : RT) (ks : List RT) : (r.withKids ks).kids = ks := by cases r; rfl
theorem withKids_idd (r : RT) (ks : List RT) : (r.withKids ks).id = r.id := by cases r; rfl
theorem at_mapAt (f : List RT → List RT) (l : List Int) : ∀ (r up : RT), r.at_ l = some up → (r.mapAt f l).at_ l = some (up.withKids (f up.kids)) := by
  induction l with
  | nil =>
    intro r up h
    obtain rfl : r = up := by simpa [RT.at_] using h
    cases r
    rfl
  | cons j l ih =>
    intro r up h
    cases r with
    | node i t a d at_ ks =>
      simp only [RT.at_] at h
      split at h
      case isFalse => cases h
      rename_i hj
      obtain ⟨k, hk, h⟩ := Option.bind_eq_some_iff.1 h
      have hk' : ks[j.toNat]? = some k := hk
      rw [RT.mapAt_cons f i t a d at_ ks j l hk']
      simp only [RT.at_]
      rw [if_pos hj]
      show ((ks.set j.toNat (k.mapAt f l))[j.toNat]?).bind _ = _
      rw [List.getElem?_set_self (List.getElem?_eq_some_iff.1 hk').1]
      exact ih k up h
theorem mapAt_mapAt (f g : List RT → List RT) (l : List Int) : ∀ (r up : RT), r.at_ l = some up → (r.mapAt f l).mapAt g l = r.mapAt (fun ks => g (f ks)) l := by
  induction l with
  | nil =>
    intro r up h
    cases r
    rfl
  | cons j l ih =>
    intro r up h
    cases r with
    | node i t a d at_ ks =>
      simp only [RT.at_] at h
      split at h
      case isFalse => cases h
      rename_i hj
      obtain ⟨k, hk, h⟩ := Option.bind_eq_some_iff.1 h
      have hk' : ks[j.toNat]? = some k := hk
      rw [RT.mapAt_cons f i t a d at_ ks j l hk', RT.mapAt_cons (fun ks => g (f ks)) i t a d at_ ks j l hk', RT.mapAt_cons g i t a d at_ _ j l (k := k.mapAt f l) (List.getElem?_set_self (List.getElem?_eq_some_iff.1 hk').1), ih k up h, List.set_set]
/-- What a node's children have for themselves. -/
theorem kids_apart {D : Tab} (wf : WF D) {up x : RT} {q : Option Nat} (hu : Is D q up) {k1 k2 : List RT} (hk : up.kids = k1 ++ x :: k2) :
    (∀ k ∈ k1 ++ k2, ∀ b ∈ k.pre, b ≠ up.id ∧ b ≠ x.id) ∧ (∀ b ∈ RT.preL x.kids, b ≠ up.id ∧ b ≠ x.id) ∧ x.id ≠ up.id ∧ x.id ∈ RT.preL up.kids := by
  have hnd := Is.nodup wf up hu
  cases up with
  | node i t a d at_ ks =>
    obtain rfl : ks = k1 ++ x :: k2 := hk
    obtain ⟨n1, n2⟩ := List.nodup_cons.1 (show (i :: RT.preL (k1 ++ x :: k2)).Nodup from hnd)
    have hp : RT.preL (k1 ++ x :: k2) = RT.preL k1 ++ (x.pre ++ RT.preL k2) := by rw [RT.preL_append]; rfl
    rw [hp] at n1 n2
    obtain ⟨m1, m2, m3⟩ := List.nodup_append.1 n2
    obtain ⟨o1, o2, o3⟩ := List.nodup_append.1 m2
    have hxm := RT.id_mem x
    refine ⟨fun k hkm b hb => ⟨fun e => n1 (by rw [← show b = i from e]; rcases List.mem_append.1 hkm with h | h; exact List.mem_append_left _ (RT.mem_preL.2 ⟨k, h, hb⟩); exact List.mem_append_right _ (List.mem_append_right _ (RT.mem_preL.2 ⟨k, h, hb⟩))), fun e => ?_⟩, fun b hb => ⟨fun e => n1 (by rw [← show b = i from e]; exact List.mem_append_right _ (List.mem_append_left _ (by cases x; exact List.mem_cons_of_mem _ hb))), fun e => ?_⟩, fun e => n1 (by rw [← show x.id = i from e]; exact List.mem_append_right _ (List.mem_append_left _ hxm)), ?_⟩
    · rcases List.mem_append.1 hkm with h | h
      · exact m3 b (RT.mem_preL.2 ⟨k, h, hb⟩) x.id (List.mem_append_left _ hxm) e
      · exact o3 x.id hxm b (RT.mem_preL.2 ⟨k, h, hb⟩) e.symm
    · cases x with
      | node i2 t2 a2 d2 at2 ks2 =>
        obtain ⟨p1, _⟩ := List.nodup_cons.1 (show (i2 :: RT.preL ks2).Nodup from o1)
        exact p1 (by rw [← show b = i2 from e]; exact hb)
    · show x.id ∈ RT.preL (k1 ++ x :: k2)
      rw [hp]
      exact List.mem_append_right _ (List.mem_append_left _ hxm)
theorem rt_remove {D : Tab} (wf : WF D) {r up x : RT} {l : List Int} (hr : Is D none r) (hu : r.at_ l = some up) {k1 k2 : List RT} (hk : up.kids = k1 ++ x :: k2) {q : Option Nat} (hq : Is D q up) :
    Is (relink D up.id x.id (up.info q) (x.info (some up.id)) (k1.map RT.id ++ k2.map RT.id) none) none (r.mapAt (fun _ => k1 ++ k2) l) ∧ Is (relink D up.id x.id (up.info q) (x.info (some up.id)) (k1.map RT.id ++ k2.map RT.id) none) none x := by
  obtain ⟨a1, a2, a3, a4⟩ := kids_apart wf hq hk
  have hxm : x ∈ up.kids := by rw [hk]; simp
  have hx := hq.kid hxm
  have hne : up.id ≠ x.id := fun e => a3 e.symm
  refine ⟨hr.mapAt (fun _ => k1 ++ k2) l r up hu (Is.nodup wf r hr) ⟨q, ?_, hq⟩ (fun k hkm => ?_) (fun b hb h1 h2 => relink_o h1 (fun e => h2 (e ▸ a4))), ?_⟩
  · rw [relink_n hne, List.map_append]
  · refine (hq.kid (k := k) (by rw [hk]; rcases List.mem_append.1 hkm with h | h <;> simp [h])).congr k (fun b hb => ?_)
    exact relink_o (a1 k hkm b hb).1 (a1 k hkm b hb).2
  · refine hx.reroot ?_ (fun b hb => relink_o (a2 b hb).1 (a2 b hb).2)
    rw [relink_c, info_set]
theorem rt_insert {D : Tab} (wf : WF D) {r up y : RT} {l : List Int} (hr : Is D none r) (hu : r.at_ l = some up) {k1 k2 : List RT} (hk : up.kids = k1 ++ k2) {q : Option Nat} (hq : Is D q up) (hy : Is D none y) (hav : y.id ∉ r.pre) :
    Is (relink D up.id y.id (up.info q) (y.info none) (k1.map RT.id ++ y.id :: k2.map RT.id) (some up.id)) none (r.mapAt (fun _ => k1 ++ y :: k2) l) := by
  have hd := hr.avoid y hy hav
  have hsub := RT.sub_pre l r up hu
  have hup : up.id ∈ r.pre := hsub _ (RT.id_mem up)
  have hne : up.id ≠ y.id := fun e => hav (e ▸ hup)
  have hny : ∀ b ∈ r.pre, b ≠ y.id := fun b hb e => hav (e ▸ hb)
  have kidpre : ∀ k ∈ up.kids, ∀ b ∈ k.pre, b ∈ up.pre ∧ b ≠ up.id := fun k hk b hb => ⟨by
    cases up with
    | node i t a d at_ ks => exact List.mem_cons_of_mem _ (RT.mem_preL.2 ⟨k, hk, hb⟩), hq.proper hk hb⟩
  refine hr.mapAt (fun _ => k1 ++ y :: k2) l r up hu (Is.nodup wf r hr) ⟨q, ?_, hq⟩ (fun k hkm => ?_) (fun b hb h1 h2 => relink_o h1 (hny b hb))
  · rw [relink_n hne]
    simp
  · have hcase : k = y ∨ k ∈ up.kids := by
      rw [hk]
      simp at hkm ⊢
      rcases hkm with h | h | h
      · exact .inr (.inl h)
      · exact .inl h
      · exact .inr (.inr h)
    rcases hcase with rfl | hkk
    · refine hy.reroot ?_ (fun b hb => relink_o (fun e => ?_) (fun e => ?_))
      · rw [relink_c, info_set]
      · exact hd b (by cases k; exact List.mem_cons_of_mem _ hb) (e ▸ hup)
      · have := Is.nodup wf k hy
        cases k with
        | node i t a d at_ ks =>
          exact (List.nodup_cons.1 (show (i :: RT.preL ks).Nodup from this)).1 (by rw [← show b = i from e]; exact hb)
    · exact (hq.kid hkk).congr k (fun b hb => relink_o (kidpre k hkk b hb).2 (hny b (hsub b (kidpre k hkk b hb).1)))
end Go.Proofs.Ytibfoaahdbdogaa.Dom

/- dom.ReplaceNode: its contract over a tree. -/
namespace Go.Proofs.Ytibfoaahdbdogaa.Dom
open Go.RowKit Go.Proofs.YtibfoaahdbdogaaW.PrintWords Go.Proofs.YtibfoaahdbdogaaW.PrintLast Go.Proofs.YtibfoaahdbdogaaW.PrintMore Go.Proofs.Ytibfoaahdbdogaa.PDom
set_option linter.unusedVariables false
set_option linter.unusedSimpArgs false

theorem Is.selfless {D : Tab} (wf : WF D) {q : Option Nat} {up : RT} (h : Is D q up) : q ≠ some up.id := fun e => by
  subst e
  obtain ⟨ip, h1, h2⟩ := wf.up h.root (info_p _ _)
  rw [h.root] at h1
  obtain rfl := Option.some.inj h1
  rw [info_k] at h2
  obtain ⟨k, hk, hkid⟩ := List.mem_map.1 h2
  exact h.proper hk (RT.id_mem k) hkid
theorem Is.parent_eq {D : Tab} {p q : Option Nat} {r y : RT} (h : Is D p r) (h' : Is D q y) (e : r.id = y.id) : p = q := by
  have h1 := h.root
  have h2 := h'.root
  rw [e, h2] at h1
  have := congrArg Info.parent (Option.some.inj h1)
  rw [info_p, info_p] at this
  exact this.symm
/-- What a change of a tree leaves. -/
def Left (w w' : World) (D : Tab) (r' : RT) (e : Ending) : Prop := e = .returned (.tuple #[]) ∧ ∃ D', Dom w' D' ∧ Is D' none r' ∧ Only D w w' ∧ (∀ k, D k = none ↔ D' k = none)
/-- Which blocks a change leaves in the table: the same. -/
theorem relink_same {D : Tab} {n c : Nat} {i ic : Info} {K : List Nat} {pc : Option Nat} (hn : D n ≠ none) (hc : D c ≠ none) (k : Nat) : relink D n c i ic K pc k = none ↔ D k = none := by
  unfold relink put
  by_cases h1 : k = c
  · subst h1; simp [hc]
  · by_cases h2 : k = n
    · subst h2; simp [h1, hn]
    · simp [h1, h2]
theorem Only.trans' {D D' : Tab} {w w' w'' : World} (h : Only D w w') (h' : Only D' w' w'') (hD : ∀ k, D k = none ↔ D' k = none) : Only D w w'' := h.trans h' (fun k hk _ => (hD k).1 hk)
theorem Dom.up_cell {w : World} {D : Tab} (h : Dom w D) {b u : Nat} {i : Info} (hb : D b = some i) (hp : i.parent = some u) : w.cell? ⟨b, 0, none⟩ = some (.pointer (some ⟨u, 0, none⟩)) := by
  obtain ⟨v, hv, _⟩ := h.has hb
  rw [hv.cells10.1]
  show some (ptr i.parent) = _
  rw [hp]
  rfl
end Go.Proofs.Ytibfoaahdbdogaa.Dom

/- impl.guarded, over a function that returns: false, and what that function left. -/
namespace Go.Proofs.Ytibfoaahdbdogaa.Guard
open Go.RowKit Go.Proofs.YtibfoaahdbdogaaW.PrintWords Go.Proofs.YtibfoaahdbdogaaW.PrintLast Go.Proofs.YtibfoaahdbdogaaW.PrintMore
set_option linter.unusedVariables false
set_option linter.unusedSimpArgs false

theorem catch_idle (p : Addr) (w : World) :
    CallsD Try.prog 86 #[.pointer (some p)] .returning w fun e u' w' => e = .returned (.tuple #[]) ∧ u' = .returning ∧ w' = w := by
  refine callsD_of_wpS Try.func86 rfl fun c₀ cs hu => ?_
  apply wpS_seq
  apply wpS_region
  simp [wpOpsS, go_sem, recoverD, hu, Try.ntmps86, Exit.thenS]
  refine wpS_cond (t := false) (by simp [Act.eval, Array.replicate]) ?_
  simp only [Bool.false_eq_true, if_false]
  refine wpS_of_wp (wp_skip ?_)
  cases c₀
  simp_all [bodyPostS, results, Try.results86]
theorem guarded_calls (F : Nat) (cap : Array Value) (w : World) (Q : World → Prop) (hF : ∀ (args : Array Value) (w : World), (callFunc F args).run Try.prog w = .ok (.enter F args) w)
    (HC : Calls Try.prog F cap (w.alloc (.cells #[.bool false] 4)) fun e w' => e = .returned (.tuple #[]) ∧ w'.heap[w.heap.size]? = some (.cells #[.bool false] 4 (0, 0)) ∧ Q w') :
    Calls Try.prog 78 #[.func (.func F) #[] cap] w fun e w' => e = .returned (.bool false) ∧ ∃ w2, Q w2 ∧ w2.heap[w.heap.size]? = some (.cells #[.bool false] 4 (0, 0)) ∧ w' = w2.setCell ⟨w.heap.size, 0, none⟩ (.bool false) := by
  have hmf : ∀ (fn : Fn) (first cap : Array Value) (w : World), (Instr.makeFunc fn first cap).run Try.prog w = .ok (.func fn first cap) w := fun _ _ _ _ => rfl
  have HC0 := Aside0.mk HC
  clear HC
  go_enter_defers Try.func78, Try.ntmps78
  go_wp2_with fail
  refine HC0.out.mono ?_
  rintro e w2 ⟨rfl, hb, hq⟩
  have c2 := blk_cell hb 0
  have f2 := blk_frozen hb 0
  have HB := Aside0.mk hb
  have HQ := Aside0.mk hq
  clear hb hq
  go_wp2_with fail
  refine leaves_cons (f := 86) (args := #[.pointer (some ⟨w.heap.size, 0, none⟩)]) (by simp) (by simp [go_sem]) ?_
  refine (catch_idle ⟨w.heap.size, 0, none⟩ _).mono ?_
  rintro e u' w'' ⟨rfl, rfl, rfl⟩
  have c3 : (w2.setCell ⟨w.heap.size, 0, none⟩ (.bool false)).cell? ⟨w.heap.size, 0, none⟩ = some (.bool false) := by rw [blk_cell (blk_set HB.out 0 (.bool false))]; rfl
  simp [Leaves, settle, results, Try.results78, go_sem, c3]
  exact ⟨w2, HQ.out, HB.out, rfl⟩
end Go.Proofs.Ytibfoaahdbdogaa.Guard
