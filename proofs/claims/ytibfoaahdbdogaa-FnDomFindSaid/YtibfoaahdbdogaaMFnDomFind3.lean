/- A part of the proof of FnDomFind: EDomx4, DomT, MadeS, MadeK, MadeX, NodeX, RTree, PathX, AllX, SibX, NbrX, NextP, AtX, NodupT, PtrEq, FindX, FindY, FindC, NameX, DomTot, NormT, AllN, SibN, SibM, one behind the other. -/
import Derived.Test.YtibfoaahdbdogaaMFnDomFind2
import Derived.Deep.DeepAppendWide
import Derived.Deep.RegionWith
import Derived.Deep.RegionLaw
import Derived.BigRegion
import Derived.Deep.DeepCutAuto
import Derived.StillTailTactics
import Derived.Deep.DeepMust
import Derived.Deep.LoopGhost
import Derived.Laws.EntriesVeiled
import Derived.LaidEqlPtr
/- Printed by the program extprint.py of this session, out of the kit's print and contracts of this session's own; Lean checks it. -/
namespace Go.Proofs.Ytibfoaahdbdogaa.PDom
open Go.RowKit Go.Proofs.YtibfoaahdbdogaaW.PrintWords Go.Proofs.YtibfoaahdbdogaaW.PrintLast Go.Proofs.YtibfoaahdbdogaaW.PrintMore
attribute [local go_sem] max2_int min2_int max_two min_two max_three min_three max_four min_four   -- for this text's walks alone
set_option linter.unusedVariables false
set_option linter.unusedSimpArgs false


/-! ### laws_tree29: function 10 -/
def laws_tree29.f (k : Nat) (a0_0 : Int) (a0_1 : ByteArray) (a0_2 : ByteArray) (l0_3 : List (S78)) (l0_4 : List (S25)) : Option (Bool) := if a0_0 = 0 then ((laws_size29.f k a0_0 a0_1 a0_2 l0_3 l0_4 0).bind fun t125 => (if t125 ≤ 300 then ((laws_right29.f k a0_0 a0_1 a0_2 l0_3 l0_4 true).bind fun t126 => (some t126)) else (some false))) else (if a0_0 = 3 then ((laws_size29.f k a0_0 a0_1 a0_2 l0_3 l0_4 0).bind fun t127 => (if t127 ≤ 300 then ((laws_right29.f k a0_0 a0_1 a0_2 l0_3 l0_4 true).bind fun t128 => (some t128)) else (some false))) else (some false))
theorem laws_tree29.mono : ∀ a0 a1 a2 a3 a4 k, LeO (laws_tree29.f k a0 a1 a2 a3 a4) (laws_tree29.f (k + 1) a0 a1 a2 a3 a4) := by
  intro a0 a1 a2 a3 a4 k
  unfold laws_tree29.f
  repeat' first
      | (with_reducible exact laws_right29.mono _ _ _ _ _ _ _)
      | (with_reducible exact laws_size29.mono _ _ _ _ _ _ _)
      | (with_reducible exact LeO.refl _)
      | (with_reducible exact LeO.none _)
      | (with_reducible refine LeO.ite ?_ ?_)
      | (with_reducible refine LeO.bind ?_ (fun _ => ?_))
      | exact laws_right29.mono _ _ _ _ _ _ _
      | exact laws_size29.mono _ _ _ _ _ _ _
      | exact LeO.none _
      | refine LeO.ite ?_ ?_
      | refine LeO.bind ?_ (fun _ => ?_)
set_option maxHeartbeats 8000000 in
set_option maxRecDepth 100000 in
theorem laws_tree29.calls (k : Nat) (a0_0 : Int) (a0_1 : ByteArray) (a0_2 : ByteArray) (A0_3 : Option Addr) (c0_3 : Nat) (l0_3 : List (S78)) (A0_4 : Option Addr) (c0_4 : Nat) (l0_4 : List (S25)) (r : Bool) (w : World) (hr0_3 : Kd.C k78 w A0_3 l0_3.length l0_3) (hc0_3 : l0_3.length ≤ c0_3) (hr0_4 : Kd.C k25 w A0_4 l0_4.length l0_4) (hc0_4 : l0_4.length ≤ c0_4) (h : laws_tree29.f k a0_0 a0_1 a0_2 l0_3 l0_4 = some r) :
    Calls Try.prog 10 #[.agg #[.int .i64 a0_0, .string a0_1, .string a0_2, .slice A0_3 l0_3.length c0_3, .slice A0_4 l0_4.length c0_4]] w fun e w' => e = .returned (.bool r) ∧ Below w.heap.size w w' := by
  have hu25 := Try.underlying25
  have HR0_3 := Aside0.mk hr0_3
  have HC0_3 := Aside0.mk hc0_3
  clear hr0_3 hc0_3
  have HR0_4 := Aside0.mk hr0_4
  have HC0_4 := Aside0.mk hc0_4
  clear hr0_4 hc0_4
  have HB := Aside0.mk (Below.refl w.heap.size w)
  have H : (if a0_0 = 0 then ((laws_size29.f k a0_0 a0_1 a0_2 l0_3 l0_4 0).bind fun t125 => (if t125 ≤ 300 then ((laws_right29.f k a0_0 a0_1 a0_2 l0_3 l0_4 true).bind fun t126 => (some t126)) else (some false))) else (if a0_0 = 3 then ((laws_size29.f k a0_0 a0_1 a0_2 l0_3 l0_4 0).bind fun t127 => (if t127 ≤ 300 then ((laws_right29.f k a0_0 a0_1 a0_2 l0_3 l0_4 true).bind fun t128 => (some t128)) else (some false))) else (some false))) = some r := h
  clear h
  by_cases c2 : a0_0 = 0
  · rw [if_pos c2] at H
    have c2b0 : (a0_0 == 0) = true := beq_iff_eq.mpr c2
    have c2b1 : (a0_0 != 0) = false := bne_eq_false_iff_eq.mpr c2
    clear c2
    replace H := Option.bind_eq_some_iff.mp H
    obtain ⟨t125, A30, H⟩ := H
    replace H : (if t125 ≤ 300 then ((laws_right29.f k a0_0 a0_1 a0_2 l0_3 l0_4 true).bind fun t126 => (some t126)) else (some false)) = some r := H
    have A3 := Aside0.mk A30
    clear A30
    by_cases c4 : t125 ≤ 300
    · rw [if_pos c4] at H
      have c4b0 : decide (t125 ≤ 300) = true := decide_eq_true c4
      clear c4
      replace H := Option.bind_eq_some_iff.mp H
      obtain ⟨t126, A50, H⟩ := H
      replace H : (some t126) = some r := H
      have A5 := Aside0.mk A50
      clear A50
      obtain rfl := Option.some.inj H
      go_enter Try.func10, Try.ntmps10
      go_wp2_with (first | ((with_reducible refine gate_dst (N := 1) rfl ?_); refine box_event ?hg (N := 1) ?hd (cs := #[.int .i64 a0_0, .string a0_1, .string a0_2, .slice A0_3 l0_3.length c0_3, .slice A0_4 l0_4.length c0_4]) (t := 25) ?hr ?_; (case hd => rfl); (case hg => rfl); (case hr => first | (go_simp; done) | (go_simp; rfl)); intro gb124 hg w6 hbox hb; have n0_ := Aside0.mk (below_step (by repeat (first | (with_reducible first | exact HB.out | apply below_alloc | apply pw_below_drewN | apply below_drew1) | exact HB.out)) hb); have n1_ := Aside0.mk (hbox); have n2_ := Aside0.mk ((by rw [hg]; exact (below_size (by repeat (first | (with_reducible first | exact HB.out | apply below_alloc | apply pw_below_drewN | apply below_drew1) | exact HB.out))) : w.heap.size ≤ gb124)); have n3_ := Aside0.mk ((by rw [hg]; exact (below_size (by repeat (first | (with_reducible first | exact HB.out | apply below_alloc | apply pw_below_drewN | apply below_drew1) | exact HB.out))) : w.heap.size ≤ gb124)); clear HB; have HB := n0_; have BK124 := n1_; have GW124 := n2_; have GE124 := n3_; clear n0_ n1_ n2_ n3_; clear hb hbox hg; have hcz7_0 : w6.cell? ⟨gb124, 0, none⟩ = some (.int .i64 a0_0) := (blk_cell BK124.out 0).trans rfl; have hcz7_1 : w6.cell? ⟨gb124, 1, none⟩ = some (.string a0_1) := (blk_cell BK124.out 1).trans rfl; have hcz7_2 : w6.cell? ⟨gb124, 2, none⟩ = some (.string a0_2) := (blk_cell BK124.out 2).trans rfl; have hcz7_3 : w6.cell? ⟨gb124, 3, none⟩ = some (.slice A0_3 l0_3.length c0_3) := (blk_cell BK124.out 3).trans rfl; have hcz7_4 : w6.cell? ⟨gb124, 4, none⟩ = some (.slice A0_4 l0_4.length c0_4) := (blk_cell BK124.out 4).trans rfl; have hfz7_0 := blk_frozen BK124.out 0; have hfz7_1 := blk_frozen BK124.out 1; have hfz7_2 := blk_frozen BK124.out 2; have hfz7_3 := blk_frozen BK124.out 3; have hfz7_4 := blk_frozen BK124.out 4) | (go_at_call 34; (with_reducible refine (laws_size29.calls k a0_0 a0_1 a0_2 _ _ l0_3 _ _ l0_4 0 t125 _ ?side1 ?side2 ?side3 ?side4 A3.out).mono ?_); (case side1 => repeat (first | exact (Kd.C_below HR0_3.out HB.out) | (with_reducible refine Kd.C_alloc ?_ _) | (with_reducible refine Kd.C_drewN ?_ _) | (with_reducible refine Kd.C_drew ?_))); (case side2 => exact HC0_3.out); (case side3 => repeat (first | exact (Kd.C_below HR0_4.out HB.out) | (with_reducible refine Kd.C_alloc ?_ _) | (with_reducible refine Kd.C_drewN ?_ _) | (with_reducible refine Kd.C_drew ?_))); (case side4 => exact HC0_4.out); rintro e w8 ⟨rfl, hb⟩; have n0_ := Aside0.mk (blk_below (g := gb124) (o := .cells #[.int .i64 a0_0, .string a0_1, .string a0_2, .slice A0_3 l0_3.length c0_3, .slice A0_4 l0_4.length c0_4] 25 (0, 0)) (by (with_reducible repeat (first | refine blk_drewN ?_ _ | refine blk_drew ?_ | refine blk_alloc ?_ _)); exact BK124.out) hb); have n1_ := Aside0.mk (below_step (by repeat (first | (with_reducible first | exact HB.out | apply below_alloc | apply pw_below_drewN | apply below_drew1 | refine below_set ?_ GE124.out) | exact HB.out)) hb); clear BK124; clear HB; have BK124 := n0_; have HB := n1_; clear n0_ n1_; (try clear hb); (try clear hb2); (try clear hk); (try clear hi); have hcz9_0 : w8.cell? ⟨gb124, 0, none⟩ = some (.int .i64 a0_0) := (blk_cell BK124.out 0).trans rfl; have hcz9_1 : w8.cell? ⟨gb124, 1, none⟩ = some (.string a0_1) := (blk_cell BK124.out 1).trans rfl; have hcz9_2 : w8.cell? ⟨gb124, 2, none⟩ = some (.string a0_2) := (blk_cell BK124.out 2).trans rfl; have hcz9_3 : w8.cell? ⟨gb124, 3, none⟩ = some (.slice A0_3 l0_3.length c0_3) := (blk_cell BK124.out 3).trans rfl; have hcz9_4 : w8.cell? ⟨gb124, 4, none⟩ = some (.slice A0_4 l0_4.length c0_4) := (blk_cell BK124.out 4).trans rfl; have hfz9_0 := blk_frozen BK124.out 0; have hfz9_1 := blk_frozen BK124.out 1; have hfz9_2 := blk_frozen BK124.out 2; have hfz9_3 := blk_frozen BK124.out 3; have hfz9_4 := blk_frozen BK124.out 4) | (go_at_call 35; (with_reducible refine (laws_right29.calls k a0_0 a0_1 a0_2 _ _ l0_3 _ _ l0_4 true t126 _ ?side1 ?side2 ?side3 ?side4 A5.out).mono ?_); (case side1 => repeat (first | exact (Kd.C_below HR0_3.out HB.out) | (with_reducible refine Kd.C_alloc ?_ _) | (with_reducible refine Kd.C_drewN ?_ _) | (with_reducible refine Kd.C_drew ?_))); (case side2 => exact HC0_3.out); (case side3 => repeat (first | exact (Kd.C_below HR0_4.out HB.out) | (with_reducible refine Kd.C_alloc ?_ _) | (with_reducible refine Kd.C_drewN ?_ _) | (with_reducible refine Kd.C_drew ?_))); (case side4 => exact HC0_4.out); rintro e w10 ⟨rfl, hb⟩; have n0_ := Aside0.mk (blk_below (g := gb124) (o := .cells #[.int .i64 a0_0, .string a0_1, .string a0_2, .slice A0_3 l0_3.length c0_3, .slice A0_4 l0_4.length c0_4] 25 (0, 0)) (by (with_reducible repeat (first | refine blk_drewN ?_ _ | refine blk_drew ?_ | refine blk_alloc ?_ _)); exact BK124.out) hb); have n1_ := Aside0.mk (below_step (by repeat (first | (with_reducible first | exact HB.out | apply below_alloc | apply pw_below_drewN | apply below_drew1 | refine below_set ?_ GE124.out) | exact HB.out)) hb); clear BK124; clear HB; have BK124 := n0_; have HB := n1_; clear n0_ n1_; (try clear hb); (try clear hb2); (try clear hk); (try clear hi)))
      go_ret
      exact ⟨by first | rfl | (simp [errW_none, errW_some] <;> rfl) | (simp [*, errW_none, errW_some] <;> rfl), by repeat (first | (with_reducible first | exact HB.out | apply below_alloc | apply pw_below_drewN | apply below_drew1 | refine below_set ?_ GE124.out) | exact HB.out)⟩
    · rw [if_neg c4] at H
      have c4b0 : decide (t125 ≤ 300) = false := decide_eq_false c4
      clear c4
      obtain rfl := Option.some.inj H
      go_enter Try.func10, Try.ntmps10
      go_wp2_with (first | ((with_reducible refine gate_dst (N := 1) rfl ?_); refine box_event ?hg (N := 1) ?hd (cs := #[.int .i64 a0_0, .string a0_1, .string a0_2, .slice A0_3 l0_3.length c0_3, .slice A0_4 l0_4.length c0_4]) (t := 25) ?hr ?_; (case hd => rfl); (case hg => rfl); (case hr => first | (go_simp; done) | (go_simp; rfl)); intro gb124 hg w11 hbox hb; have n0_ := Aside0.mk (below_step (by repeat (first | (with_reducible first | exact HB.out | apply below_alloc | apply pw_below_drewN | apply below_drew1) | exact HB.out)) hb); have n1_ := Aside0.mk (hbox); have n2_ := Aside0.mk ((by rw [hg]; exact (below_size (by repeat (first | (with_reducible first | exact HB.out | apply below_alloc | apply pw_below_drewN | apply below_drew1) | exact HB.out))) : w.heap.size ≤ gb124)); have n3_ := Aside0.mk ((by rw [hg]; exact (below_size (by repeat (first | (with_reducible first | exact HB.out | apply below_alloc | apply pw_below_drewN | apply below_drew1) | exact HB.out))) : w.heap.size ≤ gb124)); clear HB; have HB := n0_; have BK124 := n1_; have GW124 := n2_; have GE124 := n3_; clear n0_ n1_ n2_ n3_; clear hb hbox hg; have hcz12_0 : w11.cell? ⟨gb124, 0, none⟩ = some (.int .i64 a0_0) := (blk_cell BK124.out 0).trans rfl; have hcz12_1 : w11.cell? ⟨gb124, 1, none⟩ = some (.string a0_1) := (blk_cell BK124.out 1).trans rfl; have hcz12_2 : w11.cell? ⟨gb124, 2, none⟩ = some (.string a0_2) := (blk_cell BK124.out 2).trans rfl; have hcz12_3 : w11.cell? ⟨gb124, 3, none⟩ = some (.slice A0_3 l0_3.length c0_3) := (blk_cell BK124.out 3).trans rfl; have hcz12_4 : w11.cell? ⟨gb124, 4, none⟩ = some (.slice A0_4 l0_4.length c0_4) := (blk_cell BK124.out 4).trans rfl; have hfz12_0 := blk_frozen BK124.out 0; have hfz12_1 := blk_frozen BK124.out 1; have hfz12_2 := blk_frozen BK124.out 2; have hfz12_3 := blk_frozen BK124.out 3; have hfz12_4 := blk_frozen BK124.out 4) | (go_at_call 34; (with_reducible refine (laws_size29.calls k a0_0 a0_1 a0_2 _ _ l0_3 _ _ l0_4 0 t125 _ ?side1 ?side2 ?side3 ?side4 A3.out).mono ?_); (case side1 => repeat (first | exact (Kd.C_below HR0_3.out HB.out) | (with_reducible refine Kd.C_alloc ?_ _) | (with_reducible refine Kd.C_drewN ?_ _) | (with_reducible refine Kd.C_drew ?_))); (case side2 => exact HC0_3.out); (case side3 => repeat (first | exact (Kd.C_below HR0_4.out HB.out) | (with_reducible refine Kd.C_alloc ?_ _) | (with_reducible refine Kd.C_drewN ?_ _) | (with_reducible refine Kd.C_drew ?_))); (case side4 => exact HC0_4.out); rintro e w13 ⟨rfl, hb⟩; have n0_ := Aside0.mk (blk_below (g := gb124) (o := .cells #[.int .i64 a0_0, .string a0_1, .string a0_2, .slice A0_3 l0_3.length c0_3, .slice A0_4 l0_4.length c0_4] 25 (0, 0)) (by (with_reducible repeat (first | refine blk_drewN ?_ _ | refine blk_drew ?_ | refine blk_alloc ?_ _)); exact BK124.out) hb); have n1_ := Aside0.mk (below_step (by repeat (first | (with_reducible first | exact HB.out | apply below_alloc | apply pw_below_drewN | apply below_drew1 | refine below_set ?_ GE124.out) | exact HB.out)) hb); clear BK124; clear HB; have BK124 := n0_; have HB := n1_; clear n0_ n1_; (try clear hb); (try clear hb2); (try clear hk); (try clear hi)))
      go_ret
      exact ⟨by first | rfl | (simp [errW_none, errW_some] <;> rfl) | (simp [*, errW_none, errW_some] <;> rfl), by repeat (first | (with_reducible first | exact HB.out | apply below_alloc | apply pw_below_drewN | apply below_drew1 | refine below_set ?_ GE124.out) | exact HB.out)⟩
  · rw [if_neg c2] at H
    have c2b0 : (a0_0 == 0) = false := beq_eq_false_iff_ne.mpr c2
    have c2b1 : (a0_0 != 0) = true := bne_iff_ne.mpr c2
    by_cases c14 : a0_0 = 3
    · rw [if_pos c14] at H
      have c14b0 : (a0_0 == 3) = true := beq_iff_eq.mpr c14
      have c14b1 : (a0_0 != 3) = false := bne_eq_false_iff_eq.mpr c14
      clear c14
      replace H := Option.bind_eq_some_iff.mp H
      obtain ⟨t127, A150, H⟩ := H
      replace H : (if t127 ≤ 300 then ((laws_right29.f k a0_0 a0_1 a0_2 l0_3 l0_4 true).bind fun t128 => (some t128)) else (some false)) = some r := H
      have A15 := Aside0.mk A150
      clear A150
      by_cases c16 : t127 ≤ 300
      · rw [if_pos c16] at H
        have c16b0 : decide (t127 ≤ 300) = true := decide_eq_true c16
        clear c16
        replace H := Option.bind_eq_some_iff.mp H
        obtain ⟨t128, A170, H⟩ := H
        replace H : (some t128) = some r := H
        have A17 := Aside0.mk A170
        clear A170
        obtain rfl := Option.some.inj H
        go_enter Try.func10, Try.ntmps10
        go_wp2_with (first | ((with_reducible refine gate_dst (N := 1) rfl ?_); refine box_event ?hg (N := 1) ?hd (cs := #[.int .i64 a0_0, .string a0_1, .string a0_2, .slice A0_3 l0_3.length c0_3, .slice A0_4 l0_4.length c0_4]) (t := 25) ?hr ?_; (case hd => rfl); (case hg => rfl); (case hr => first | (go_simp; done) | (go_simp; rfl)); intro gb124 hg w18 hbox hb; have n0_ := Aside0.mk (below_step (by repeat (first | (with_reducible first | exact HB.out | apply below_alloc | apply pw_below_drewN | apply below_drew1) | exact HB.out)) hb); have n1_ := Aside0.mk (hbox); have n2_ := Aside0.mk ((by rw [hg]; exact (below_size (by repeat (first | (with_reducible first | exact HB.out | apply below_alloc | apply pw_below_drewN | apply below_drew1) | exact HB.out))) : w.heap.size ≤ gb124)); have n3_ := Aside0.mk ((by rw [hg]; exact (below_size (by repeat (first | (with_reducible first | exact HB.out | apply below_alloc | apply pw_below_drewN | apply below_drew1) | exact HB.out))) : w.heap.size ≤ gb124)); clear HB; have HB := n0_; have BK124 := n1_; have GW124 := n2_; have GE124 := n3_; clear n0_ n1_ n2_ n3_; clear hb hbox hg; have hcz19_0 : w18.cell? ⟨gb124, 0, none⟩ = some (.int .i64 a0_0) := (blk_cell BK124.out 0).trans rfl; have hcz19_1 : w18.cell? ⟨gb124, 1, none⟩ = some (.string a0_1) := (blk_cell BK124.out 1).trans rfl; have hcz19_2 : w18.cell? ⟨gb124, 2, none⟩ = some (.string a0_2) := (blk_cell BK124.out 2).trans rfl; have hcz19_3 : w18.cell? ⟨gb124, 3, none⟩ = some (.slice A0_3 l0_3.length c0_3) := (blk_cell BK124.out 3).trans rfl; have hcz19_4 : w18.cell? ⟨gb124, 4, none⟩ = some (.slice A0_4 l0_4.length c0_4) := (blk_cell BK124.out 4).trans rfl; have hfz19_0 := blk_frozen BK124.out 0; have hfz19_1 := blk_frozen BK124.out 1; have hfz19_2 := blk_frozen BK124.out 2; have hfz19_3 := blk_frozen BK124.out 3; have hfz19_4 := blk_frozen BK124.out 4) | (go_at_call 34; (with_reducible refine (laws_size29.calls k a0_0 a0_1 a0_2 _ _ l0_3 _ _ l0_4 0 t127 _ ?side1 ?side2 ?side3 ?side4 A15.out).mono ?_); (case side1 => repeat (first | exact (Kd.C_below HR0_3.out HB.out) | (with_reducible refine Kd.C_alloc ?_ _) | (with_reducible refine Kd.C_drewN ?_ _) | (with_reducible refine Kd.C_drew ?_))); (case side2 => exact HC0_3.out); (case side3 => repeat (first | exact (Kd.C_below HR0_4.out HB.out) | (with_reducible refine Kd.C_alloc ?_ _) | (with_reducible refine Kd.C_drewN ?_ _) | (with_reducible refine Kd.C_drew ?_))); (case side4 => exact HC0_4.out); rintro e w20 ⟨rfl, hb⟩; have n0_ := Aside0.mk (blk_below (g := gb124) (o := .cells #[.int .i64 a0_0, .string a0_1, .string a0_2, .slice A0_3 l0_3.length c0_3, .slice A0_4 l0_4.length c0_4] 25 (0, 0)) (by (with_reducible repeat (first | refine blk_drewN ?_ _ | refine blk_drew ?_ | refine blk_alloc ?_ _)); exact BK124.out) hb); have n1_ := Aside0.mk (below_step (by repeat (first | (with_reducible first | exact HB.out | apply below_alloc | apply pw_below_drewN | apply below_drew1 | refine below_set ?_ GE124.out) | exact HB.out)) hb); clear BK124; clear HB; have BK124 := n0_; have HB := n1_; clear n0_ n1_; (try clear hb); (try clear hb2); (try clear hk); (try clear hi); have hcz21_0 : w20.cell? ⟨gb124, 0, none⟩ = some (.int .i64 a0_0) := (blk_cell BK124.out 0).trans rfl; have hcz21_1 : w20.cell? ⟨gb124, 1, none⟩ = some (.string a0_1) := (blk_cell BK124.out 1).trans rfl; have hcz21_2 : w20.cell? ⟨gb124, 2, none⟩ = some (.string a0_2) := (blk_cell BK124.out 2).trans rfl; have hcz21_3 : w20.cell? ⟨gb124, 3, none⟩ = some (.slice A0_3 l0_3.length c0_3) := (blk_cell BK124.out 3).trans rfl; have hcz21_4 : w20.cell? ⟨gb124, 4, none⟩ = some (.slice A0_4 l0_4.length c0_4) := (blk_cell BK124.out 4).trans rfl; have hfz21_0 := blk_frozen BK124.out 0; have hfz21_1 := blk_frozen BK124.out 1; have hfz21_2 := blk_frozen BK124.out 2; have hfz21_3 := blk_frozen BK124.out 3; have hfz21_4 := blk_frozen BK124.out 4) | (go_at_call 35; (with_reducible refine (laws_right29.calls k a0_0 a0_1 a0_2 _ _ l0_3 _ _ l0_4 true t128 _ ?side1 ?side2 ?side3 ?side4 A17.out).mono ?_); (case side1 => repeat (first | exact (Kd.C_below HR0_3.out HB.out) | (with_reducible refine Kd.C_alloc ?_ _) | (with_reducible refine Kd.C_drewN ?_ _) | (with_reducible refine Kd.C_drew ?_))); (case side2 => exact HC0_3.out); (case side3 => repeat (first | exact (Kd.C_below HR0_4.out HB.out) | (with_reducible refine Kd.C_alloc ?_ _) | (with_reducible refine Kd.C_drewN ?_ _) | (with_reducible refine Kd.C_drew ?_))); (case side4 => exact HC0_4.out); rintro e w22 ⟨rfl, hb⟩; have n0_ := Aside0.mk (blk_below (g := gb124) (o := .cells #[.int .i64 a0_0, .string a0_1, .string a0_2, .slice A0_3 l0_3.length c0_3, .slice A0_4 l0_4.length c0_4] 25 (0, 0)) (by (with_reducible repeat (first | refine blk_drewN ?_ _ | refine blk_drew ?_ | refine blk_alloc ?_ _)); exact BK124.out) hb); have n1_ := Aside0.mk (below_step (by repeat (first | (with_reducible first | exact HB.out | apply below_alloc | apply pw_below_drewN | apply below_drew1 | refine below_set ?_ GE124.out) | exact HB.out)) hb); clear BK124; clear HB; have BK124 := n0_; have HB := n1_; clear n0_ n1_; (try clear hb); (try clear hb2); (try clear hk); (try clear hi)))
        go_ret
        exact ⟨by first | rfl | (simp [errW_none, errW_some] <;> rfl) | (simp [*, errW_none, errW_some] <;> rfl), by repeat (first | (with_reducible first | exact HB.out | apply below_alloc | apply pw_below_drewN | apply below_drew1 | refine below_set ?_ GE124.out) | exact HB.out)⟩
      · rw [if_neg c16] at H
        have c16b0 : decide (t127 ≤ 300) = false := decide_eq_false c16
        clear c16
        obtain rfl := Option.some.inj H
        go_enter Try.func10, Try.ntmps10
        go_wp2_with (first | ((with_reducible refine gate_dst (N := 1) rfl ?_); refine box_event ?hg (N := 1) ?hd (cs := #[.int .i64 a0_0, .string a0_1, .string a0_2, .slice A0_3 l0_3.length c0_3, .slice A0_4 l0_4.length c0_4]) (t := 25) ?hr ?_; (case hd => rfl); (case hg => rfl); (case hr => first | (go_simp; done) | (go_simp; rfl)); intro gb124 hg w23 hbox hb; have n0_ := Aside0.mk (below_step (by repeat (first | (with_reducible first | exact HB.out | apply below_alloc | apply pw_below_drewN | apply below_drew1) | exact HB.out)) hb); have n1_ := Aside0.mk (hbox); have n2_ := Aside0.mk ((by rw [hg]; exact (below_size (by repeat (first | (with_reducible first | exact HB.out | apply below_alloc | apply pw_below_drewN | apply below_drew1) | exact HB.out))) : w.heap.size ≤ gb124)); have n3_ := Aside0.mk ((by rw [hg]; exact (below_size (by repeat (first | (with_reducible first | exact HB.out | apply below_alloc | apply pw_below_drewN | apply below_drew1) | exact HB.out))) : w.heap.size ≤ gb124)); clear HB; have HB := n0_; have BK124 := n1_; have GW124 := n2_; have GE124 := n3_; clear n0_ n1_ n2_ n3_; clear hb hbox hg; have hcz24_0 : w23.cell? ⟨gb124, 0, none⟩ = some (.int .i64 a0_0) := (blk_cell BK124.out 0).trans rfl; have hcz24_1 : w23.cell? ⟨gb124, 1, none⟩ = some (.string a0_1) := (blk_cell BK124.out 1).trans rfl; have hcz24_2 : w23.cell? ⟨gb124, 2, none⟩ = some (.string a0_2) := (blk_cell BK124.out 2).trans rfl; have hcz24_3 : w23.cell? ⟨gb124, 3, none⟩ = some (.slice A0_3 l0_3.length c0_3) := (blk_cell BK124.out 3).trans rfl; have hcz24_4 : w23.cell? ⟨gb124, 4, none⟩ = some (.slice A0_4 l0_4.length c0_4) := (blk_cell BK124.out 4).trans rfl; have hfz24_0 := blk_frozen BK124.out 0; have hfz24_1 := blk_frozen BK124.out 1; have hfz24_2 := blk_frozen BK124.out 2; have hfz24_3 := blk_frozen BK124.out 3; have hfz24_4 := blk_frozen BK124.out 4) | (go_at_call 34; (with_reducible refine (laws_size29.calls k a0_0 a0_1 a0_2 _ _ l0_3 _ _ l0_4 0 t127 _ ?side1 ?side2 ?side3 ?side4 A15.out).mono ?_); (case side1 => repeat (first | exact (Kd.C_below HR0_3.out HB.out) | (with_reducible refine Kd.C_alloc ?_ _) | (with_reducible refine Kd.C_drewN ?_ _) | (with_reducible refine Kd.C_drew ?_))); (case side2 => exact HC0_3.out); (case side3 => repeat (first | exact (Kd.C_below HR0_4.out HB.out) | (with_reducible refine Kd.C_alloc ?_ _) | (with_reducible refine Kd.C_drewN ?_ _) | (with_reducible refine Kd.C_drew ?_))); (case side4 => exact HC0_4.out); rintro e w25 ⟨rfl, hb⟩; have n0_ := Aside0.mk (blk_below (g := gb124) (o := .cells #[.int .i64 a0_0, .string a0_1, .string a0_2, .slice A0_3 l0_3.length c0_3, .slice A0_4 l0_4.length c0_4] 25 (0, 0)) (by (with_reducible repeat (first | refine blk_drewN ?_ _ | refine blk_drew ?_ | refine blk_alloc ?_ _)); exact BK124.out) hb); have n1_ := Aside0.mk (below_step (by repeat (first | (with_reducible first | exact HB.out | apply below_alloc | apply pw_below_drewN | apply below_drew1 | refine below_set ?_ GE124.out) | exact HB.out)) hb); clear BK124; clear HB; have BK124 := n0_; have HB := n1_; clear n0_ n1_; (try clear hb); (try clear hb2); (try clear hk); (try clear hi)))
        go_ret
        exact ⟨by first | rfl | (simp [errW_none, errW_some] <;> rfl) | (simp [*, errW_none, errW_some] <;> rfl), by repeat (first | (with_reducible first | exact HB.out | apply below_alloc | apply pw_below_drewN | apply below_drew1 | refine below_set ?_ GE124.out) | exact HB.out)⟩
    · rw [if_neg c14] at H
      have c14b0 : (a0_0 == 3) = false := beq_eq_false_iff_ne.mpr c14
      have c14b1 : (a0_0 != 3) = true := bne_iff_ne.mpr c14
      obtain rfl := Option.some.inj H
      go_enter Try.func10, Try.ntmps10
      go_wp2_with (first | ((with_reducible refine gate_dst (N := 1) rfl ?_); refine box_event ?hg (N := 1) ?hd (cs := #[.int .i64 a0_0, .string a0_1, .string a0_2, .slice A0_3 l0_3.length c0_3, .slice A0_4 l0_4.length c0_4]) (t := 25) ?hr ?_; (case hd => rfl); (case hg => rfl); (case hr => first | (go_simp; done) | (go_simp; rfl)); intro gb124 hg w26 hbox hb; have n0_ := Aside0.mk (below_step (by repeat (first | (with_reducible first | exact HB.out | apply below_alloc | apply pw_below_drewN | apply below_drew1) | exact HB.out)) hb); have n1_ := Aside0.mk (hbox); have n2_ := Aside0.mk ((by rw [hg]; exact (below_size (by repeat (first | (with_reducible first | exact HB.out | apply below_alloc | apply pw_below_drewN | apply below_drew1) | exact HB.out))) : w.heap.size ≤ gb124)); have n3_ := Aside0.mk ((by rw [hg]; exact (below_size (by repeat (first | (with_reducible first | exact HB.out | apply below_alloc | apply pw_below_drewN | apply below_drew1) | exact HB.out))) : w.heap.size ≤ gb124)); clear HB; have HB := n0_; have BK124 := n1_; have GW124 := n2_; have GE124 := n3_; clear n0_ n1_ n2_ n3_; clear hb hbox hg; have hcz27_0 : w26.cell? ⟨gb124, 0, none⟩ = some (.int .i64 a0_0) := (blk_cell BK124.out 0).trans rfl; have hcz27_1 : w26.cell? ⟨gb124, 1, none⟩ = some (.string a0_1) := (blk_cell BK124.out 1).trans rfl; have hcz27_2 : w26.cell? ⟨gb124, 2, none⟩ = some (.string a0_2) := (blk_cell BK124.out 2).trans rfl; have hcz27_3 : w26.cell? ⟨gb124, 3, none⟩ = some (.slice A0_3 l0_3.length c0_3) := (blk_cell BK124.out 3).trans rfl; have hcz27_4 : w26.cell? ⟨gb124, 4, none⟩ = some (.slice A0_4 l0_4.length c0_4) := (blk_cell BK124.out 4).trans rfl; have hfz27_0 := blk_frozen BK124.out 0; have hfz27_1 := blk_frozen BK124.out 1; have hfz27_2 := blk_frozen BK124.out 2; have hfz27_3 := blk_frozen BK124.out 3; have hfz27_4 := blk_frozen BK124.out 4))
      go_ret
      exact ⟨by first | rfl | (simp [errW_none, errW_some] <;> rfl) | (simp [*, errW_none, errW_some] <;> rfl), by repeat (first | (with_reducible first | exact HB.out | apply below_alloc | apply pw_below_drewN | apply below_drew1 | refine below_set ?_ GE124.out) | exact HB.out)⟩

-- NOT PRINTED: function 36 (dom_NodeName)
/-! ### atom_ZzAtom: function 57 -/
def atom_ZzAtom.f (a0 : ByteArray) : Option (Int) := if a0.toList = ([99, 97, 112, 116, 105, 111, 110] : List UInt8) then (some 140295) else (if a0.toList = ([108, 105] : List UInt8) then (some 45570) else (some 0))
set_option maxHeartbeats 8000000 in
set_option maxRecDepth 100000 in
theorem atom_ZzAtom.calls (a0 : ByteArray) (r : Int) (w : World) (h : atom_ZzAtom.f a0 = some r) :
    Calls Try.prog 57 #[.string a0] w fun e w' => e = .returned (.int .u32 r) ∧ Drawn0 w w' := by
  have H : (if a0.toList = ([99, 97, 112, 116, 105, 111, 110] : List UInt8) then (some 140295) else (if a0.toList = ([108, 105] : List UInt8) then (some 45570) else (some 0))) = some r := h
  clear h
  by_cases c2 : a0.toList = ([99, 97, 112, 116, 105, 111, 110] : List UInt8)
  · rw [if_pos c2] at H
    have c2b0 : (a0.toList == ([99, 97, 112, 116, 105, 111, 110] : List UInt8)) = true := beq_iff_eq.mpr c2
    have c2b1 : (a0.toList != ([99, 97, 112, 116, 105, 111, 110] : List UInt8)) = false := bne_eq_false_iff_eq.mpr c2
    clear c2
    obtain rfl := Option.some.inj H
    go_enter Try.func57, Try.ntmps57
    go_wp2
    go_ret
    exact ⟨by first | rfl | (simp; done) | (simp [*]; done), by repeat (first | exact Drawn0.refl _ | apply Drawn0.step)⟩
  · rw [if_neg c2] at H
    have c2b0 : (a0.toList == ([99, 97, 112, 116, 105, 111, 110] : List UInt8)) = false := beq_eq_false_iff_ne.mpr c2
    have c2b1 : (a0.toList != ([99, 97, 112, 116, 105, 111, 110] : List UInt8)) = true := bne_iff_ne.mpr c2
    by_cases c3 : a0.toList = ([108, 105] : List UInt8)
    · rw [if_pos c3] at H
      have c3b0 : (a0.toList == ([108, 105] : List UInt8)) = true := beq_iff_eq.mpr c3
      have c3b1 : (a0.toList != ([108, 105] : List UInt8)) = false := bne_eq_false_iff_eq.mpr c3
      clear c3
      obtain rfl := Option.some.inj H
      go_enter Try.func57, Try.ntmps57
      go_wp2
      go_ret
      exact ⟨by first | rfl | (simp; done) | (simp [*]; done), by repeat (first | exact Drawn0.refl _ | apply Drawn0.step)⟩
    · rw [if_neg c3] at H
      have c3b0 : (a0.toList == ([108, 105] : List UInt8)) = false := beq_eq_false_iff_ne.mpr c3
      have c3b1 : (a0.toList != ([108, 105] : List UInt8)) = true := bne_iff_ne.mpr c3
      obtain rfl := Option.some.inj H
      go_enter Try.func57, Try.ntmps57
      go_wp2
      go_ret
      exact ⟨by first | rfl | (simp; done) | (simp [*]; done), by repeat (first | exact Drawn0.refl _ | apply Drawn0.step)⟩

-- NOT PRINTED: function 58 (html_Node_AppendChild)

-- NOT PRINTED: function 37 (impl_made)

-- NOT PRINTED: function 11 (impl_NameOf)

-- NOT PRINTED: function 3 (laws_FnDomName)
/-! ### laws_path29: function 22 -/
def laws_path29.l0 : Nat → List Int → List Int → Int → Int → Option (Bool)
  | 0, _, _, _, _ => none
  | k + 1, x0, x1, x12, x13 => if x13 < x12 then (if 0 ≤ x13 then (if x13 < (x0.length : Int) then (if x13 < (x1.length : Int) then (if (rd x0 x13) = (rd x1 x13) then (laws_path29.l0 k x0 x1 x12 (wrap64 (x13 + 1))) else (some false)) else (none)) else (none)) else (none)) else (some true)
def laws_path29.f (k : Nat) (l0 : List Int) (l1 : List Int) : Option (Bool) := if (l0.length : Int) = (l1.length : Int) then (laws_path29.l0 k l0 l1 (l0.length : Int) 0) else (some false)
theorem laws_path29.mono_l : ∀ k, (∀ y0 y1 y2 y3, LeO (laws_path29.l0 k y0 y1 y2 y3) (laws_path29.l0 (k + 1) y0 y1 y2 y3))
  | 0 => fun _ _ _ _ r h => by simp [laws_path29.l0] at h
  | k + 1 => by
    have ih0 := laws_path29.mono_l k
    · intro y0 y1 y2 y3
      unfold laws_path29.l0
      repeat' first
      | (with_reducible exact ih0 _ _ _ _)
      | (with_reducible exact LeO.refl _)
      | (with_reducible exact LeO.none _)
      | (with_reducible refine LeO.ite ?_ ?_)
      | (with_reducible refine LeO.bind ?_ (fun _ => ?_))
      | exact ih0 _ _ _ _
      | exact LeO.none _
      | refine LeO.ite ?_ ?_
      | refine LeO.bind ?_ (fun _ => ?_)
theorem laws_path29.mono : ∀ a0 a1 k, LeO (laws_path29.f k a0 a1) (laws_path29.f (k + 1) a0 a1) := by
  intro a0 a1 k
  have ih0 := laws_path29.mono_l k
  unfold laws_path29.f
  repeat' first
      | (with_reducible exact ih0 _ _ _ _)
      | (with_reducible exact LeO.refl _)
      | (with_reducible exact LeO.none _)
      | (with_reducible refine LeO.ite ?_ ?_)
      | (with_reducible refine LeO.bind ?_ (fun _ => ?_))
      | exact ih0 _ _ _ _
      | exact LeO.none _
      | refine LeO.ite ?_ ?_
      | refine LeO.bind ?_ (fun _ => ?_)
set_option maxHeartbeats 8000000 in
set_option maxRecDepth 100000 in
theorem laws_path29.calls (k : Nat) (A0 : Option Addr) (c0 : Nat) (l0 : List Int) (A1 : Option Addr) (c1 : Nat) (l1 : List Int) (r : Bool) (w : World) (hr0 : Kd.C (Kd.int .i64) w A0 l0.length l0) (hc0 : l0.length ≤ c0) (hr1 : Kd.C (Kd.int .i64) w A1 l1.length l1) (hc1 : l1.length ≤ c1) (h : laws_path29.f k l0 l1 = some r) :
    Calls Try.prog 22 #[.slice A0 l0.length c0, .slice A1 l1.length c1] w fun e w' => e = .returned (.bool r) ∧ Drawn0 w w' := by
  have HR0 := Aside0.mk hr0
  have HC0 := Aside0.mk hc0
  clear hr0 hc0
  have HR1 := Aside0.mk hr1
  have HC1 := Aside0.mk hc1
  clear hr1 hc1
  have H : (if (l0.length : Int) = (l1.length : Int) then (laws_path29.l0 k l0 l1 (l0.length : Int) 0) else (some false)) = some r := h
  clear h
  by_cases c3 : (l0.length : Int) = (l1.length : Int)
  · rw [if_pos c3] at H
    have c3b0 : ((l0.length : Int) == (l1.length : Int)) = true := beq_iff_eq.mpr c3
    have c3b1 : ((l0.length : Int) != (l1.length : Int)) = false := bne_eq_false_iff_eq.mpr c3
    have c3b2 : (l0.length == l1.length) = true := by first | simpa using c3 | (simp at c3 ⊢; omega)
    clear c3
    have H' := Aside0.mk H
    clear H
    go_enter Try.func22, Try.ntmps22
    go_wp2
    repeat (go_quiet (fail); try go_wp2)
    go_loopg [13] k (fun kq v13 w' => ∃ (x13_1 : Int), v13 = .int .i64 x13_1 ∧ Aside0 (laws_path29.l0 kq l0 l1 (l0.length : Int) x13_1 = some r) ∧ Aside0 (kq ≤ k) ∧ Drawn0 w w')
    case atStart => exact ⟨(0), (by first | rfl | (simp; done) | (simp [*]; done)), H', ⟨Nat.le_refl _⟩, by repeat (first | exact Drawn0.refl _ | apply Drawn0.step)⟩
    case round =>
      clear H'
      try clear c1
      try clear c2
      try clear p2
      try clear c3
      try clear c3b0
      try clear c3b1
      try clear c3b2
      obtain ⟨x13_1, rfl, HA, HK1, ⟨m1, rfl⟩⟩ := hrel
      cases gk with
      | zero => exact absurd HA.out (by simp [laws_path29.l0])
      | succ k1 =>
        have H := HA.out
        clear HA
        simp only [laws_path29.l0] at H
        by_cases c4 : x13_1 < (l0.length : Int)
        · rw [if_pos c4] at H
          have c4b0 : decide (x13_1 < (l0.length : Int)) = true := decide_eq_true c4
          clear c4
          by_cases c5 : 0 ≤ x13_1
          · rw [if_pos c5] at H
            have c5b0 : decide (0 ≤ x13_1) = true := decide_eq_true c5
            clear c5
            by_cases c6 : x13_1 < (l0.length : Int)
            · rw [if_pos c6] at H
              have c6b0 : decide (x13_1 < (l0.length : Int)) = true := decide_eq_true c6
              clear c6
              by_cases c7 : x13_1 < (l1.length : Int)
              · rw [if_pos c7] at H
                have c7b0 : decide (x13_1 < (l1.length : Int)) = true := decide_eq_true c7
                clear c7
                by_cases c8 : (rd l0 x13_1) = (rd l1 x13_1)
                · rw [if_pos c8] at H
                  have c8b0 : ((rd l0 x13_1) == (rd l1 x13_1)) = true := beq_iff_eq.mpr c8
                  have c8b1 : ((rd l0 x13_1) != (rd l1 x13_1)) = false := bne_eq_false_iff_eq.mpr c8
                  clear c8
                  have H' := Aside0.mk H
                  clear H
                  have p133 : 0 ≤ (x13_1 : Int) := of_decide_eq_true (by first | (with_reducible assumption) | assumption)
                  have q133 : x13_1 < (l0.length : Int) := of_decide_eq_true (by first | (with_reducible assumption) | assumption)
                  obtain ⟨ad133, e133, hx133_0⟩ := Kd.at_int HR0.out x13_1 p133 q133
                  cases e133
                  replace p133 := eq_true p133
                  replace q133 := eq_true q133
                  have p134 : 0 ≤ (x13_1 : Int) := of_decide_eq_true (by first | (with_reducible assumption) | assumption)
                  have q134 : x13_1 < (l1.length : Int) := of_decide_eq_true (by first | (with_reducible assumption) | assumption)
                  obtain ⟨ad134, e134, hx134_0⟩ := Kd.at_int HR1.out x13_1 p134 q134
                  cases e134
                  replace p134 := eq_true p134
                  replace q134 := eq_true q134
                  go_wp2
                  repeat (go_quiet (fail); try go_wp2)
                  go_roundg k1
                  case measure => have := HK1.out; omega
                  case rel => exact ⟨(wrap64 (x13_1 + 1)), (by first | rfl | (simp; done) | (simp [*]; done)), H', ⟨by have := HK1.out; omega⟩, by repeat (first | exact Drawn0.refl _ | apply Drawn0.step)⟩
                · rw [if_neg c8] at H
                  have c8b0 : ((rd l0 x13_1) == (rd l1 x13_1)) = false := beq_eq_false_iff_ne.mpr c8
                  have c8b1 : ((rd l0 x13_1) != (rd l1 x13_1)) = true := bne_iff_ne.mpr c8
                  obtain rfl := Option.some.inj H
                  have p133 : 0 ≤ (x13_1 : Int) := of_decide_eq_true (by first | (with_reducible assumption) | assumption)
                  have q133 : x13_1 < (l0.length : Int) := of_decide_eq_true (by first | (with_reducible assumption) | assumption)
                  obtain ⟨ad133, e133, hx133_0⟩ := Kd.at_int HR0.out x13_1 p133 q133
                  cases e133
                  replace p133 := eq_true p133
                  replace q133 := eq_true q133
                  have p134 : 0 ≤ (x13_1 : Int) := of_decide_eq_true (by first | (with_reducible assumption) | assumption)
                  have q134 : x13_1 < (l1.length : Int) := of_decide_eq_true (by first | (with_reducible assumption) | assumption)
                  obtain ⟨ad134, e134, hx134_0⟩ := Kd.at_int HR1.out x13_1 p134 q134
                  cases e134
                  replace p134 := eq_true p134
                  replace q134 := eq_true q134
                  go_wp2
                  repeat (go_quiet (fail); try go_wp2)
                  go_ret
                  exact ⟨by first | rfl | (simp; done) | (simp [*]; done), by repeat (first | exact Drawn0.refl _ | apply Drawn0.step)⟩
              · rw [if_neg c7] at H
                exact absurd H (by simp)
            · rw [if_neg c6] at H
              exact absurd H (by simp)
          · rw [if_neg c5] at H
            exact absurd H (by simp)
        · rw [if_neg c4] at H
          have c4b0 : decide (x13_1 < (l0.length : Int)) = false := decide_eq_false c4
          clear c4
          obtain rfl := Option.some.inj H
          go_wp2
          repeat (go_quiet (fail); try go_wp2)
          go_ret
          exact ⟨by first | rfl | (simp; done) | (simp [*]; done), by repeat (first | exact Drawn0.refl _ | apply Drawn0.step)⟩
  · rw [if_neg c3] at H
    have c3b0 : ((l0.length : Int) == (l1.length : Int)) = false := beq_eq_false_iff_ne.mpr c3
    have c3b1 : ((l0.length : Int) != (l1.length : Int)) = true := bne_iff_ne.mpr c3
    have c3b2 : (l0.length == l1.length) = false := by first | simpa using c3 | (simp at c3 ⊢; omega)
    obtain rfl := Option.some.inj H
    go_enter Try.func22, Try.ntmps22
    go_wp2
    repeat (go_quiet (fail); try go_wp2)
    go_ret
    exact ⟨by first | rfl | (simp; done) | (simp [*]; done), by repeat (first | exact Drawn0.refl _ | apply Drawn0.step)⟩
/-! ### laws_paths29: function 12 -/
def laws_paths29.l0 : Nat → List (List Int) → List (List Int) → Int → Int → Option (Bool)
  | 0, _, _, _, _ => none
  | k + 1, x0, x1, x12, x13 => if x13 < x12 then (if 0 ≤ x13 then (if x13 < (x0.length : Int) then (if x13 < (x1.length : Int) then ((laws_path29.f k (rd_L5 x0 x13) (rd_L5 x1 x13)).bind fun t137 => (if t137 = true then (laws_paths29.l0 k x0 x1 x12 (wrap64 (x13 + 1))) else (some false))) else (none)) else (none)) else (none)) else (some true)
def laws_paths29.f (k : Nat) (l0 : List (List Int)) (l1 : List (List Int)) : Option (Bool) := if (l0.length : Int) = (l1.length : Int) then (laws_paths29.l0 k l0 l1 (l0.length : Int) 0) else (some false)
theorem laws_paths29.mono_l : ∀ k, (∀ y0 y1 y2 y3, LeO (laws_paths29.l0 k y0 y1 y2 y3) (laws_paths29.l0 (k + 1) y0 y1 y2 y3))
  | 0 => fun _ _ _ _ r h => by simp [laws_paths29.l0] at h
  | k + 1 => by
    have ih0 := laws_paths29.mono_l k
    · intro y0 y1 y2 y3
      unfold laws_paths29.l0
      repeat' first
      | (with_reducible exact ih0 _ _ _ _)
      | (with_reducible exact laws_path29.mono _ _ _)
      | (with_reducible exact LeO.refl _)
      | (with_reducible exact LeO.none _)
      | (with_reducible refine LeO.ite ?_ ?_)
      | (with_reducible refine LeO.bind ?_ (fun _ => ?_))
      | exact ih0 _ _ _ _
      | exact laws_path29.mono _ _ _
      | exact LeO.none _
      | refine LeO.ite ?_ ?_
      | refine LeO.bind ?_ (fun _ => ?_)
theorem laws_paths29.mono : ∀ a0 a1 k, LeO (laws_paths29.f k a0 a1) (laws_paths29.f (k + 1) a0 a1) := by
  intro a0 a1 k
  have ih0 := laws_paths29.mono_l k
  unfold laws_paths29.f
  repeat' first
      | (with_reducible exact ih0 _ _ _ _)
      | (with_reducible exact laws_path29.mono _ _ _)
      | (with_reducible exact LeO.refl _)
      | (with_reducible exact LeO.none _)
      | (with_reducible refine LeO.ite ?_ ?_)
      | (with_reducible refine LeO.bind ?_ (fun _ => ?_))
      | exact ih0 _ _ _ _
      | exact laws_path29.mono _ _ _
      | exact LeO.none _
      | refine LeO.ite ?_ ?_
      | refine LeO.bind ?_ (fun _ => ?_)
set_option maxHeartbeats 8000000 in
set_option maxRecDepth 100000 in
theorem laws_paths29.calls (k : Nat) (A0 : Option Addr) (c0 : Nat) (l0 : List (List Int)) (A1 : Option Addr) (c1 : Nat) (l1 : List (List Int)) (r : Bool) (w : World) (hr0 : Kd.C (Kd.slice 3 (Kd.int .i64)) w A0 l0.length l0) (hc0 : l0.length ≤ c0) (hr1 : Kd.C (Kd.slice 3 (Kd.int .i64)) w A1 l1.length l1) (hc1 : l1.length ≤ c1) (h : laws_paths29.f k l0 l1 = some r) :
    Calls Try.prog 12 #[.slice A0 l0.length c0, .slice A1 l1.length c1] w fun e w' => e = .returned (.bool r) ∧ Drawn0 w w' := by
  have HR0 := Aside0.mk hr0
  have HC0 := Aside0.mk hc0
  clear hr0 hc0
  have HR1 := Aside0.mk hr1
  have HC1 := Aside0.mk hc1
  clear hr1 hc1
  have H : (if (l0.length : Int) = (l1.length : Int) then (laws_paths29.l0 k l0 l1 (l0.length : Int) 0) else (some false)) = some r := h
  clear h
  by_cases c3 : (l0.length : Int) = (l1.length : Int)
  · rw [if_pos c3] at H
    have c3b0 : ((l0.length : Int) == (l1.length : Int)) = true := beq_iff_eq.mpr c3
    have c3b1 : ((l0.length : Int) != (l1.length : Int)) = false := bne_eq_false_iff_eq.mpr c3
    have c3b2 : (l0.length == l1.length) = true := by first | simpa using c3 | (simp at c3 ⊢; omega)
    clear c3
    have H' := Aside0.mk H
    clear H
    go_enter Try.func12, Try.ntmps12
    go_wp2
    repeat (go_quiet (fail); try go_wp2)
    go_loopg [13] k (fun kq v13 w' => ∃ (x13_1 : Int), v13 = .int .i64 x13_1 ∧ Aside0 (laws_paths29.l0 kq l0 l1 (l0.length : Int) x13_1 = some r) ∧ Aside0 (kq ≤ k) ∧ Drawn0 w w')
    case atStart => exact ⟨(0), (by first | rfl | (simp; done) | (simp [*]; done)), H', ⟨Nat.le_refl _⟩, by repeat (first | exact Drawn0.refl _ | apply Drawn0.step)⟩
    case round =>
      clear H'
      try clear c1
      try clear p2
      try clear c3
      try clear c3b0
      try clear c3b1
      try clear c3b2
      obtain ⟨x13_1, rfl, HA, HK1, ⟨m1, rfl⟩⟩ := hrel
      cases gk with
      | zero => exact absurd HA.out (by simp [laws_paths29.l0])
      | succ k1 =>
        have H := HA.out
        clear HA
        simp only [laws_paths29.l0] at H
        by_cases c4 : x13_1 < (l0.length : Int)
        · rw [if_pos c4] at H
          have c4b0 : decide (x13_1 < (l0.length : Int)) = true := decide_eq_true c4
          clear c4
          by_cases c5 : 0 ≤ x13_1
          · rw [if_pos c5] at H
            have c5b0 : decide (0 ≤ x13_1) = true := decide_eq_true c5
            clear c5
            by_cases c6 : x13_1 < (l0.length : Int)
            · rw [if_pos c6] at H
              have c6b0 : decide (x13_1 < (l0.length : Int)) = true := decide_eq_true c6
              clear c6
              by_cases c7 : x13_1 < (l1.length : Int)
              · rw [if_pos c7] at H
                have c7b0 : decide (x13_1 < (l1.length : Int)) = true := decide_eq_true c7
                clear c7
                replace H := Option.bind_eq_some_iff.mp H
                obtain ⟨t137, A80, H⟩ := H
                replace H : (if t137 = true then (laws_paths29.l0 k1 l0 l1 (l0.length : Int) (wrap64 (x13_1 + 1))) else (some false)) = some r := H
                have A8 := Aside0.mk A80
                clear A80
                by_cases c9 : t137 = true
                · subst c9
                  have H1 : (laws_paths29.l0 k1 l0 l1 (l0.length : Int) (wrap64 (x13_1 + 1))) = some r := by rw [if_pos rfl] at H; exact H
                  clear H
                  have H := H1
                  clear H1
                  have H' := Aside0.mk H
                  clear H
                  have p135 : 0 ≤ (x13_1 : Int) := of_decide_eq_true (by first | (with_reducible assumption) | assumption)
                  have q135 : x13_1 < (l0.length : Int) := of_decide_eq_true (by first | (with_reducible assumption) | assumption)
                  obtain ⟨ad135, A135_0, c135_0, e135, hx135_0, hl135_0, hi135_0⟩ := at_L5 HR0.out x13_1 p135 q135
                  cases e135
                  have HR135_0 := Aside0.mk hi135_0
                  have HC135_0 := Aside0.mk hl135_0
                  clear hi135_0 hl135_0
                  replace p135 := eq_true p135
                  replace q135 := eq_true q135
                  have p136 : 0 ≤ (x13_1 : Int) := of_decide_eq_true (by first | (with_reducible assumption) | assumption)
                  have q136 : x13_1 < (l1.length : Int) := of_decide_eq_true (by first | (with_reducible assumption) | assumption)
                  obtain ⟨ad136, A136_0, c136_0, e136, hx136_0, hl136_0, hi136_0⟩ := at_L5 HR1.out x13_1 p136 q136
                  cases e136
                  have HR136_0 := Aside0.mk hi136_0
                  have HC136_0 := Aside0.mk hl136_0
                  clear hi136_0 hl136_0
                  replace p136 := eq_true p136
                  replace q136 := eq_true q136
                  go_wp2_with (first | (go_at_call 22; (with_reducible refine (laws_path29.calls k1 _ _ (rd_L5 l0 x13_1) _ _ (rd_L5 l1 x13_1) true _ ?side1 ?side2 ?side3 ?side4 A8.out).mono ?_); (case side1 => repeat (first | exact HR135_0.out | (with_reducible refine Kd.C_alloc ?_ _) | (with_reducible refine Kd.C_drewN ?_ _) | (with_reducible refine Kd.C_drew ?_))); (case side2 => exact HC135_0.out); (case side3 => repeat (first | exact HR136_0.out | (with_reducible refine Kd.C_alloc ?_ _) | (with_reducible refine Kd.C_drewN ?_ _) | (with_reducible refine Kd.C_drew ?_))); (case side4 => exact HC136_0.out); rintro e w' ⟨rfl, ⟨nd, rfl⟩⟩; (try first | exact ⟨rfl, _, World.drewN_drewN _ _ _⟩ | exact ⟨rfl, _, Eq.trans (World.drewN_drewN _ _ _) (congrArg (World.drewN _) (Nat.add_assoc _ _ _))⟩)))
                  repeat (go_quiet (first | (go_at_call 22; (with_reducible refine (laws_path29.calls k1 _ _ (rd_L5 l0 x13_1) _ _ (rd_L5 l1 x13_1) true _ ?side1 ?side2 ?side3 ?side4 A8.out).mono ?_); (case side1 => repeat (first | exact HR135_0.out | (with_reducible refine Kd.C_alloc ?_ _) | (with_reducible refine Kd.C_drewN ?_ _) | (with_reducible refine Kd.C_drew ?_))); (case side2 => exact HC135_0.out); (case side3 => repeat (first | exact HR136_0.out | (with_reducible refine Kd.C_alloc ?_ _) | (with_reducible refine Kd.C_drewN ?_ _) | (with_reducible refine Kd.C_drew ?_))); (case side4 => exact HC136_0.out); rintro e w' ⟨rfl, ⟨nd, rfl⟩⟩; (try first | exact ⟨rfl, _, World.drewN_drewN _ _ _⟩ | exact ⟨rfl, _, Eq.trans (World.drewN_drewN _ _ _) (congrArg (World.drewN _) (Nat.add_assoc _ _ _))⟩))); try go_wp2_with (first | (go_at_call 22; (with_reducible refine (laws_path29.calls k1 _ _ (rd_L5 l0 x13_1) _ _ (rd_L5 l1 x13_1) true _ ?side1 ?side2 ?side3 ?side4 A8.out).mono ?_); (case side1 => repeat (first | exact HR135_0.out | (with_reducible refine Kd.C_alloc ?_ _) | (with_reducible refine Kd.C_drewN ?_ _) | (with_reducible refine Kd.C_drew ?_))); (case side2 => exact HC135_0.out); (case side3 => repeat (first | exact HR136_0.out | (with_reducible refine Kd.C_alloc ?_ _) | (with_reducible refine Kd.C_drewN ?_ _) | (with_reducible refine Kd.C_drew ?_))); (case side4 => exact HC136_0.out); rintro e w' ⟨rfl, ⟨nd, rfl⟩⟩; (try first | exact ⟨rfl, _, World.drewN_drewN _ _ _⟩ | exact ⟨rfl, _, Eq.trans (World.drewN_drewN _ _ _) (congrArg (World.drewN _) (Nat.add_assoc _ _ _))⟩))))
                  go_roundg k1
                  case measure => have := HK1.out; omega
                  case rel => exact ⟨(wrap64 (x13_1 + 1)), (by first | rfl | (simp; done) | (simp [*]; done)), H', ⟨by have := HK1.out; omega⟩, by repeat (first | exact Drawn0.refl _ | apply Drawn0.step)⟩
                · replace c9 := Bool.eq_false_iff.mpr c9
                  subst c9
                  have H1 : (some false) = some r := by rw [if_neg (show ¬ (false = true) by decide)] at H; exact H
                  clear H
                  have H := H1
                  clear H1
                  obtain rfl := Option.some.inj H
                  have p135 : 0 ≤ (x13_1 : Int) := of_decide_eq_true (by first | (with_reducible assumption) | assumption)
                  have q135 : x13_1 < (l0.length : Int) := of_decide_eq_true (by first | (with_reducible assumption) | assumption)
                  obtain ⟨ad135, A135_0, c135_0, e135, hx135_0, hl135_0, hi135_0⟩ := at_L5 HR0.out x13_1 p135 q135
                  cases e135
                  have HR135_0 := Aside0.mk hi135_0
                  have HC135_0 := Aside0.mk hl135_0
                  clear hi135_0 hl135_0
                  replace p135 := eq_true p135
                  replace q135 := eq_true q135
                  have p136 : 0 ≤ (x13_1 : Int) := of_decide_eq_true (by first | (with_reducible assumption) | assumption)
                  have q136 : x13_1 < (l1.length : Int) := of_decide_eq_true (by first | (with_reducible assumption) | assumption)
                  obtain ⟨ad136, A136_0, c136_0, e136, hx136_0, hl136_0, hi136_0⟩ := at_L5 HR1.out x13_1 p136 q136
                  cases e136
                  have HR136_0 := Aside0.mk hi136_0
                  have HC136_0 := Aside0.mk hl136_0
                  clear hi136_0 hl136_0
                  replace p136 := eq_true p136
                  replace q136 := eq_true q136
                  go_wp2_with (first | (go_at_call 22; (with_reducible refine (laws_path29.calls k1 _ _ (rd_L5 l0 x13_1) _ _ (rd_L5 l1 x13_1) false _ ?side1 ?side2 ?side3 ?side4 A8.out).mono ?_); (case side1 => repeat (first | exact HR135_0.out | (with_reducible refine Kd.C_alloc ?_ _) | (with_reducible refine Kd.C_drewN ?_ _) | (with_reducible refine Kd.C_drew ?_))); (case side2 => exact HC135_0.out); (case side3 => repeat (first | exact HR136_0.out | (with_reducible refine Kd.C_alloc ?_ _) | (with_reducible refine Kd.C_drewN ?_ _) | (with_reducible refine Kd.C_drew ?_))); (case side4 => exact HC136_0.out); rintro e w' ⟨rfl, ⟨nd, rfl⟩⟩; (try first | exact ⟨rfl, _, World.drewN_drewN _ _ _⟩ | exact ⟨rfl, _, Eq.trans (World.drewN_drewN _ _ _) (congrArg (World.drewN _) (Nat.add_assoc _ _ _))⟩)))
                  repeat (go_quiet (first | (go_at_call 22; (with_reducible refine (laws_path29.calls k1 _ _ (rd_L5 l0 x13_1) _ _ (rd_L5 l1 x13_1) false _ ?side1 ?side2 ?side3 ?side4 A8.out).mono ?_); (case side1 => repeat (first | exact HR135_0.out | (with_reducible refine Kd.C_alloc ?_ _) | (with_reducible refine Kd.C_drewN ?_ _) | (with_reducible refine Kd.C_drew ?_))); (case side2 => exact HC135_0.out); (case side3 => repeat (first | exact HR136_0.out | (with_reducible refine Kd.C_alloc ?_ _) | (with_reducible refine Kd.C_drewN ?_ _) | (with_reducible refine Kd.C_drew ?_))); (case side4 => exact HC136_0.out); rintro e w' ⟨rfl, ⟨nd, rfl⟩⟩; (try first | exact ⟨rfl, _, World.drewN_drewN _ _ _⟩ | exact ⟨rfl, _, Eq.trans (World.drewN_drewN _ _ _) (congrArg (World.drewN _) (Nat.add_assoc _ _ _))⟩))); try go_wp2_with (first | (go_at_call 22; (with_reducible refine (laws_path29.calls k1 _ _ (rd_L5 l0 x13_1) _ _ (rd_L5 l1 x13_1) false _ ?side1 ?side2 ?side3 ?side4 A8.out).mono ?_); (case side1 => repeat (first | exact HR135_0.out | (with_reducible refine Kd.C_alloc ?_ _) | (with_reducible refine Kd.C_drewN ?_ _) | (with_reducible refine Kd.C_drew ?_))); (case side2 => exact HC135_0.out); (case side3 => repeat (first | exact HR136_0.out | (with_reducible refine Kd.C_alloc ?_ _) | (with_reducible refine Kd.C_drewN ?_ _) | (with_reducible refine Kd.C_drew ?_))); (case side4 => exact HC136_0.out); rintro e w' ⟨rfl, ⟨nd, rfl⟩⟩; (try first | exact ⟨rfl, _, World.drewN_drewN _ _ _⟩ | exact ⟨rfl, _, Eq.trans (World.drewN_drewN _ _ _) (congrArg (World.drewN _) (Nat.add_assoc _ _ _))⟩))))
                  go_ret
                  exact ⟨by first | rfl | (simp; done) | (simp [*]; done), by repeat (first | exact Drawn0.refl _ | apply Drawn0.step)⟩
              · rw [if_neg c7] at H
                exact absurd H (by simp)
            · rw [if_neg c6] at H
              exact absurd H (by simp)
          · rw [if_neg c5] at H
            exact absurd H (by simp)
        · rw [if_neg c4] at H
          have c4b0 : decide (x13_1 < (l0.length : Int)) = false := decide_eq_false c4
          clear c4
          obtain rfl := Option.some.inj H
          go_wp2
          repeat (go_quiet (fail); try go_wp2)
          go_ret
          exact ⟨by first | rfl | (simp; done) | (simp [*]; done), by repeat (first | exact Drawn0.refl _ | apply Drawn0.step)⟩
  · rw [if_neg c3] at H
    have c3b0 : ((l0.length : Int) == (l1.length : Int)) = false := beq_eq_false_iff_ne.mpr c3
    have c3b1 : ((l0.length : Int) != (l1.length : Int)) = true := bne_iff_ne.mpr c3
    have c3b2 : (l0.length == l1.length) = false := by first | simpa using c3 | (simp at c3 ⊢; omega)
    obtain rfl := Option.some.inj H
    go_enter Try.func12, Try.ntmps12
    go_wp2
    repeat (go_quiet (fail); try go_wp2)
    go_ret
    exact ⟨by first | rfl | (simp; done) | (simp [*]; done), by repeat (first | exact Drawn0.refl _ | apply Drawn0.step)⟩

-- NOT PRINTED: function 38 (dom_AllNodes)

-- NOT PRINTED: function 39 (impl_pathOf)

-- NOT PRINTED: function 13 (impl_AllNodes)
/-! ### spec_Under29: function 40 -/
def spec_Under29.f (l0 : List Int) (a1 : Int) : Option (List Int) := (some (([] : List Int) : List Int)).bind fun y139 => (if y139.length + l0.length < 17592186044416 then ((some (y139 ++ l0 : List Int)).bind fun y142 => (if y142.length < 17592186044416 then (some (y142 ++ [a1])) else (none))) else (none))
set_option maxHeartbeats 8000000 in
set_option maxRecDepth 100000 in
theorem spec_Under29.calls (A0 : Option Addr) (c0 : Nat) (l0 : List Int) (a1 : Int) (r : List Int) (w : World) (hr0 : Kd.C (Kd.int .i64) w A0 l0.length l0) (hc0 : l0.length ≤ c0) (h : spec_Under29.f l0 a1 = some r) :
    Calls Try.prog 40 #[.slice A0 l0.length c0, .int .i64 a1] w fun e w' => ∃ v0_ : Value, e = .returned (v0_) ∧ Kd.R (Kd.int .i64) 3 w' w.heap.size (fun _ => True) v0_ r ∧ Below w.heap.size w w' := by
  have HR0 := Aside0.mk hr0
  have HC0 := Aside0.mk hc0
  clear hr0 hc0
  have HB := Aside0.mk (Below.refl w.heap.size w)
  have H : ((some (([] : List Int) : List Int)).bind fun y139 => (if y139.length + l0.length < 17592186044416 then ((some (y139 ++ l0 : List Int)).bind fun y142 => (if y142.length < 17592186044416 then (some (y142 ++ [a1])) else (none))) else (none))) = some r := h
  clear h
  obtain ⟨y139, hy139⟩ : ∃ y_ : List Int, y_ = (([] : List Int)) := ⟨_, rfl⟩
  replace H : (if y139.length + l0.length < 17592186044416 then ((some (y139 ++ l0 : List Int)).bind fun y142 => (if y142.length < 17592186044416 then (some (y142 ++ [a1])) else (none))) else (none)) = some r := by first | (rw [hy139]; with_reducible exact H) | (have H2_ := (Option.bind_some _ _).symm.trans H; rw [hy139]; with_reducible exact H2_) | (have H2_ := (Option.bind_some _ _).symm.trans H; with_reducible exact H2_) | with_reducible exact H | (rw [hy139]; exact H) | exact H
  have Ny139 := Aside0.mk hy139
  clear hy139
  by_cases c3 : y139.length + l0.length < 17592186044416
  · rw [if_pos c3] at H
    have LMc3 := Aside0.mk c3
    clear c3
    obtain ⟨y142, hy142⟩ : ∃ y_ : List Int, y_ = (y139 ++ l0) := ⟨_, rfl⟩
    replace H : (if y142.length < 17592186044416 then (some (y142 ++ [a1])) else (none)) = some r := by first | (rw [hy142]; with_reducible exact H) | (have H2_ := (Option.bind_some _ _).symm.trans H; rw [hy142]; with_reducible exact H2_) | (have H2_ := (Option.bind_some _ _).symm.trans H; with_reducible exact H2_) | with_reducible exact H | (rw [hy142]; exact H) | exact H
    have Ny142 := Aside0.mk hy142
    clear hy142
    by_cases c4 : y142.length < 17592186044416
    · rw [if_pos c4] at H
      have LMc4 := Aside0.mk c4
      clear c4
      obtain ⟨y145, hy145⟩ : ∃ y_ : List Int, y_ = (y142 ++ [a1]) := ⟨_, rfl⟩
      replace H : (some y145) = some r := by first | (rw [hy145]; with_reducible exact H) | (have H2_ := (Option.bind_some _ _).symm.trans H; rw [hy145]; with_reducible exact H2_) | (have H2_ := (Option.bind_some _ _).symm.trans H; with_reducible exact H2_) | with_reducible exact H | (rw [hy145]; exact H) | exact H
      have Ny145 := Aside0.mk hy145
      clear hy145
      obtain rfl := Option.some.inj H
      go_enter Try.func40, Try.ntmps40
      go_wp2_with (first | ((with_reducible refine gate_dst (N := 5) rfl ?_); refine Kd.R_lit (Kd.int .i64) _ 3 ?hg (N := 5) ?hd (xs := ([] : List Int)) (inner := []) (ok := fun _ => True) (okp := fun _ => True) ?hr ?hp (fun _ hk => hk) trivial (Below.refl _ _) (Nat.le_refl _) (by simp) ?_; (case hd => rfl); (case hg => rfl); (case hr => first | (go_simp; done) | (go_simp; rfl)); (case hp => exact (Reps.none _ _)); intro v140 w5 ho6 hb hg_ hnew_; clear hg_ hnew_; (first | rw [← Ny139.out] at ho6 | (simp only [Int.reduceToNat] at ho6; rw [← Ny139.out] at ho6)); have n0_ := Aside0.mk (Kd.R_lower ho6 (below_size (by repeat (first | (with_reducible first | exact HB.out | apply below_alloc | apply pw_below_drewN | apply below_drew1) | exact HB.out)))); have n1_ := Aside0.mk (below_step (by repeat (first | (with_reducible first | exact HB.out | apply below_alloc | apply pw_below_drewN | apply below_drew1) | exact HB.out)) hb); clear HB; have HO141 := n0_; have HB := n1_; clear n0_ n1_; clear hb ho6) | ((with_reducible refine gate_builtin (b := .append) (xs := #[.tmp 5, .tmp 6]) rfl ?_); at_builtin; refine Kd.R_append_rows (Kd.int .i64) (w0 := w) w.heap.size rfl (.tmp 5) (.tmp 6) 32 3 (.int .i64 0) 8 rfl Try.underlying32 info3 rfl (by decide) (by omega) v140 y139 l0 _ _ _ (fun _ => True) (fun _ => False) rfl rfl ?aO ?aR (fun _ _ h => h) (fun _ h => h.elim) ?aF ?aB ?aS ?aL ?_; (case aR => repeat (first | exact (Kd.C_below HR0.out HB.out) | (with_reducible refine Kd.C_alloc ?_ _) | (with_reducible refine Kd.C_drewN ?_ _) | (with_reducible refine Kd.C_drew ?_))); (case aB => exact (by repeat (first | (with_reducible first | exact HB.out | apply below_alloc | apply pw_below_drewN | apply below_drew1) | exact HB.out))); (case aF => exact (fun _ _ => trivial)); (case aO => exact (by (with_reducible repeat (first | apply Kd.R_alloc | apply Kd.R_drewN | apply Kd.R_drew)); exact HO141.out)); (case aS => exact (below_size (by repeat (first | (with_reducible first | exact HB.out | apply below_alloc | apply pw_below_drewN | apply below_drew1) | exact HB.out)))); (case aL => have := LMc3.out; omega); intro v143 w7 ho hb hg hat; rw [← Ny142.out] at ho; have n0_ := Aside0.mk (hb); have n1_ := Aside0.mk (ho); clear HB; clear HO141; have HB := n0_; have HO144 := n1_; clear n0_ n1_; clear ho hb hg hat) | ((with_reducible refine gate_builtin (b := .append) (xs := #[.tmp 7, .tmp 9]) rfl ?_); at_builtin; refine Kd.R_append (Kd.int .i64) (w0 := w) w.heap.size rfl (.tmp 7) (.tmp 9) 32 3 (.int .i64 0) 8 rfl Try.underlying32 info3 rfl (by decide) (by omega) v143 y142 a1 [.int .i64 a1] (fun _ => True) (fun _ => False) rfl rfl ?aP (fun _ hk => hk.elim) ?aF ?aO ?aB ?aS ?aL ?_; (case aP => exact rfl); (case aB => exact (by repeat (first | (with_reducible first | exact HB.out | apply below_alloc | apply pw_below_drewN | apply below_drew1) | exact HB.out))); (case aF => exact (fun _ _ => trivial)); (case aO => exact (by (with_reducible repeat (first | apply Kd.R_alloc | apply Kd.R_drewN | apply Kd.R_drew)); exact HO144.out)); (case aS => exact (below_size (by repeat (first | (with_reducible first | exact HB.out | apply below_alloc | apply pw_below_drewN | apply below_drew1) | exact HB.out)))); (case aL => have := LMc4.out; omega); intro v146 w8 ho hb hg hat; rw [← Ny145.out] at ho; have n0_ := Aside0.mk (hb); have n1_ := Aside0.mk (ho); clear HB; clear HO144; have HB := n0_; have HO147 := n1_; clear n0_ n1_; clear ho hb hg hat))
      go_ret
      exact ⟨_, by first | rfl | (simp [errW_none, errW_some] <;> rfl) | (simp [*, errW_none, errW_some] <;> rfl), by (with_reducible repeat (first | apply Kd.R_alloc | apply Kd.R_drewN | apply Kd.R_drew)); exact HO147.out, by repeat (first | (with_reducible first | exact HB.out | apply below_alloc | apply pw_below_drewN | apply below_drew1) | exact HB.out)⟩
    · rw [if_neg c4] at H
      exact absurd H (by simp)
  · rw [if_neg c3] at H
    exact absurd H (by simp)
end Go.Proofs.Ytibfoaahdbdogaa.PDom

/- Tables side by side; a table that is a tree. Plain facts. -/
namespace Go.Proofs.Ytibfoaahdbdogaa.Dom
open Go.RowKit Go.Proofs.YtibfoaahdbdogaaW.PrintWords Go.Proofs.YtibfoaahdbdogaaW.PrintLast Go.Proofs.YtibfoaahdbdogaaW.PrintMore Go.Proofs.Ytibfoaahdbdogaa.PDom
set_option linter.unusedVariables false
set_option linter.unusedSimpArgs false

theorem Dom.below {w w' : World} {D : Tab} (h : Dom w D) (hb : Below w.heap.size w w') : Dom w' D :=
  ⟨h.wf, fun hd => by
    obtain ⟨v, h1, h2⟩ := h.has hd
    exact ⟨v, h1.of_heap (hb.block _ h1.lt), h2.below hb⟩⟩
theorem Dom.lt {w : World} {D : Tab} (h : Dom w D) {b : Nat} (hb : D b ≠ none) : b < w.heap.size := by
  cases hd : D b with
  | none => exact absurd hd hb
  | some i =>
    obtain ⟨v, h1, _⟩ := h.has hd
    exact h1.lt

/-- One node alone. -/
def none_ : Tab := fun _ => none
theorem Dom.one {w : World} {b : Nat} {ty atom : Int} {data : ByteArray} {v : Value} {attrs : List (ByteArray × ByteArray)} (h : Has w b ⟨none, none, none, none, none, ty, atom, data, v⟩) (ha : AttrAt w v attrs) :
    Dom w (put none_ b ⟨none, [], ty, atom, data, attrs⟩) := by
  have hs : ∀ {x i}, put none_ b ⟨none, [], ty, atom, data, attrs⟩ x = some i → x = b ∧ i = ⟨none, [], ty, atom, data, attrs⟩ := by
    intro x i hx
    by_cases hxb : x = b
    · subst hxb
      rw [put_same] at hx
      exact ⟨rfl, (Option.some.inj hx).symm⟩
    · rw [put_other _ _ hxb] at hx
      cases hx
  refine ⟨⟨?_, ?_, ?_⟩, ?_⟩
  · intro x i p hx hp
    obtain ⟨_, rfl⟩ := hs hx
    cases hp
  · intro x i c hx hc
    obtain ⟨_, rfl⟩ := hs hx
    cases hc
  · intro x i hx
    obtain ⟨_, rfl⟩ := hs hx
    exact List.nodup_nil
  · intro x i hx
    obtain ⟨rfl, rfl⟩ := hs hx
    exact ⟨v, h, ha⟩

/-- Two tables side by side. -/
def uni (D D' : Tab) : Tab := fun x => match D x with
  | some i => some i
  | none => D' x
theorem uni_left {D D' : Tab} {x : Nat} {i : Info} (h : D x = some i) : uni D D' x = some i := by unfold uni; rw [h]
theorem uni_right {D D' : Tab} {x : Nat} (h : D x = none) : uni D D' x = D' x := by unfold uni; rw [h]
theorem uni_some {D D' : Tab} {x : Nat} {i : Info} (h : uni D D' x = some i) : D x = some i ∨ (D x = none ∧ D' x = some i) := by
  cases hd : D x with
  | some j => rw [uni_left hd] at h; exact .inl h
  | none => rw [uni_right hd] at h; exact .inr ⟨rfl, h⟩
theorem Dom.union {w : World} {D D' : Tab} (h : Dom w D) (h' : Dom w D') (hd : ∀ x, D x ≠ none → D' x = none) : Dom w (uni D D') := by
  have hr : ∀ {x i}, D' x = some i → uni D D' x = some i := by
    intro x i hx
    have : D x = none := by
      cases hD : D x with
      | none => rfl
      | some j => have := hd x (by rw [hD]; simp); rw [hx] at this; cases this
    rw [uni_right this]
    exact hx
  refine ⟨⟨?_, ?_, ?_⟩, ?_⟩
  · intro b i p hb hp
    rcases uni_some hb with hb | ⟨_, hb⟩
    · obtain ⟨ip, h1, h2⟩ := h.wf.up hb hp
      exact ⟨ip, uni_left h1, h2⟩
    · obtain ⟨ip, h1, h2⟩ := h'.wf.up hb hp
      exact ⟨ip, hr h1, h2⟩
  · intro b i c hb hc
    rcases uni_some hb with hb | ⟨_, hb⟩
    · obtain ⟨ip, h1, h2⟩ := h.wf.down hb hc
      exact ⟨ip, uni_left h1, h2⟩
    · obtain ⟨ip, h1, h2⟩ := h'.wf.down hb hc
      exact ⟨ip, hr h1, h2⟩
  · intro b i hb
    rcases uni_some hb with hb | ⟨_, hb⟩
    · exact h.wf.nodup hb
    · exact h'.wf.nodup hb
  · intro b i hb
    rcases uni_some hb with hb | ⟨_, hb⟩
    · obtain ⟨v, h1, h2⟩ := h.has hb
      refine ⟨v, ?_, h2⟩
      have hs : sibs (uni D D') i = sibs D i := by
        cases hp : i.parent with
        | none => rw [sibs_none hp, sibs_none hp]
        | some p =>
          obtain ⟨ip, h3, _⟩ := h.wf.up hb hp
          rw [sibs_some hp, sibs_some hp, kidsOf_some h3, kidsOf_some (uni_left h3)]
      unfold recOf at h1 ⊢
      rw [hs]
      exact h1
    · obtain ⟨v, h1, h2⟩ := h'.has hb
      refine ⟨v, ?_, h2⟩
      have hs : sibs (uni D D') i = sibs D' i := by
        cases hp : i.parent with
        | none => rw [sibs_none hp, sibs_none hp]
        | some p =>
          obtain ⟨ip, h3, _⟩ := h'.wf.up hb hp
          rw [sibs_some hp, sibs_some hp, kidsOf_some h3, kidsOf_some (hr h3)]
      unfold recOf at h1 ⊢
      rw [hs]
      exact h1

/-! ### A tree -/
abbrev T := S25
def tyOf (k : Int) : Int := if k = 0 then 3 else if k = 1 then 1 else if k = 2 then 4 else 2
def flat (t : T) : Prop := t.f0 = 1 ∨ t.f0 = 2
instance (t : T) : Decidable (flat t) := by unfold flat; exact inferInstance
def dataOf (t : T) : ByteArray := if t.f0 = 0 then t.f1 else if flat t then t.f2 else ⟨#[]⟩
def attrsOf (t : T) : List (ByteArray × ByteArray) := if t.f0 = 0 then t.f3.map fun a => (a.f0, a.f1) else []
def atomOf (t : T) : Int := if t.f0 = 0 then (atom_ZzAtom.f t.f1).getD 0 else 0
def kidsT (t : T) : List T := if flat t then [] else t.f4
structure Match (i : Info) (t : T) : Prop where
  ty : i.ty = tyOf t.f0
  atom : i.atom = atomOf t
  data : i.data = dataOf t
  attrs : i.attrs = attrsOf t
inductive IsT (D : Tab) : Nat → T → Prop
  | mk (b : Nat) (t : T) (i : Info) (h : D b = some i) (hm : Match i t) (hl : i.kids.length = (kidsT t).length) (hk : ∀ j (h1 : j < i.kids.length) (h2 : j < (kidsT t).length), IsT D i.kids[j] (kidsT t)[j]) : IsT D b t
/-- What is in the one table is in the other one, but for who the parent is. -/
def Sub (D D2 : Tab) : Prop := ∀ b i, D b = some i → ∃ p, D2 b = some { i with parent := p }
theorem IsT.mono {D D2 : Tab} (hs : Sub D D2) {b : Nat} {t : T} (h : IsT D b t) : IsT D2 b t := by
  induction h with
  | mk b t i h hm hl hk ih =>
    obtain ⟨p, h2⟩ := hs b i h
    exact IsT.mk b t { i with parent := p } h2 ⟨hm.ty, hm.atom, hm.data, hm.attrs⟩ hl ih
/-- The part of a table that lies above a block. -/
def above (n : Nat) (D : Tab) : Tab := fun x => if n < x then D x else none
theorem above_sub (n : Nat) (D : Tab) : Sub (above n D) D := by
  intro b i h
  unfold above at h
  split at h
  · exact ⟨i.parent, h⟩
  · cases h

/-- One more child. -/
theorem grow {D D' : Tab} {n c : Nat} {i ic : Info} (hn : D n = some i) (hc : D' c = some ic) (hd : ∀ x, D x ≠ none → D' x = none) (hlt : ∀ x, D' x ≠ none → n < x) :
    Sub (above n D) (above n (appended (uni D D') n c i ic)) ∧ Sub D' (above n (appended (uni D D') n c i ic)) := by
  have hcn : n < c := hlt c (by rw [hc]; simp)
  constructor
  · intro b ib hb
    unfold above at hb
    split at hb
    case isFalse => cases hb
    rename_i hnb
    have hbc : b ≠ c := fun e => by
      subst e
      have := hd b (by rw [hb]; simp)
      rw [hc] at this
      cases this
    refine ⟨ib.parent, ?_⟩
    unfold above
    rw [if_pos hnb]
    unfold appended
    rw [put_other _ _ hbc, put_other _ _ (by omega), uni_left hb]
  · intro b ib hb
    have hnb := hlt b (by rw [hb]; simp)
    have hD : D b = none := by
      cases hD : D b with
      | none => rfl
      | some j => have := hd b (by rw [hD]; simp); rw [hb] at this; cases this
    unfold above
    rw [if_pos hnb]
    unfold appended
    by_cases hbc : b = c
    · subst hbc
      rw [hc] at hb
      obtain rfl := Option.some.inj hb
      exact ⟨some n, put_same _ _ _⟩
    · exact ⟨ib.parent, by rw [put_other _ _ hbc, put_other _ _ (by omega), uni_right hD, hb]⟩
end Go.Proofs.Ytibfoaahdbdogaa.Dom

/- What impl.made rests on: leaves, one more attribute. Plain facts and one law. -/
namespace Go.Proofs.Ytibfoaahdbdogaa.Dom
open Go.RowKit Go.Proofs.YtibfoaahdbdogaaW.PrintWords Go.Proofs.YtibfoaahdbdogaaW.PrintLast Go.Proofs.YtibfoaahdbdogaaW.PrintMore Go.Proofs.Ytibfoaahdbdogaa.PDom
set_option linter.unusedVariables false
set_option linter.unusedSimpArgs false

theorem kid_lt {t x : T} (h : x ∈ t.f4) : SizeOf.sizeOf x < SizeOf.sizeOf t := by
  have := List.sizeOf_lt_of_mem h
  cases t
  simp only [S25.mk.sizeOf_spec] at this ⊢
  omega
inductive Fit : T → Prop
  | mk (t : T) (ha : t.f3.length ≤ 4398046510976) (hk : t.f4.length ≤ 4398046510976) (h : ∀ y ∈ t.f4, Fit y) : Fit t

theorem atom_some (s : ByteArray) : atom_ZzAtom.f s = some ((atom_ZzAtom.f s).getD 0) := by
  unfold atom_ZzAtom.f
  repeat' split
  all_goals rfl

/-- One more attribute, as long as a row may come in. -/
theorem attr_step {P : Program} {ops : Array Oper} {o : Oper} {a : Act} {Q : Exit → Act → World → Prop} {K : Act → World → Prop} {E : Prop} {W : World} (hgd : o.guard = none) (s x : Operand) (t : TypeId) (z : Value)
    (ho : o.op = .call { callee := .builtin .append, args := #[s, x], argTypes := #[t, t] })
    (ht : P.underlying t = some (.slice 89)) (hinfo : (P.info? 89).map (fun i => (i.zero, i.size, i.bytes)) = some (some z, 3, 48)) (hz : z.cells.size = 3)
    (B : Nat) (hB : B ≤ W.heap.size) (v : Value) (l : List (ByteArray × ByteArray)) (k u : ByteArray) (bk : Nat) (hs : a.eval s = v) (hx : a.eval x = .slice (some ⟨bk, 0, none⟩) 1 1) (hnew : W.heap[bk]? = some (.cells #[.string ⟨#[]⟩, .string k, .string u] 89 (0, 0))) (HO : kA.R 89 W B (fun _ => True) v l) (hl : l.length ≤ 4398046510976)
    (h : ∀ v1 w1, kA.R 89 w1 B (fun _ => True) v1 (l ++ [(k, u)]) → W.grownBy w1 v.ownBlock → K (a.put o.dst v1) w1) :
    if Region.wanted o (yielded ops a.tmps) = true then Oper.wp P o a W K Q else E := by
  obtain ⟨i0, hi, hzz⟩ := Option.map_eq_some_iff.1 hinfo
  simp only [Prod.mk.injEq] at hzz
  obtain ⟨hz0, hz1, hz2⟩ := hzz
  rw [if_pos (show Region.wanted o (yielded ops a.tmps) = true by simp [Region.wanted, hgd])]
  obtain ⟨h0, inner, hown, hr⟩ := HO
  have hsz : kA.sz = 3 := rfl
  rw [hsz] at hown hr
  refine wp_append_own_wide _ s x t ho B 89 i0 z 3 48 ht hi hz0 hz1 hz2 hz (by omega) v l.length inner hs hown ⟨bk, 0, none⟩ 1 1 [.string ⟨#[]⟩, .string k, .string u] hx rfl
    (by simpa using World.news_of_block (cs := #[.string ⟨#[]⟩, .string k, .string u]) (t := 89) (fr := (0, 0)) hnew)
    (by intro y hy; rcases List.mem_cons.1 hy with rfl | hy; rfl; rcases List.mem_cons.1 hy with rfl | hy; rfl; rcases List.mem_cons.1 hy with rfl | hy; rfl; cases hy) (by simp only [maxLen]; omega) (by omega) hB ?_
  intro v1 w1 hown1 hg _
  refine h v1 w1 ⟨fun _ _ => trivial, inner ++ [.string ⟨#[]⟩, .string k, .string u], by rw [List.length_append, List.length_singleton]; exact hown1, ?_⟩ hg
  exact (hr.imp_ (fun _ _ hq => hq)).snoc ⟨[.string ⟨#[]⟩], [.string k, .string u], rfl, rfl, ⟨[.string k], [.string u], rfl, rfl, rfl⟩⟩ rfl
theorem kept {w8 w9 : World} {o : Obj} {r : Option Nat} (hg : (w8.alloc o).drew.grownBy w9 r) {g : Nat} {x : Obj} (h : w8.heap[g]? = some x) (hne : some g ≠ r) : w9.heap[g]? = some x := by
  have hlt := (Array.getElem?_eq_some_iff.1 h).1
  have h1 := hg.block g (by show g < (w8.heap.push o).size; rw [Array.size_push]; omega) hne
  exact h1.trans ((heap_alloc_old w8 o hlt).trans h)
theorem kept_below {w w8 w9 : World} {o : Obj} {B : Nat} {r : Option Nat} (hg : (w8.alloc o).drew.grownBy w9 r) (hb : Below B w (w8.alloc o)) (hB : B ≤ (w8.alloc o).drew.heap.size) (hr : ∀ k, r = some k → B ≤ k) : Below B w w9 :=
  (below_drew hb).grown hg hB hr
theorem attrR_set {w : World} {B : Nat} {v : Value} {l : List (ByteArray × ByteArray)} (h : kA.R 89 w B (fun _ => True) v l) {g : Nat} {r : Rec} (hg : Has w g r) (j : Nat) (u : Value) : kA.R 89 (w.setCell ⟨g, j, none⟩ u) B (fun _ => True) v l :=
  Kd.R_set h hg (fun q hq => by
    have : q = 89 := by simpa [kA, Kd.iso, Kd.pair, Kd.string, Kd.scalar] using hq
    rw [this]
    decide) j u
theorem Has.put9 {w : World} {b : Nat} {r : Rec} (h : Has w b r) (u : Value) : Has (w.setCell ⟨b, 9, none⟩ u) b { r with attr := u } := h.put 9 u { r with attr := u } rfl
/-- The end of a round: the node has one more attribute. -/
theorem attr_round {w w9 : World} {nb : Nat} {r : Rec} {box : Obj} {v1 : Value} {l : List (ByteArray × ByteArray)} (hnb : w.heap.size < nb) (hx : w9.heap[w.heap.size]? = some box) (hn : Has w9 nb r) (ho : kA.R 89 w9 w.heap.size (fun _ => True) v1 l) (hb : Below w.heap.size w w9) :
    (w9.setCell ⟨nb, 9, none⟩ v1).heap[w.heap.size]? = some box ∧ Has (w9.setCell ⟨nb, 9, none⟩ v1) nb { r with attr := v1 } ∧ kA.R 89 (w9.setCell ⟨nb, 9, none⟩ v1) w.heap.size (fun _ => True) v1 l ∧ Below w.heap.size w (w9.setCell ⟨nb, 9, none⟩ v1) :=
  ⟨(Below.heap_setCell w9 ⟨nb, 9, none⟩ v1 w.heap.size (by show w.heap.size ≠ nb; omega)).trans hx, hn.put9 v1, attrR_set ho hn 9 v1, hb.setCell (p := ⟨nb, 9, none⟩) (by show w.heap.size ≤ nb; omega) v1⟩
theorem wrap_same {x : Int} (h0 : -9223372036854775808 ≤ x) (h1 : x ≤ 9223372036854775807) : wrap64 x = x := by
  unfold wrap64
  omega
theorem wrap_succ (j : Nat) (h : j ≤ 4398046510976) : wrap64 ((j : Int) + 1) = ((j + 1 : Nat) : Int) := by
  rw [wrap_same (by omega) (by omega)]
  omega
theorem infoA : (Try.prog.info? 89).map (fun i => (i.zero, i.size, i.bytes)) = some (some (.agg #[.string ⟨#[]⟩, .string ⟨#[]⟩, .string ⟨#[]⟩]), 3, 48) := by kernel_rfl

structure Made (w w' : World) (b : Nat) (D : Tab) (t : T) : Prop where
  dom : Dom w' D
  tree : IsT D b t
  root : ∀ i, D b = some i → i.parent = none
  fresh : ∀ x, D x ≠ none → w.heap.size ≤ x
  below : Below w.heap.size w w'

theorem two_new (w : World) (o1 o2 : Obj) : ((w.alloc o1).alloc o2).heap[w.heap.size + 1]? = some o2 := by
  show ((w.heap.push o1).push o2)[w.heap.size + 1]? = some o2
  rw [Array.getElem?_push, Array.size_push, if_pos rfl]
theorem two_old (w : World) (o1 o2 : Obj) : ((w.alloc o1).alloc o2).heap[w.heap.size]? = some o1 := by
  show ((w.heap.push o1).push o2)[w.heap.size]? = some o1
  rw [Array.getElem?_push, Array.size_push, if_neg (by omega)]
  simp
theorem leaf (w : World) (o1 : Obj) (t : T) (ty : Int) (hf : flat t) (hty : ty = tyOf t.f0) :
    Made w ((w.alloc o1).alloc (.cells (Rec.cells ⟨none, none, none, none, none, ty, 0, t.f2, .slice none 0 0⟩) 86 (0, 0))) (w.heap.size + 1) (put none_ (w.heap.size + 1) ⟨none, [], ty, 0, t.f2, []⟩) t := by
  have h0 : ¬ t.f0 = 0 := fun e => by rcases hf with h | h <;> omega
  have hD : Dom ((w.alloc o1).alloc (.cells (Rec.cells ⟨none, none, none, none, none, ty, 0, t.f2, .slice none 0 0⟩) 86 (0, 0))) (put none_ (w.heap.size + 1) ⟨none, [], ty, 0, t.f2, []⟩) :=
    Dom.one (two_new w o1 _) (Kd.R_nil kA _ _ _ _)
  refine ⟨hD, ?_, ?_, ?_, below_alloc (below_alloc (Below.refl _ _) _) _⟩
  · refine IsT.mk _ t _ (put_same _ _ _) ⟨hty, ?_, ?_, ?_⟩ ?_ ?_
    · show (0 : Int) = atomOf t
      unfold atomOf
      rw [if_neg h0]
    · show t.f2 = dataOf t
      unfold dataOf
      rw [if_neg h0, if_pos hf]
    · show [] = attrsOf t
      unfold attrsOf
      rw [if_neg h0]
    · show 0 = (kidsT t).length
      unfold kidsT
      rw [if_pos hf]
      rfl
    · intro j h1
      exact absurd h1 (Nat.not_lt_zero _)
  · intro i hi
    rw [put_same] at hi
    obtain rfl := Option.some.inj hi
    rfl
  · intro x hx
    by_cases hxb : x = w.heap.size + 1
    · omega
    · rw [put_other _ _ hxb] at hx
      exact absurd rfl hx

end Go.Proofs.Ytibfoaahdbdogaa.Dom

/- What impl.made's loop over the children keeps. Plain facts on tables. -/
namespace Go.Proofs.Ytibfoaahdbdogaa.Dom
open Go.RowKit Go.Proofs.YtibfoaahdbdogaaW.PrintWords Go.Proofs.YtibfoaahdbdogaaW.PrintLast Go.Proofs.YtibfoaahdbdogaaW.PrintMore Go.Proofs.Ytibfoaahdbdogaa.PDom
set_option linter.unusedVariables false
set_option linter.unusedSimpArgs false

structure Kept (w wr : World) (nb : Nat) (D : Tab) (i : Info) (t : T) (box : Obj) (j : Nat) : Prop where
  dom : Dom wr D
  node : D nb = some i
  root : i.parent = none
  mt : Match i t
  len : i.kids.length = j
  kids : ∀ k (h1 : k < i.kids.length) (h2 : k < t.f4.length), IsT (above nb D) i.kids[k] t.f4[k]
  fresh : ∀ x, D x ≠ none → nb ≤ x
  box : wr.heap[w.heap.size]? = some box
  below : Below w.heap.size w wr

/-- Ahead of the first child. -/
theorem Kept.start {w wr : World} {nb : Nat} {t : T} {box : Obj} {ty atom : Int} {data : ByteArray} {v : Value} {attrs : List (ByteArray × ByteArray)} (hn : Has wr nb ⟨none, none, none, none, none, ty, atom, data, v⟩) (ha : AttrAt wr v attrs)
    (hm : Match ⟨none, [], ty, atom, data, attrs⟩ t) (hx : wr.heap[w.heap.size]? = some box) (hb : Below w.heap.size w wr) : Kept w wr nb (put none_ nb ⟨none, [], ty, atom, data, attrs⟩) ⟨none, [], ty, atom, data, attrs⟩ t box 0 :=
  ⟨Dom.one hn ha, put_same _ _ _, rfl, hm, rfl, fun k h1 => absurd h1 (Nat.not_lt_zero _), fun x hx => by
    by_cases h : x = nb
    · omega
    · rw [put_other _ _ h] at hx
      exact absurd rfl hx, hx, hb⟩

/-- The tables side by side, ahead of AppendChild. -/
theorem Kept.ready {w wr w1 w2 : World} {nb b : Nat} {D D' : Tab} {i : Info} {t x : T} {box : Obj} {j : Nat} (h : Kept w wr nb D i t box j) (h1 : Below wr.heap.size wr w1) (hm : Made w1 w2 b D' x) :
    ∃ ic, D' b = some ic ∧ Dom w2 (uni D D') ∧ uni D D' nb = some i ∧ uni D D' b = some ic ∧ nb ≠ b ∧ ic.parent = none ∧ i.parent ≠ some nb ∧ (∀ y, D y ≠ none → D' y = none) ∧ (∀ y, D' y ≠ none → nb < y) := by
  have hlt : ∀ y, D y ≠ none → y < wr.heap.size := fun y hy => h.dom.lt hy
  have hge : ∀ y, D' y ≠ none → wr.heap.size ≤ y := fun y hy => Nat.le_trans h1.size (hm.fresh y hy)
  have hd : ∀ y, D y ≠ none → D' y = none := by
    intro y hy
    cases hc : D' y with
    | none => rfl
    | some q =>
      have := hge y (by rw [hc]; simp)
      have := hlt y hy
      omega
  have hnb : nb < wr.heap.size := hlt nb (by rw [h.node]; simp)
  obtain ⟨ic, hic⟩ : ∃ ic, D' b = some ic := by
    obtain ⟨_, _, ic, hic, _, _, _⟩ := hm.tree
    exact ⟨ic, hic⟩
  have hb : wr.heap.size ≤ b := hge b (by rw [hic]; simp)
  have hDb : D b = none := by
    cases hc : D b with
    | none => rfl
    | some q =>
      have := hlt b (by rw [hc]; simp)
      omega
  refine ⟨ic, hic, (h.dom.below (h1.trans ?_)).union hm.dom hd, uni_left h.node, by rw [uni_right hDb]; exact hic, by omega, hm.root ic hic, by rw [h.root]; simp, hd, fun y hy => by have := hge y hy; omega⟩
  exact ⟨hm.below.os, hm.below.tape, hm.below.output, hm.below.size, fun k hk => hm.below.block k (Nat.lt_of_lt_of_le hk h1.size)⟩

/-- Behind AppendChild. -/
theorem Kept.step {w wr w1 w2 w3 : World} {nb b : Nat} {D D' : Tab} {i ic : Info} {t : T} {box : Obj} {j : Nat} (h : Kept w wr nb D i t box j) (hnb : w.heap.size < nb) (hj : j < t.f4.length) (h1 : Below wr.heap.size wr w1) (hm : Made w1 w2 b D' t.f4[j])
    (hic : D' b = some ic) (hd : ∀ y, D y ≠ none → D' y = none) (hlt : ∀ y, D' y ≠ none → nb < y) (hdom : Dom w3 (appended (uni D D') nb b i ic)) (ho : Only (uni D D') w2 w3) :
    Kept w w3 nb (appended (uni D D') nb b i ic) { i with kids := i.kids ++ [b] } t box (j + 1) := by
  have hbn : b ≠ nb := by have := hlt b (by rw [hic]; simp); omega
  obtain ⟨g1, g2⟩ := grow (n := nb) (c := b) h.node hic hd hlt
  have hlen : ∀ y, uni D D' y ≠ none → nb ≤ y := by
    intro y hy
    cases hD : D y with
    | some q => exact h.fresh y (by rw [hD]; simp)
    | none =>
      rw [uni_right hD] at hy
      exact Nat.le_of_lt (hlt y hy)
  have hB2 : Below w.heap.size w w2 := by
    have a1 : Below w.heap.size w w1 := below_step h.below h1
    exact below_step a1 hm.below
  have hB3 : Below w.heap.size w2 w3 := ho.below hB2.size (fun k hk => by
    cases hc : uni D D' k with
    | none => rfl
    | some q => have := hlen k (by rw [hc]; simp); omega)
  have hwr : w.heap.size < wr.heap.size := (Array.getElem?_eq_some_iff.1 h.box).1
  refine ⟨hdom, ?_, h.root, ⟨h.mt.ty, h.mt.atom, h.mt.data, h.mt.attrs⟩, ?_, ?_, ?_, ?_, hB2.trans hB3⟩
  · unfold appended
    rw [put_other _ _ (Ne.symm hbn), put_same]
  · show (i.kids ++ [b]).length = j + 1
    rw [List.length_append, List.length_singleton, h.len]
  · intro k k1 k2
    by_cases hk : k < i.kids.length
    · have e : (i.kids ++ [b])[k]'(by simpa using k1) = i.kids[k] := List.getElem_append_left hk
      show IsT _ ((i.kids ++ [b])[k]'(by simpa using k1)) _
      rw [e]
      exact (h.kids k hk k2).mono g1
    · have hkj : k = j := by
        have : k < (i.kids ++ [b]).length := k1
        rw [List.length_append, List.length_singleton, h.len] at this
        have := h.len
        omega
      subst hkj
      have e : (i.kids ++ [b])[k]'(by simpa using k1) = b := by
        rw [List.getElem_append_right (by omega)]
        simp [h.len]
      show IsT _ ((i.kids ++ [b])[k]'(by simpa using k1)) _
      rw [e]
      exact hm.tree.mono g2
  · intro y hy
    by_cases hyb : y = b
    · subst hyb
      exact Nat.le_of_lt (hlt y (by rw [hic]; simp))
    · by_cases hyn : y = nb
      · omega
      · unfold appended at hy
        rw [put_other _ _ hyb, put_other _ _ hyn] at hy
        exact hlen y hy
  · have e1 : w1.heap[w.heap.size]? = some box := (h1.block _ hwr).trans h.box
    have e2 : w2.heap[w.heap.size]? = some box := (hm.below.block _ (Nat.lt_of_lt_of_le hwr h1.size)).trans e1
    have l2 : w.heap.size < w2.heap.size := (Array.getElem?_eq_some_iff.1 e2).1
    refine (ho.block _ l2 ?_).trans e2
    cases hc : uni D D' w.heap.size with
    | none => rfl
    | some q => have := hlen w.heap.size (by rw [hc]; simp); omega

/-- Behind the last child. -/
theorem Kept.done {w wr : World} {nb : Nat} {D : Tab} {i : Info} {t : T} {box : Obj} (h : Kept w wr nb D i t box t.f4.length) (hnb : w.heap.size < nb) (hf : ¬ flat t) : Made w wr nb D t := by
  have hk : kidsT t = t.f4 := if_neg hf
  refine ⟨h.dom, IsT.mk nb t i h.node h.mt (by rw [hk]; exact h.len) ?_, fun i' hi' => ?_, fun x hx => Nat.le_trans (Nat.le_of_lt hnb) (h.fresh x hx), h.below⟩
  · intro k k1 k2
    have k3 : k < t.f4.length := by rw [hk] at k2; exact k2
    have e : (kidsT t)[k] = t.f4[k] := by simp only [hk]
    rw [e]
    exact (h.kids k k1 k3).mono (above_sub nb D)
  · rw [h.node] at hi'
    obtain rfl := Option.some.inj hi'
    exact h.root
end Go.Proofs.Ytibfoaahdbdogaa.Dom

/- impl.made: a tree's nodes, as a table. -/
namespace Go.Proofs.Ytibfoaahdbdogaa.Dom
open Go.RowKit Go.Proofs.YtibfoaahdbdogaaW.PrintWords Go.Proofs.YtibfoaahdbdogaaW.PrintLast Go.Proofs.YtibfoaahdbdogaaW.PrintMore Go.Proofs.Ytibfoaahdbdogaa.PDom
set_option linter.unusedVariables false
set_option linter.unusedSimpArgs false

set_option maxHeartbeats 4000000 in
set_option maxRecDepth 100000 in
theorem made_calls : ∀ (n : Nat) (t : T), SizeOf.sizeOf t ≤ n → Fit t → ∀ (w : World) (A3 : Option Addr) (c3 : Nat) (A4 : Option Addr) (c4 : Nat), k78.C w A3 t.f3.length t.f3 → t.f3.length ≤ c3 → k25.C w A4 t.f4.length t.f4 → t.f4.length ≤ c4 →
    Calls Try.prog 37 #[.agg #[.int .i64 t.f0, .string t.f1, .string t.f2, .slice A3 t.f3.length c3, .slice A4 t.f4.length c4]] w fun e w' => ∃ b D, e = .returned (ptr (some b)) ∧ Made w w' b D t := by
  intro n
  induction n with
  | zero =>
    intro t h
    cases t
    simp at h
  | succ n ih =>
    intro t hsz hfit w A3 c3 A4 c4 h3 l3 h4 l4
    obtain ⟨f0, f1, f2, f3, f4⟩ := t
    simp only at h3 l3 h4 l4 ⊢
    have HSZ := Aside0.mk hsz
    have HFIT := Aside0.mk hfit
    have H3 := Aside0.mk h3
    have H4 := Aside0.mk h4
    have L3 := Aside0.mk l3
    have L4 := Aside0.mk l4
    have IH := Aside0.mk ih
    clear hsz hfit h3 h4 l3 l4 ih
    by_cases k1 : f0 = 1
    · subst k1
      go_enter Try.func37, Try.ntmps37
      go_wp2
      go_ret
      exact ⟨_, _, rfl, leaf w _ ⟨1, f1, f2, f3, f4⟩ 1 (.inl rfl) rfl⟩
    · by_cases k2 : f0 = 2
      · subst k2
        go_enter Try.func37, Try.ntmps37
        go_wp2
        go_ret
        exact ⟨_, _, rfl, leaf w _ ⟨2, f1, f2, f3, f4⟩ 4 (.inr rfl) rfl⟩
      · by_cases k0 : f0 = 0
        · subst k0
          go_enter Try.func37, Try.ntmps37
          have ht := atom_some f1
          generalize (atom_ZzAtom.f f1).getD 0 = at_ at ht
          have HT := Aside0.mk ht
          clear ht
          go_wp2_with fail
          generalize hw1 : w.alloc (Obj.cells #[Value.int IntKind.i64 0, Value.string f1, Value.string f2, Value.slice A3 f3.length c3, Value.slice A4 f4.length c4] 25) = w1
          have hb1 : w1.cell? ⟨w.heap.size, 1, none⟩ = some (.string f1) := by rw [← hw1]; simp
          go_cut [3] (fun v3 wx => ∃ m : Nat, v3 = .pointer (some ⟨w1.heap.size, 0, none⟩) ∧ wx = (w1.drewN m).alloc (Obj.cells (Rec.cells ⟨none, none, none, none, none, 3, at_, f1, .slice none 0 0⟩) 86))
          case first =>
            go_region_with (go_at_call 57; refine (atom_ZzAtom.calls f1 _ _ HT.out).mono ?_; rintro e w' ⟨rfl, ⟨nd, rfl⟩⟩)
            all_goals (go_wp2_with fail; go_meet; exact ⟨_, rfl, rfl⟩)
          case rest =>
            obtain ⟨m, rfl, rfl⟩ := hcut
            have hs1 : w1.heap.size = w.heap.size + 1 := by rw [← hw1]; show (w.heap.push _).size = _; rw [Array.size_push]
            rw [hs1]
            have hbx : ((w1.drewN m).alloc (Obj.cells (Rec.cells ⟨none, none, none, none, none, 3, at_, f1, .slice none 0 0⟩) 86)).heap[w.heap.size]? = some (.cells #[Value.int IntKind.i64 0, Value.string f1, Value.string f2, Value.slice A3 f3.length c3, Value.slice A4 f4.length c4] 25 (0, 0)) := by
              rw [heap_alloc_old (w1.drewN m) _ (show w.heap.size < w1.heap.size by omega)]
              show w1.heap[w.heap.size]? = _
              rw [← hw1]
              exact heap_alloc_new w _
            have hnd : Has ((w1.drewN m).alloc (Obj.cells (Rec.cells ⟨none, none, none, none, none, 3, at_, f1, .slice none 0 0⟩) 86)) (w.heap.size + 1) ⟨none, none, none, none, none, 3, at_, f1, .slice none 0 0⟩ := by
              rw [← hs1]
              exact heap_alloc_new (w1.drewN m) _
            have hbl : Below w.heap.size w ((w1.drewN m).alloc (Obj.cells (Rec.cells ⟨none, none, none, none, none, 3, at_, f1, .slice none 0 0⟩) 86)) := by
              rw [← hw1]
              exact below_alloc (pw_below_drewN (below_alloc (Below.refl _ _) _) m) _
            generalize (w1.drewN m).alloc (Obj.cells (Rec.cells ⟨none, none, none, none, none, 3, at_, f1, .slice none 0 0⟩) 86) = W at *
            have x3 : W.cell? ⟨w.heap.size, 3, none⟩ = some (Value.slice A3 f3.length c3) := by rw [blk_cell hbx]; rfl
            have HBX := Aside0.mk hbx
            have HND := Aside0.mk hnd
            have HBL := Aside0.mk hbl
            clear hbx hnd hbl hs1 hb1 hw1
            go_wp2_with fail
            go_loopw [24] (fun i wr => ∃ (j : Nat) (v : Value), i = .int .i64 j ∧ j ≤ f3.length ∧ Aside0 (wr.heap[w.heap.size]? = some (.cells #[Value.int IntKind.i64 0, Value.string f1, Value.string f2, Value.slice A3 f3.length c3, Value.slice A4 f4.length c4] 25 (0, 0))) ∧ Aside0 (Has wr (w.heap.size + 1) ⟨none, none, none, none, none, 3, at_, f1, v⟩) ∧ Aside0 (kA.R 89 wr w.heap.size (fun _ => True) v ((f3.map fun a => (a.f0, a.f1)).take j)) ∧ Aside0 (Below w.heap.size w wr)) (fun i _ => f3.length - (intOf i).toNat)
            case atStart => exact ⟨0, _, rfl, Nat.zero_le _, HBX, HND, ⟨Kd.R_nil kA _ _ _ _⟩, HBL⟩
            case round =>
              obtain ⟨j, v, rfl, hj, HX, HN, HA, HB⟩ := hrel
              by_cases hlt : j < f3.length
              · obtain ⟨ad, rfl, hx0, hx1⟩ := at_T78 (Kd.C_below H3.out HB.out) (j : Int) (by omega) (by omega)
                simp only [Int.toNat_natCast] at hx0 hx1
                have he : rd_T78 f3 (j : Int) = f3[j] := by simp [rd_T78, List.getD_eq_getElem?_getD, List.getElem?_eq_getElem hlt]
                have hsn : (f3.map fun a => (a.f0, a.f1)).take (j + 1) = (f3.map fun a => (a.f0, a.f1)).take j ++ [(f3[j].f0, f3[j].f1)] := by
                  rw [List.take_succ_eq_append_getElem (by rw [List.length_map]; exact hlt), List.getElem_map]
                rw [he] at hx0 hx1
                generalize f3[j] = q at hx0 hx1 hsn
                obtain ⟨q0, q1⟩ := q
                simp only at hx0 hx1 hsn
                have HSN := Aside0.mk hsn
                clear he hsn
                go_wp2_with fail
                have hcp : (wr.alloc (Obj.cells #[Value.string q0, Value.string q1] 78)).heap[wr.heap.size]? = some (.cells #[Value.string q0, Value.string q1] 78 (0, 0)) := heap_alloc_new wr _
                have HB8 := Aside0.mk (below_alloc (Below.refl wr.heap.size wr) (Obj.cells #[Value.string q0, Value.string q1] 78))
                generalize wr.alloc (Obj.cells #[Value.string q0, Value.string q1] 78) = w8 at *
                have HN8 := Aside0.mk (HN.out.of_heap (HB8.out.block _ HN.out.lt))
                have n9' : w8.cell? ⟨w.heap.size + 1, 9, none⟩ = some v := HN8.out.cell 9
                have e0 : w8.cell? ⟨wr.heap.size, 0, none⟩ = some (.string q0) := by rw [blk_cell hcp]; rfl
                have e1 : w8.cell? ⟨wr.heap.size, 1, none⟩ = some (.string q1) := by rw [blk_cell hcp]; rfl
                have HA8 := Aside0.mk (Kd.R_below HA.out HB8.out)
                have f9' := HN8.out.frozen 9
                have hlj : ((f3.map fun a => (a.f0, a.f1)).take j).length ≤ 4398046510976 := by
                  obtain ⟨_, ha, _, _⟩ := HFIT.out
                  rw [List.length_take, List.length_map]
                  simp only at ha
                  omega
                have hnew : (w8.alloc (Obj.cells #[.string ⟨#[]⟩, .string q0, .string q1] 89)).heap[w8.heap.size]? = some (.cells #[.string ⟨#[]⟩, .string q0, .string q1] 89 (0, 0)) := heap_alloc_new w8 _
                have HNEW := Aside0.mk hnew
                have HA9 := Aside0.mk (Kd.R_below HA8.out (below_alloc (Below.refl w8.heap.size w8) (Obj.cells #[.string ⟨#[]⟩, .string q0, .string q1] 89)))
                clear hnew
                have hsz8 : w.heap.size ≤ (w8.alloc (Obj.cells #[.string ⟨#[]⟩, .string q0, .string q1] 89)).drew.heap.size := by
                  show w.heap.size ≤ (w8.heap.push _).size
                  rw [Array.size_push]
                  have := HB.out.size
                  have := HB8.out.size
                  omega
                have HSZ8 := Aside0.mk hsz8
                have HX8 := Aside0.mk ((HB8.out.block _ (Array.getElem?_eq_some_iff.1 HX.out).1).trans HX.out)
                have HB88 := Aside0.mk (below_alloc (below_step HB.out HB8.out) (Obj.cells #[.string ⟨#[]⟩, .string q0, .string q1] 89))
                have HNE := Aside0.mk (Kd.R_ne HA8.out HN8.out (by decide))
                have HNE2 := Aside0.mk (Kd.R_ne HA8.out HX8.out (by decide))
                have HBS := Aside0.mk (Kd.R_base HA8.out)
                clear hsz8
                have HLEN := Aside0.mk (show ((f3.map fun a => (a.f0, a.f1)).take j ++ [(q0, q1)]).length = j + 1 by rw [List.length_append, List.length_singleton, List.length_take, List.length_map]; omega)
                have HWJ := Aside0.mk (wrap_succ j (by obtain ⟨_, ha, _, _⟩ := HFIT.out; simp only at ha; omega))
                have n9s : (w8.alloc (Obj.cells #[.string ⟨#[]⟩, .string q0, .string q1] 89)).cell? ⟨w.heap.size + 1, 9, none⟩ = some v := by
                  have h := (heap_alloc_old w8 (Obj.cells #[.string ⟨#[]⟩, .string q0, .string q1] 89) HN8.out.lt).trans HN8.out
                  exact Has.cell h 9
                go_region_law (refine attr_step rfl (.tmp 32) (.tmp 38) 84 (.agg #[.string ⟨#[]⟩, .string ⟨#[]⟩, .string ⟨#[]⟩]) rfl Try.underlying84 infoA rfl w.heap.size HSZ8.out v ((f3.map fun a => (a.f0, a.f1)).take j) q0 q1 w8.heap.size (by simp [Act.eval, Act.put]) (by simp [Act.eval, Act.put]) HNEW.out (by exact HA9.out) hlj ?_; intro v1 w9 ho hg; obtain ⟨A9, c9, hv9⟩ := Kd.R_slice ho; rw [HLEN.out] at hv9; subst hv9; have HN9 := Aside0.mk (kept hg HN8.out HNE.out); have HX9 := Aside0.mk (kept hg HX8.out HNE2.out); have HB9 := Aside0.mk (kept_below hg HB88.out HSZ8.out HBS.out); have HO9 := Aside0.mk (attr_round (Nat.lt_succ_self _) HX9.out HN9.out ho HB9.out); clear ho hg; have n9x : w9.cell? ⟨w.heap.size + 1, 9, none⟩ = some v := Has.cell HN9.out 9; have f9x := Has.frozen HN9.out 9)
                all_goals (simp only [Exit.inBlock, Exit.then]; go_wp2_with fail; go_roundw)
                all_goals first
                  | exact ⟨j + 1, _, by rw [HWJ.out], by omega, ⟨HO9.out.1⟩, ⟨HO9.out.2.1⟩, ⟨by rw [HSN.out]; exact HO9.out.2.2.1⟩, ⟨HO9.out.2.2.2⟩⟩
                  | (rw [HWJ.out]; simp [intOf]; omega)
                  | trace_state
              · have hje : j = f3.length := by omega
                subst hje
                have HK := Aside0.mk (Kept.start (t := ⟨0, f1, f2, f3, f4⟩) HN.out (Kd.R_lower HA.out (Nat.zero_le _)) ⟨rfl, (by show at_ = atomOf _; unfold atomOf; rw [if_pos rfl, HT.out]; rfl), rfl, (by show _ = attrsOf _; unfold attrsOf; rw [if_pos rfl, List.take_of_length_le (by rw [List.length_map]; exact Nat.le_refl _)])⟩ HX.out HB.out)
                have x4 : wr.cell? ⟨w.heap.size, 4, none⟩ = some (.slice A4 f4.length c4) := by rw [blk_cell HX.out]; rfl
                clear HX HN HA HB
                go_wp2_with fail
                go_loopw [58] (fun i wr => ∃ (j : Nat) (D : Tab) (i0 : Info), i = .int .i64 j ∧ j ≤ f4.length ∧ Aside0 (Kept w wr (w.heap.size + 1) D i0 ⟨0, f1, f2, f3, f4⟩ (.cells #[Value.int IntKind.i64 0, Value.string f1, Value.string f2, Value.slice A3 f3.length c3, Value.slice A4 f4.length c4] 25 (0, 0)) j)) (fun i _ => f4.length - (intOf i).toNat)
                case atStart => exact ⟨0, _, _, rfl, Nat.zero_le _, HK⟩
                case round =>
                  obtain ⟨j, D, i0, rfl, hj, HK⟩ := hrel
                  by_cases hlt : j < f4.length
                  · obtain ⟨ad, A5, c5, A6, c6, rfl, y0, y1, y2, y3, y4, m3, g3, m4, g4⟩ := at_T25 (Kd.C_below H4.out HK.out.below) (j : Int) (by omega) (by omega)
                    have he : rd_T25 f4 (j : Int) = f4[j] := by simp [rd_T25, List.getD_eq_getElem?_getD, List.getElem?_eq_getElem hlt]
                    rw [he] at y0 y1 y2 y3 y4 m3 g3 m4 g4
                    simp only [Int.toNat_natCast] at y0 y1 y2 y3 y4
                    have hq : f4[j] ∈ f4 := List.getElem_mem _
                    have hfq : Fit f4[j] := by obtain ⟨_, _, _, hk⟩ := HFIT.out; exact hk _ hq
                    have hsq : SizeOf.sizeOf f4[j] ≤ n := by have h1 := kid_lt (t := ⟨0, f1, f2, f3, f4⟩) hq; have h2 := HSZ.out; omega
                    have hget : f4[j] = (⟨0, f1, f2, f3, f4⟩ : T).f4[j] := rfl
                    generalize hqe : f4[j] = q at *
                    have HQE := Aside0.mk hqe
                    obtain ⟨q0, q1, q2, q3, q4⟩ := q
                    simp only at y0 y1 y2 y3 y4 m3 g3 m4 g4
                    have HFQ := Aside0.mk hfq
                    have HSQ := Aside0.mk hsq
                    have G3 := Aside0.mk g3
                    have G4 := Aside0.mk g4
                    have M3 := Aside0.mk m3
                    have M4 := Aside0.mk m4
                    have HWJ := Aside0.mk (wrap_succ j (by obtain ⟨_, _, ha, _⟩ := HFIT.out; simp only at ha; omega))
                    clear he hq hfq hsq hqe m3 g3 m4 g4 hget
                    go_wp2_with fail
                    have HB1 := Aside0.mk (below_alloc (Below.refl wr.heap.size wr) (Obj.cells #[Value.int IntKind.i64 q0, Value.string q1, Value.string q2, Value.slice A5 q3.length c5, Value.slice A6 q4.length c6] 25))
                    refine (IH.out ⟨q0, q1, q2, q3, q4⟩ HSQ.out HFQ.out _ A5 c5 A6 c6 (Kd.C_below G3.out HB1.out) M3.out (Kd.C_below G4.out HB1.out) M4.out).mono ?_
                    rintro e w2 ⟨b, D', rfl, hm⟩
                    have HM := Aside0.mk hm
                    clear hm
                    obtain ⟨ic, hic, hu, hun, hub, hne, hroot, hself, hd, hlt2⟩ := HK.out.ready HB1.out HM.out
                    have RD := Aside0.mk (append_calls w2 (uni D D') (w.heap.size + 1) b i0 ic hu hun hub hne hroot hself)
                    have RS := Aside0.mk (fun w3 => Kept.step (w3 := w3) HK.out (Nat.lt_succ_self _) hlt HB1.out (by rw [← HQE.out] at HM; exact HM.out) hic hd hlt2)
                    clear hic hu hun hub hne hroot hself hd hlt2
                    simp only [ptr] at RD
                    go_wp2_with fail
                    refine RD.out.mono ?_
                    rintro e w3 ⟨rfl, hdom, ho⟩
                    have HK3 := Aside0.mk (RS.out w3 hdom ho)
                    clear hdom ho
                    go_wp2_with fail
                    go_roundw
                    case rel => exact ⟨j + 1, _, _, by rw [HWJ.out], by omega, HK3⟩
                    case measure => rw [HWJ.out]; simp [intOf]; omega
                  · have hje : j = f4.length := by omega
                    subst hje
                    go_wp2_with fail
                    go_ret
                    exact ⟨_, _, rfl, HK.out.done (Nat.lt_succ_self _) (by unfold flat; simp only; omega)⟩
        · have b0 : (f0 == 0) = false := by simp [k0]
          have b1 : (f0 == 1) = false := by simp [k1]
          have b2 : (f0 == 2) = false := by simp [k2]
          have hbx := two_old w (Obj.cells #[Value.int IntKind.i64 f0, Value.string f1, Value.string f2, Value.slice A3 f3.length c3, Value.slice A4 f4.length c4] 25) (Obj.cells #[Value.pointer none, Value.pointer none, Value.pointer none, Value.pointer none, Value.pointer none, Value.int IntKind.u32 2, Value.int IntKind.u32 0, Value.string ⟨#[]⟩, Value.string ⟨#[]⟩, Value.slice none 0 0] 86)
          have hnd : Has ((w.alloc (Obj.cells #[Value.int IntKind.i64 f0, Value.string f1, Value.string f2, Value.slice A3 f3.length c3, Value.slice A4 f4.length c4] 25)).alloc (Obj.cells #[Value.pointer none, Value.pointer none, Value.pointer none, Value.pointer none, Value.pointer none, Value.int IntKind.u32 2, Value.int IntKind.u32 0, Value.string ⟨#[]⟩, Value.string ⟨#[]⟩, Value.slice none 0 0] 86)) (w.heap.size + 1) ⟨none, none, none, none, none, 2, 0, ⟨#[]⟩, .slice none 0 0⟩ := two_new w (Obj.cells #[Value.int IntKind.i64 f0, Value.string f1, Value.string f2, Value.slice A3 f3.length c3, Value.slice A4 f4.length c4] 25) (Obj.cells #[Value.pointer none, Value.pointer none, Value.pointer none, Value.pointer none, Value.pointer none, Value.int IntKind.u32 2, Value.int IntKind.u32 0, Value.string ⟨#[]⟩, Value.string ⟨#[]⟩, Value.slice none 0 0] 86)
          have hbl : Below w.heap.size w ((w.alloc (Obj.cells #[Value.int IntKind.i64 f0, Value.string f1, Value.string f2, Value.slice A3 f3.length c3, Value.slice A4 f4.length c4] 25)).alloc (Obj.cells #[Value.pointer none, Value.pointer none, Value.pointer none, Value.pointer none, Value.pointer none, Value.int IntKind.u32 2, Value.int IntKind.u32 0, Value.string ⟨#[]⟩, Value.string ⟨#[]⟩, Value.slice none 0 0] 86)) := below_alloc (below_alloc (Below.refl _ _) _) _
          have hfl : ¬ flat (⟨f0, f1, f2, f3, f4⟩ : T) := by unfold flat; simp only; omega
          have HK := Aside0.mk (Kept.start (t := ⟨f0, f1, f2, f3, f4⟩) hnd (Kd.R_nil kA _ _ _ _) ⟨(by show (2 : Int) = tyOf f0; unfold tyOf; rw [if_neg k0, if_neg k1, if_neg k2]), (by show (0 : Int) = atomOf _; unfold atomOf; rw [if_neg k0]), (by show _ = dataOf _; unfold dataOf; rw [if_neg k0, if_neg hfl]), (by show _ = attrsOf _; unfold attrsOf; rw [if_neg k0])⟩ hbx hbl)
          clear hbx hnd hbl hfl
          go_enter Try.func37, Try.ntmps37
          go_wp2_with fail
          go_loopw [58] (fun i wr => ∃ (j : Nat) (D : Tab) (i0 : Info), i = .int .i64 j ∧ j ≤ f4.length ∧ Aside0 (Kept w wr (w.heap.size + 1) D i0 ⟨f0, f1, f2, f3, f4⟩ (.cells #[Value.int IntKind.i64 f0, Value.string f1, Value.string f2, Value.slice A3 f3.length c3, Value.slice A4 f4.length c4] 25 (0, 0)) j)) (fun i _ => f4.length - (intOf i).toNat)
          case atStart => exact ⟨0, _, _, rfl, Nat.zero_le _, HK⟩
          case round =>
            obtain ⟨j, D, i0, rfl, hj, HK⟩ := hrel
            by_cases hlt : j < f4.length
            · obtain ⟨ad, A5, c5, A6, c6, rfl, y0, y1, y2, y3, y4, m3, g3, m4, g4⟩ := at_T25 (Kd.C_below H4.out HK.out.below) (j : Int) (by omega) (by omega)
              have he : rd_T25 f4 (j : Int) = f4[j] := by simp [rd_T25, List.getD_eq_getElem?_getD, List.getElem?_eq_getElem hlt]
              rw [he] at y0 y1 y2 y3 y4 m3 g3 m4 g4
              simp only [Int.toNat_natCast] at y0 y1 y2 y3 y4
              have hq : f4[j] ∈ f4 := List.getElem_mem _
              have hfq : Fit f4[j] := by obtain ⟨_, _, _, hk⟩ := HFIT.out; exact hk _ hq
              have hsq : SizeOf.sizeOf f4[j] ≤ n := by have h1 := kid_lt (t := ⟨f0, f1, f2, f3, f4⟩) hq; have h2 := HSZ.out; omega
              have hget : f4[j] = (⟨f0, f1, f2, f3, f4⟩ : T).f4[j] := rfl
              generalize hqe : f4[j] = q at *
              have HQE := Aside0.mk hqe
              obtain ⟨q0, q1, q2, q3, q4⟩ := q
              simp only at y0 y1 y2 y3 y4 m3 g3 m4 g4
              have HFQ := Aside0.mk hfq
              have HSQ := Aside0.mk hsq
              have G3 := Aside0.mk g3
              have G4 := Aside0.mk g4
              have M3 := Aside0.mk m3
              have M4 := Aside0.mk m4
              have HWJ := Aside0.mk (wrap_succ j (by obtain ⟨_, _, ha, _⟩ := HFIT.out; simp only at ha; omega))
              clear he hq hfq hsq hqe m3 g3 m4 g4 hget
              go_wp2_with fail
              have HB1 := Aside0.mk (below_alloc (Below.refl wr.heap.size wr) (Obj.cells #[Value.int IntKind.i64 q0, Value.string q1, Value.string q2, Value.slice A5 q3.length c5, Value.slice A6 q4.length c6] 25))
              refine (IH.out ⟨q0, q1, q2, q3, q4⟩ HSQ.out HFQ.out _ A5 c5 A6 c6 (Kd.C_below G3.out HB1.out) M3.out (Kd.C_below G4.out HB1.out) M4.out).mono ?_
              rintro e w2 ⟨b, D', rfl, hm⟩
              have HM := Aside0.mk hm
              clear hm
              obtain ⟨ic, hic, hu, hun, hub, hne, hroot, hself, hd, hlt2⟩ := HK.out.ready HB1.out HM.out
              have RD := Aside0.mk (append_calls w2 (uni D D') (w.heap.size + 1) b i0 ic hu hun hub hne hroot hself)
              have RS := Aside0.mk (fun w3 => Kept.step (w3 := w3) HK.out (Nat.lt_succ_self _) hlt HB1.out (by rw [← HQE.out] at HM; exact HM.out) hic hd hlt2)
              clear hic hu hun hub hne hroot hself hd hlt2
              simp only [ptr] at RD
              go_wp2_with fail
              refine RD.out.mono ?_
              rintro e w3 ⟨rfl, hdom, ho⟩
              have HK3 := Aside0.mk (RS.out w3 hdom ho)
              clear hdom ho
              go_wp2_with fail
              go_roundw
              case rel => exact ⟨j + 1, _, _, by rw [HWJ.out], by omega, HK3⟩
              case measure => rw [HWJ.out]; simp [intOf]; omega
            · have hje : j = f4.length := by omega
              subst hje
              go_wp2_with fail
              go_ret
              exact ⟨_, _, rfl, HK.out.done (Nat.lt_succ_self _) (by unfold flat; simp only; omega)⟩
end Go.Proofs.Ytibfoaahdbdogaa.Dom

/- dom.NodeName of a node of a table. -/
namespace Go.Proofs.Ytibfoaahdbdogaa.Dom
open Go.RowKit Go.Proofs.YtibfoaahdbdogaaW.PrintWords Go.Proofs.YtibfoaahdbdogaaW.PrintLast Go.Proofs.YtibfoaahdbdogaaW.PrintMore Go.Proofs.Ytibfoaahdbdogaa.PDom
set_option linter.unusedVariables false
set_option linter.unusedSimpArgs false

abbrev docName : ByteArray := ⟨#[35, 100, 111, 99, 117, 109, 101, 110, 116]⟩
abbrev textName : ByteArray := ⟨#[35, 116, 101, 120, 116]⟩
abbrev commentName : ByteArray := ⟨#[35, 99, 111, 109, 109, 101, 110, 116]⟩
abbrev errorName : ByteArray := ⟨#[35, 101, 114, 114, 111, 114]⟩
def nameOf (i : Info) : ByteArray := if i.ty = 0 then errorName else if i.ty = 1 then textName else if i.ty = 2 then docName else if i.ty = 4 then commentName else if i.ty = 5 then i.data else if i.ty = 3 then i.data else ⟨#[]⟩
theorem node_calls (w : World) (D : Tab) (b : Nat) (i : Info) (h : Dom w D) (hb : D b = some i) :
    Calls Try.prog 36 #[ptr (some b)] w fun e w' => e = .returned (.string (nameOf i)) ∧ w' = w := by
  obtain ⟨v, hH, _⟩ := h.has hb
  have c5 : w.cell? ⟨b, 5, none⟩ = some (.int .u32 i.ty) := hH.cell 5
  have c7 : w.cell? ⟨b, 7, none⟩ = some (.string i.data) := hH.cell 7
  unfold nameOf ptr
  clear hH h hb
  generalize i.data = d at *
  generalize i.ty = y at *
  by_cases h0 : y = 0
  · subst h0
    go_enter Try.func36, Try.ntmps36
    go_wp2; go_ret; exact ⟨rfl, rfl⟩
  · by_cases h1 : y = 1
    · subst h1
      go_enter Try.func36, Try.ntmps36
      go_wp2; go_ret; exact ⟨rfl, rfl⟩
    · by_cases h2 : y = 2
      · subst h2
        go_enter Try.func36, Try.ntmps36
        go_wp2; go_ret; exact ⟨rfl, rfl⟩
      · by_cases h4 : y = 4
        · subst h4
          go_enter Try.func36, Try.ntmps36
          go_wp2; go_ret; exact ⟨rfl, rfl⟩
        · by_cases h5 : y = 5
          · subst h5
            go_enter Try.func36, Try.ntmps36
            go_wp2; go_ret; exact ⟨rfl, rfl⟩
          · by_cases h3 : y = 3
            · subst h3
              go_enter Try.func36, Try.ntmps36
              go_wp2; go_ret; exact ⟨rfl, rfl⟩
            · have b0 : (y == 0) = false := by simp [h0]
              have b1 : (y == 1) = false := by simp [h1]
              have b2 : (y == 2) = false := by simp [h2]
              have b3 : (y == 3) = false := by simp [h3]
              have b4 : (y == 4) = false := by simp [h4]
              have b5 : (y == 5) = false := by simp [h5]
              rw [if_neg h0, if_neg h1, if_neg h2, if_neg h4, if_neg h5, if_neg h3]
              go_enter Try.func36, Try.ntmps36
              go_wp2; go_ret; exact ⟨rfl, rfl⟩
end Go.Proofs.Ytibfoaahdbdogaa.Dom

/- Trees of nodes, each with its block: what a table holds of one, its nodes in order, their places. Plain facts on tables. -/
namespace Go.Proofs.Ytibfoaahdbdogaa.Dom
open Go.RowKit Go.Proofs.YtibfoaahdbdogaaW.PrintWords Go.Proofs.YtibfoaahdbdogaaW.PrintLast Go.Proofs.YtibfoaahdbdogaaW.PrintMore Go.Proofs.Ytibfoaahdbdogaa.PDom
set_option linter.unusedVariables false
set_option linter.unusedSimpArgs false

inductive RT where
  | node (id : Nat) (ty atom : Int) (data : ByteArray) (attrs : List (ByteArray × ByteArray)) (kids : List RT) : RT
namespace RT
def id : RT → Nat | node i _ _ _ _ _ => i
def ty : RT → Int | node _ t _ _ _ _ => t
def atom : RT → Int | node _ _ a _ _ _ => a
def data : RT → ByteArray | node _ _ _ d _ _ => d
def attrs : RT → List (ByteArray × ByteArray) | node _ _ _ _ a _ => a
def kids : RT → List RT | node _ _ _ _ _ k => k
def info (p : Option Nat) : RT → Info | node _ t a d at_ ks => ⟨p, ks.map RT.id, t, a, d, at_⟩
theorem induct {P : RT → Prop} (h : ∀ i t a d at_ ks, (∀ k ∈ ks, P k) → P (node i t a d at_ ks)) : ∀ r, P r := by
  intro r
  refine RT.rec (motive_1 := P) (motive_2 := fun l => ∀ k ∈ l, P k) ?_ ?_ ?_ r
  · intro i t a d at_ ks ih
    exact h i t a d at_ ks ih
  · intro k hk
    cases hk
  · intro x l hx hl k hk
    rcases List.mem_cons.1 hk with rfl | hk
    · exact hx
    · exact hl k hk
mutual
/-- The nodes of a tree, each ahead of those in it. -/
def pre : RT → List Nat
  | node i _ _ _ _ ks => i :: preL ks
def preL : List RT → List Nat
  | [] => []
  | k :: ks => pre k ++ preL ks
end
mutual
/-- The places of these. -/
def paths (p : List Int) : RT → List (List Int)
  | node _ _ _ _ _ ks => p :: pathsL p 0 ks
def pathsL (p : List Int) (j : Nat) : List RT → List (List Int)
  | [] => []
  | k :: ks => paths (p ++ [(j : Int)]) k ++ pathsL p (j + 1) ks
end
theorem preL_append (l m : List RT) : preL (l ++ m) = preL l ++ preL m := by
  induction l with
  | nil => rfl
  | cons k l ih => simp [preL, ih]
theorem mem_preL {x : Nat} {l : List RT} : x ∈ preL l ↔ ∃ k ∈ l, x ∈ pre k := by
  induction l with
  | nil => simp [preL]
  | cons k l ih => simp [preL, ih]
theorem id_mem (r : RT) : r.id ∈ r.pre := by cases r; simp [id, pre]
end RT

/-- The table holds the tree; its root's parent is told besides. -/
inductive Is (D : Tab) : Option Nat → RT → Prop
  | mk (p : Option Nat) (i : Nat) (t a : Int) (d : ByteArray) (at_ : List (ByteArray × ByteArray)) (ks : List RT) (h : D i = some ⟨p, ks.map RT.id, t, a, d, at_⟩) (hk : ∀ k ∈ ks, Is D (some i) k) : Is D p (.node i t a d at_ ks)
theorem Is.root {D : Tab} {p : Option Nat} {r : RT} (h : Is D p r) : D r.id = some (r.info p) := by
  cases h with
  | mk _ _ _ _ _ _ _ h _ => exact h
theorem Is.kid {D : Tab} {p : Option Nat} {r k : RT} (h : Is D p r) (hk : k ∈ r.kids) : Is D (some r.id) k := by
  cases h with
  | mk _ _ _ _ _ _ _ _ h => exact h k hk
/-- The tree as plain data. -/
inductive TellsT : T → RT → Prop
  | mk (t : T) (i : Nat) (a : Int) (ks : List RT) (ha : a = atomOf t) (hl : (kidsT t).length = ks.length) (hk : ∀ j (h1 : j < (kidsT t).length) (h2 : j < ks.length), TellsT (kidsT t)[j] ks[j]) : TellsT t (.node i (tyOf t.f0) a (dataOf t) (attrsOf t) ks)
theorem list_choose {α : Type} {n : Nat} {P : Nat → α → Prop} (h : ∀ j, j < n → ∃ a, P j a) : ∃ l : List α, l.length = n ∧ ∀ j (hj : j < l.length), P j l[j] := by
  induction n with
  | zero => exact ⟨[], rfl, fun j hj => absurd hj (Nat.not_lt_zero _)⟩
  | succ n ih =>
    obtain ⟨l, hl, hp⟩ := ih (fun j hj => h j (by omega))
    obtain ⟨a, ha⟩ := h n (by omega)
    refine ⟨l ++ [a], by simp [hl], fun j hj => ?_⟩
    by_cases hjn : j < l.length
    · rw [List.getElem_append_left hjn]
      exact hp j hjn
    · have : j = n := by simp at hj; omega
      subst this
      rw [List.getElem_append_right (by omega)]
      simpa [hl] using ha
theorem IsT.rt {D : Tab} (wf : WF D) {b : Nat} {t : T} (h : IsT D b t) : ∀ i, D b = some i → ∃ r : RT, r.id = b ∧ Is D i.parent r ∧ TellsT t r := by
  induction h with
  | mk b t i h hm hl hk ih =>
    intro i' hi'
    rw [h] at hi'
    obtain rfl := Option.some.inj hi'
    have key : ∀ j, j < i.kids.length → ∃ r : RT, ∃ (h1 : j < i.kids.length) (h2 : j < (kidsT t).length), r.id = i.kids[j] ∧ Is D (some b) r ∧ TellsT (kidsT t)[j] r := by
      intro j hj
      have h2 : j < (kidsT t).length := by omega
      obtain ⟨ic, hic, hp⟩ := wf.down h (List.getElem_mem hj)
      obtain ⟨r, h3, h4, h5⟩ := ih j hj h2 ic hic
      rw [hp] at h4
      exact ⟨r, hj, h2, h3, h4, h5⟩
    obtain ⟨ks, hks, hkp⟩ := list_choose key
    have hids : ks.map RT.id = i.kids := by
      apply List.ext_getElem (by simp [hks])
      intro j h1 h2
      obtain ⟨_, _, h3, _⟩ := hkp j (by simpa using h1)
      simpa using h3
    refine ⟨.node b i.ty i.atom i.data i.attrs ks, rfl, ?_, ?_⟩
    · refine Is.mk _ _ _ _ _ _ _ ?_ ?_
      · rw [h, hids]
      · intro k hk'
        obtain ⟨j, hj, rfl⟩ := List.getElem_of_mem hk'
        obtain ⟨_, _, _, h4, _⟩ := hkp j hj
        exact h4
    · rw [hm.ty, hm.data, hm.attrs]
      refine TellsT.mk t b i.atom ks hm.atom (by omega) ?_
      intro j h1 h2
      obtain ⟨_, _, _, _, h5⟩ := hkp j h2
      exact h5

/-! ### Places -/
inductive All2 {α β : Type} (R : α → β → Prop) : List α → List β → Prop
  | nil : All2 R [] []
  | cons {a b l m} (h : R a b) (t : All2 R l m) : All2 R (a :: l) (b :: m)
theorem All2.append {α β : Type} {R : α → β → Prop} {l l' : List α} {m m' : List β} (h : All2 R l m) (h' : All2 R l' m') : All2 R (l ++ l') (m ++ m') := by
  induction h with
  | nil => exact h'
  | cons h _ ih => exact .cons h ih
theorem All2.length {α β : Type} {R : α → β → Prop} {l : List α} {m : List β} (h : All2 R l m) : l.length = m.length := by
  induction h with
  | nil => rfl
  | cons _ _ ih => simp [ih]
theorem All2.imp {α β : Type} {R S : α → β → Prop} {l : List α} {m : List β} (h : All2 R l m) (hs : ∀ a ∈ l, ∀ b, R a b → S a b) : All2 S l m := by
  induction h with
  | nil => exact .nil
  | cons h _ ih => exact .cons (hs _ List.mem_cons_self _ h) (ih fun a ha b => hs a (List.mem_cons_of_mem _ ha) b)
theorem All2.get {α β : Type} {R : α → β → Prop} {l : List α} {m : List β} (h : All2 R l m) : ∀ j (h1 : j < l.length) (h2 : j < m.length), R l[j] m[j] := by
  induction h with
  | nil => intro j h1; exact absurd h1 (Nat.not_lt_zero _)
  | cons h _ ih =>
    intro j h1 h2
    cases j with
    | zero => exact h
    | succ j => exact ih j (by simpa using h1) (by simpa using h2)
/-- The node x stands at a place below the root. -/
inductive PathTo (D : Tab) (root : Nat) : Nat → List Int → Prop
  | root (i : Info) (h : D root = some i) (hp : i.parent = none) : PathTo D root root []
  | kid (p x j : Nat) (path : List Int) (ip ix : Info) (h : PathTo D root p path) (hp : D p = some ip) (hj : ip.kids[j]? = some x) (hx : D x = some ix) (hxp : ix.parent = some p) : PathTo D root x (path ++ [(j : Int)])
theorem Is.paths {D : Tab} {root : Nat} (r : RT) : ∀ (p : Option Nat) (path : List Int), Is D p r → PathTo D root r.id path → All2 (PathTo D root) r.pre (r.paths path) := by
  induction r using RT.induct with
  | h i t a d at_ ks ih =>
    intro p path h hp
    have hD : D i = some ⟨p, ks.map RT.id, t, a, d, at_⟩ := h.root
    show All2 _ (i :: RT.preL ks) (path :: RT.pathsL path 0 ks)
    refine .cons hp ?_
    have key : ∀ (l done : List RT), ks = done ++ l → All2 (PathTo D root) (RT.preL l) (RT.pathsL path done.length l) := by
      intro l
      induction l with
      | nil => exact fun _ _ => .nil
      | cons k l ihl =>
        intro done e
        have hk : k ∈ ks := by rw [e]; simp
        have hik := h.kid (k := k) hk
        have hpk : PathTo D root k.id (path ++ [(done.length : Int)]) := PathTo.kid i k.id done.length path _ _ hp hD (by simp [e]) hik.root (by cases k; rfl)
        have h2 := ihl (done ++ [k]) (by simp [e])
        rw [List.length_append, List.length_singleton] at h2
        exact (ih k hk (some i) _ hik hpk).append h2
    exact key ks [] rfl
end Go.Proofs.Ytibfoaahdbdogaa.Dom

/- impl.pathOf of a node of a table: the indices on the way from the root. -/
namespace Go.Proofs.Ytibfoaahdbdogaa.Dom
open Go.RowKit Go.Proofs.YtibfoaahdbdogaaW.PrintWords Go.Proofs.YtibfoaahdbdogaaW.PrintLast Go.Proofs.YtibfoaahdbdogaaW.PrintMore Go.Proofs.Ytibfoaahdbdogaa.PDom
set_option linter.unusedVariables false
set_option linter.unusedSimpArgs false

theorem take_last {l : List Nat} {m : Nat} (h : m < l.length) : (l.take (m + 1)).getLast? = some l[m] := by
  rw [List.take_succ_eq_append_getElem h, List.getLast?_append]
  rfl
theorem take_getLast (l : List Nat) : ∀ m, m ≤ l.length → (l.take m).getLast? = if 0 < m then l[m - 1]? else none
  | 0, _ => rfl
  | m + 1, h => by rw [take_last (by omega), if_pos (by omega)]; simp [List.getElem?_eq_getElem (show m < l.length by omega)]
/-- The sibling ahead of the m-th child. -/
theorem prev_at {l : List Nat} (hnd : l.Nodup) {m : Nat} (h : m < l.length) : prevIn l l[m] = (l.take m).getLast? := by
  have e : l = l.take m ++ l[m] :: l.drop (m + 1) := by
    rw [← List.drop_eq_getElem_cons h, List.take_append_drop]
  have hnd2 : (l.take m ++ l[m] :: l.drop (m + 1)).Nodup := by rw [← e]; exact hnd
  have h2 := (nodup_split hnd2).2.1
  have h3 := prevIn_split (l1 := l.take m) (l2 := l.drop (m + 1)) (b := l[m]) h2
  rw [← e] at h3
  exact h3
theorem next_at {l : List Nat} (hnd : l.Nodup) {m : Nat} (h : m < l.length) : nextIn l l[m] = l[m + 1]? := by
  have e : l = l.take m ++ l[m] :: l.drop (m + 1) := by
    rw [← List.drop_eq_getElem_cons h, List.take_append_drop]
  have hnd2 : (l.take m ++ l[m] :: l.drop (m + 1)).Nodup := by rw [← e]; exact hnd
  have h3 := nextIn_split (l1 := l.take m) (l2 := l.drop (m + 1)) (b := l[m]) (nodup_split hnd2).1
  rw [← e] at h3
  rw [h3]
  simp [List.head?_drop]
/-- What a child's block tells of its place. -/
theorem kid_cells {w : World} {D : Tab} (h : Dom w D) {p : Nat} {ip : Info} (hp : D p = some ip) {m : Nat} (hm : m < ip.kids.length) :
    w.cell? ⟨ip.kids[m], 0, none⟩ = some (ptr (some p)) ∧ w.cell? ⟨ip.kids[m], 3, none⟩ = some (ptr (ip.kids.take m).getLast?) ∧ w.cell? ⟨ip.kids[m], 4, none⟩ = some (ptr ip.kids[m + 1]?) := by
  obtain ⟨ix, hx, hxp⟩ := h.wf.down hp (List.getElem_mem hm)
  obtain ⟨v, hv, _⟩ := h.has hx
  refine ⟨?_, ?_, ?_⟩
  · rw [hv.cells10.1]
    show some (ptr ix.parent) = _
    rw [hxp]
  · rw [hv.cells10.2.2.2.1]
    show some (ptr (prevIn (sibs D ix) ip.kids[m])) = _
    rw [sibs_some hxp, kidsOf_some hp, prev_at (h.wf.nodup hp) hm]
  · rw [hv.cells10.2.2.2.2.1]
    show some (ptr (nextIn (sibs D ix) ip.kids[m])) = _
    rw [sibs_some hxp, kidsOf_some hp, next_at (h.wf.nodup hp) hm]

theorem info3 : (Try.prog.info? 3).map (fun i => (i.zero, i.size, i.bytes)) = some (some (.int .i64 0), 1, 8) := by kernel_rfl
/-- A row of one number, newly made. -/
theorem one_row (W : World) (k : Int) : (Kd.int .i64).R 3 (W.alloc (.cells #[.int .i64 k] 3)) W.heap.size (fun _ => True) (.slice (some ⟨W.heap.size, 0, none⟩) 1 1) [k] := by
  refine ⟨fun _ _ => trivial, nums .i64 [k], ?_, ?_⟩
  · exact own_lit W W.heap.size 3 .i64 [k] (Nat.le_refl _) (by simp)
  · refine ⟨rfl, fun j p hp => ?_⟩
    cases j with
    | zero => obtain rfl : k = p := by simpa using hp
              rfl
    | succ j => simp at hp
/-- The inner loop and the outer one. -/
theorem path_calls (w : World) (D : Tab) (root x : Nat) (path : List Int) (h : Dom w D) (hp : PathTo D root x path) (hl : path.length ≤ 4398046510976) (hk : ∀ x ∈ path, x ≤ 4398046510976) :
    Calls Try.prog 39 #[ptr (some x)] w fun e w' => ∃ v, e = .returned v ∧ (Kd.int .i64).R 3 w' w.heap.size (fun _ => True) v path ∧ Below w.heap.size w w' := by
  unfold ptr
  have H := Aside0.mk h
  have HP := Aside0.mk hp
  have HKL := Aside0.mk hk
  have HL := Aside0.mk hl
  clear h hp hk hl
  go_enter Try.func39, Try.ntmps39
  go_wp2_with fail
  go_loopw [3, 4] (fun vo vx wr => ∃ (y : Nat) (pre suf : List Int) (A : Option Addr) (c : Nat), vx = .pointer (some ⟨y, 0, none⟩) ∧ vo = .slice A suf.length c ∧ Aside0 (PathTo D root y pre) ∧ Aside0 (path = pre ++ suf) ∧ Aside0 ((Kd.int .i64).R 3 wr w.heap.size (fun _ => True) (.slice A suf.length c) suf) ∧ Aside0 (Below w.heap.size w wr)) (fun vo _ _ => path.length - (match vo with | .slice _ n _ => n | _ => 0))
  case atStart => exact ⟨x, path, [], some ⟨w.heap.size, 0, none⟩, 0, rfl, rfl, HP, ⟨by simp⟩, ⟨by
    refine ⟨fun _ _ => trivial, [], ?_, Reps.none _ _⟩
    have := own_lit w w.heap.size 3 .i64 [] (Nat.le_refl _) (by simp)
    exact this⟩, ⟨below_alloc (Below.refl _ _) _⟩⟩
  case round =>
    obtain ⟨y, pre, suf, A, c, rfl, rfl, HY, HE, HO, HB⟩ := hrel
    have HD := Aside0.mk (H.out.below HB.out)
    cases HY.out with
    | root i hi hpn =>
      obtain ⟨v, hv, _⟩ := HD.out.has hi
      have c0 : wr.cell? ⟨root, 0, none⟩ = some (.pointer none) := by rw [hv.cells10.1]; show some (ptr i.parent) = _; rw [hpn]; rfl
      clear hv hi hpn
      go_wp2_with fail
      go_ret
      refine ⟨_, rfl, ?_, HB.out⟩
      rw [HE.out]
      exact HO.out
    | kid p _ j path2 ip ix hq hip hj hix hxp =>
      have hjl : j < ip.kids.length := (List.getElem?_eq_some_iff.1 hj).1
      have hy : ip.kids[j] = y := (List.getElem?_eq_some_iff.1 hj).2
      have hnl : (j : Int) ≤ 4398046510976 := HKL.out _ (by rw [HE.out]; simp)
      have HC := Aside0.mk (fun m (hm : m < ip.kids.length) => kid_cells HD.out hip hm)
      obtain ⟨c0, c3, _⟩ := HC.out j hjl
      rw [hy] at c0 c3
      simp only [ptr] at c0
      have HQ := Aside0.mk hq
      have HY1 := Aside0.mk (fun w1 (hb : Below w.heap.size w w1) => show w1.cell? ⟨y, 0, none⟩ = some (.pointer (some ⟨p, 0, none⟩)) by
        have h1 := (kid_cells (H.out.below hb) hip hjl).1
        rw [hy] at h1
        exact h1)
      generalize hpl : ip.kids = l at *
      clear hpl
      clear hq hip hj hix hxp hy
      go_wp2_with fail
      go_loop [5, 6] (fun vk vc => ∃ m : Nat, m ≤ j ∧ vk = .int .i64 ((j - m : Nat) : Int) ∧ vc = ptr (l.take m).getLast?) (fun vk _ => j - (intOf vk).toNat)
      case atStart => exact ⟨j, Nat.le_refl _, by simp, rfl⟩
      case round =>
        obtain ⟨m, hm, rfl, rfl⟩ := hrel
        cases m with
        | zero =>
          simp only [List.take_zero, List.getLast?_nil, ptr, Nat.sub_zero]
          have HOA := Aside0.mk (one_row wr j)
          have HBS := HB.out.size
          have hszA : w.heap.size ≤ (wr.alloc (Obj.cells #[.int .i64 (j : Int)] 3)).heap.size := by show _ ≤ (wr.heap.push _).size; rw [Array.size_push]; omega
          have hlA : ([(j : Int)].length + suf.length) * 8 ≤ 140737488355328 := by have h1 := HL.out; rw [HE.out] at h1; simp at h1 ⊢; omega
          have HO2 := Aside0.mk (Kd.R_reads' HO.out)
          go_wp2_with ((with_reducible refine gate_builtin (b := .append) (xs := #[.tmp 31, .tmp 32]) rfl ?_); at_builtin; go_must (refine Kd.R_append_row (Value.int .i64) 0 (h1 := fun _ => rfl) (w0 := w) w.heap.size rfl (.tmp 31) (.tmp 32) 32 3 (.int .i64 0) 8 rfl Try.underlying32 info3 rfl (by omega) (.slice (some ⟨wr.heap.size, 0, none⟩) 1 1) [(j : Int)] suf A suf.length c (fun _ => True) rfl rfl (fun _ _ => trivial) (Kd.R_lower HOA.out HBS) (Kd.C_alloc HO2.out.2.2 _) (below_alloc HB.out _) ?aS ?aL ?_); (case aS => exact hszA); (case aL => exact hlA); intro v1 w1 ho hb hg _; obtain ⟨A1, c1, hv1, hc1, hC1⟩ := Kd.R_reads ho; subst hv1; have HO1 := Aside0.mk ho; have HB1 := Aside0.mk hb; have c01 : w1.cell? ⟨y, 0, none⟩ = some (.pointer (some ⟨p, 0, none⟩)) := HY1.out w1 hb; clear ho hb hg hc1 hC1)
          go_roundw
          case rel => exact ⟨p, path2, (j : Int) :: suf, A1, c1, rfl, rfl, HQ, ⟨by rw [HE.out]; simp⟩, HO1, HB1⟩
          case measure => have := HE.out; rw [this]; simp; omega
        | succ m =>
          rw [take_last (by omega)]
          simp only [ptr]
          obtain ⟨_, d3, _⟩ := HC.out m (by omega)
          simp only [ptr] at d3
          generalize l[m] = s at *
          generalize hgl : (l.take m).getLast? = gl at *
          have hsucc : ((j - (m + 1) : Nat) : Int) + 1 = ((j - m : Nat) : Int) := by omega
          have HS := Aside0.mk hsucc
          clear hsucc
          have HGL := Aside0.mk hgl
          clear hgl
          cases gl
          all_goals
            go_wp2_with fail
            go_round
            case rel => exact ⟨m, by omega, by rw [HS.out], by rw [HGL.out]⟩
            case measure => simp [intOf]; omega
end Go.Proofs.Ytibfoaahdbdogaa.Dom

/- dom.AllNodes: the nodes of a tree, in order. -/
namespace Go.Proofs.Ytibfoaahdbdogaa.Dom
open Go.RowKit Go.Proofs.YtibfoaahdbdogaaW.PrintWords Go.Proofs.YtibfoaahdbdogaaW.PrintLast Go.Proofs.YtibfoaahdbdogaaW.PrintMore Go.Proofs.Ytibfoaahdbdogaa.PDom
set_option linter.unusedVariables false
set_option linter.unusedSimpArgs false

theorem ptr_some (x : Nat) : ptr (some x) = .pointer (some ⟨x, 0, none⟩) := rfl
theorem ptr_none : ptr none = .pointer none := rfl
/-- A pointer to a node. -/
abbrev kP : Kd Nat := Kd.scalar (fun b => ptr (some b)) (fun _ => rfl)
theorem infoP : (Try.prog.info? 59).map (fun i => (i.zero, i.size, i.bytes)) = some (some (.pointer none), 1, 8) := by kernel_rfl
/-- What a node's block tells of its first child; what a child's block tells of the next one. -/
theorem Is.first {w : World} {D : Tab} (h : Dom w D) {p : Option Nat} {r : RT} (hr : Is D p r) : w.cell? ⟨r.id, 1, none⟩ = some (ptr (r.kids[0]?.map RT.id)) := by
  obtain ⟨v, hv, _⟩ := h.has hr.root
  rw [hv.cells10.2.1]
  show some (ptr ((r.info p).kids.head?)) = _
  cases r with
  | node i t a d at_ ks =>
    show some (ptr ((ks.map RT.id).head?)) = some (ptr (ks[0]?.map RT.id))
    cases ks <;> rfl
theorem Is.next {w : World} {D : Tab} (h : Dom w D) {p : Option Nat} {r : RT} (hr : Is D p r) {j : Nat} (hj : j < r.kids.length) : w.cell? ⟨r.kids[j].id, 4, none⟩ = some (ptr (r.kids[j + 1]?.map RT.id)) := by
  have hi := hr.root
  have hk : (r.info p).kids = r.kids.map RT.id := by cases r; rfl
  have hl : j < (r.info p).kids.length := by rw [hk, List.length_map]; exact hj
  have h1 := (kid_cells h hi hl).2.2
  simpa only [hk, List.getElem_map, List.getElem?_map] using h1
def funcAll (g f : Nat) : Value := .func (Fn.func 59) #[] #[.pointer (some ⟨g, 0, none⟩), .pointer (some ⟨f, 0, none⟩)]
/-- What the finder keeps: the row of nodes so far in the box g, itself in the box f; below these all is as it was. -/
structure AllI (w0 : World) (g f : Nat) (w : World) (acc : List Nat) : Prop where
  row : ∃ v, w.heap[g]? = some (.cells #[v] 61 (0, 0)) ∧ kP.R 59 w w0.heap.size (fun _ => True) v acc
  fn : w.heap[f]? = some (.cells #[funcAll g f] 76 (0, 0))
  below : Below w0.heap.size w0 w
theorem AllI.push {w0 w w1 : World} {g f i : Nat} {v v1 : Value} {acc : List Nat} (hgb : w0.heap.size ≤ g) (hv : w.heap[g]? = some (.cells #[v] 61 (0, 0))) (hr : kP.R 59 w w0.heap.size (fun _ => True) v acc)
    (hf : w.heap[f]? = some (.cells #[funcAll g f] 76 (0, 0))) (h1 : kP.R 59 w1 w0.heap.size (fun _ => True) v1 (acc ++ [i])) (hb : Below w0.heap.size w0 w1) (hg : w.grownBy w1 v.ownBlock) :
    w1.heap[g]? = some (.cells #[v] 61 (0, 0)) ∧ AllI w0 g f (w1.setCell ⟨g, 0, none⟩ v1) (acc ++ [i]) := by
  have hg1 := blk_grown hv hg (Kd.R_ne hr hv (by decide))
  have hf1 := blk_grown hf hg (Kd.R_ne hr hf (by decide))
  refine ⟨hg1, ⟨v1, blk_set hg1 0 v1, ?_⟩, ?_, ?_⟩
  · exact Kd.R_set h1 hg1 (fun q hq => by
      have : q = 59 := by simpa [kP, Kd.scalar] using hq
      rw [this]
      decide) 0 v1
  · refine blk_far hf1 (p := ⟨g, 0, none⟩) ?_ v1
    exact blk_ne hf1 hg1 (by decide)
  · exact hb.setCell (p := ⟨g, 0, none⟩) hgb v1
set_option maxHeartbeats 4000000 in
set_option maxRecDepth 100000 in
theorem finder_calls (w0 : World) (D : Tab) (hdom : Dom w0 D) (g f bound : Nat) (hbd : bound ≤ 4398046510976) (hgb : w0.heap.size ≤ g) (r : RT) : ∀ (p : Option Nat) (hr : Is D p r) (w : World) (acc : List Nat) (h : AllI w0 g f w acc) (hl : acc.length + r.pre.length ≤ bound),
    Calls Try.prog 59 #[ptr (some r.id), .pointer (some ⟨g, 0, none⟩), .pointer (some ⟨f, 0, none⟩)] w fun e w' => e = .returned (.tuple #[]) ∧ AllI w0 g f w' (acc ++ r.pre) := by
  induction r using RT.induct with
  | h i t a d at_ ks ih =>
    intro p hr w acc h hl
    have IH := Aside0.mk ih
    clear ih
    obtain ⟨v, hv, ho⟩ := h.row
    have HR := Aside0.mk hr
    have HD := Aside0.mk hdom
    have HO := Aside0.mk ho
    have HL := Aside0.mk hl
    have HV := Aside0.mk hv
    have HF := Aside0.mk h.fn
    have HB := Aside0.mk h.below
    have hszw := h.below.size
    have cg : w.cell? ⟨g, 0, none⟩ = some v := by rw [blk_cell hv]; rfl
    have hla : (acc.length + 1) * 8 ≤ 140737488355328 := by
      have : 0 < (RT.node i t a d at_ ks).pre.length := by simp [RT.pre]
      omega
    clear hr hdom ho hl hv h
    show Calls _ _ #[ptr (some i), _, _] _ _
    unfold ptr
    go_enter Try.func59, Try.ntmps59
    go_wp2_with ((with_reducible refine gate_builtin (b := .append) (xs := #[.tmp 5, .tmp 7]) rfl ?_); at_builtin; go_must (refine Kd.R_append kP (w0 := w0) w0.heap.size rfl (.tmp 5) (.tmp 7) 61 59 (.pointer none) 8 rfl Try.underlying61 infoP rfl (by decide) (by decide) v acc i [ptr (some i)] (fun _ => True) (fun _ => False) rfl rfl rfl (fun _ h => h.elim) (fun _ _ => trivial) HO.out HB.out ?aS ?aL ?_; (case aS => exact hszw); (case aL => exact hla); intro v1 w1 ho hb hg _; obtain ⟨A1, c1, hv1, hc1, hC1⟩ := Kd.R_reads ho; rw [List.length_append, List.length_singleton] at hv1; subst hv1; clear hc1 hC1; have HI := Aside0.mk (AllI.push hgb HV.out HO.out HF.out ho hb hg); have cg1 := blk_cell HI.out.1 0; have fg1 := blk_frozen HI.out.1 0; have cf : (w1.setCell ⟨g, 0, none⟩ (.slice A1 (acc.length + 1) c1)).cell? ⟨i, 1, none⟩ = some (ptr (ks[0]?.map RT.id)) := Is.first (HD.out.below HI.out.2.below) HR.out; clear ho hb hg))
    have hi0 := HI.out.2
    generalize hwg : w1.setCell ⟨g, 0, none⟩ (Value.slice A1 (acc.length + 1) c1) = wg at *
    clear hwg HI cg1 fg1
    have HI := Aside0.mk hi0
    clear hi0
    go_loopg [4] ks.length (fun n vc wr => ∃ j, n = ks.length - j ∧ j ≤ ks.length ∧ vc = ptr (ks[j]?.map RT.id) ∧ Aside0 (AllI w0 g f wr (acc ++ [i] ++ RT.preL (ks.take j))))
    case atStart => exact ⟨0, rfl, Nat.zero_le _, rfl, ⟨by simpa [RT.preL] using HI.out⟩⟩
    case round =>
      obtain ⟨j, rfl, hj, rfl, HI⟩ := hrel
      by_cases hlt : j < ks.length
      · rw [List.getElem?_eq_getElem hlt]
        have hkm := Aside0.mk (List.getElem_mem hlt)
        have hnx : ∀ wx, Below w0.heap.size w0 wx → wx.cell? ⟨ks[j].id, 4, none⟩ = some (ptr (ks[j + 1]?.map RT.id)) := fun wx hb => Is.next (HD.out.below hb) HR.out (j := j) hlt
        have HNX := Aside0.mk hnx
        clear hnx
        have cf0 : wr.cell? ⟨f, 0, none⟩ = some (funcAll g f) := by rw [blk_cell HI.out.fn]; rfl
        have hpl : (RT.preL (ks.take (j + 1))) = RT.preL (ks.take j) ++ ks[j].pre := by rw [List.take_succ_eq_append_getElem hlt, RT.preL_append]; simp [RT.preL]
        have HPL := Aside0.mk hpl
        clear hpl
        have hlen : (acc ++ [i] ++ RT.preL (ks.take j)).length + ks[j].pre.length ≤ bound := by
          have h1 := HL.out
          have h2 : RT.preL ks = RT.preL (ks.take (j + 1)) ++ RT.preL (ks.drop (j + 1)) := by rw [← RT.preL_append, List.take_append_drop]
          have h3 := congrArg List.length h2
          rw [HPL.out] at h3
          simp only [RT.pre, List.length_append, List.length_cons, List.length_nil] at h1 h3 ⊢
          omega
        have HC := Aside0.mk (IH.out ks[j] hkm.out (some i) (HR.out.kid hkm.out) wr _ HI.out hlen)
        have HE := Aside0.mk (congrArg RT.id (Eq.refl ks[j]))
        clear hlen
        simp only [Option.map_some, ptr_some, funcAll] at HC cf0 ⊢
        clear cf
        generalize ks[j].id = x at *
        go_wp2_with (go_at_call 59; refine HC.out.mono ?_; rintro e w2 ⟨rfl, hi2⟩; have HI2 := Aside0.mk hi2; have nx2 := HNX.out w2 hi2.below; clear hi2)
        go_roundg (ks.length - (j + 1))
        case rel => exact ⟨j + 1, rfl, by omega, rfl, ⟨by rw [HPL.out, ← List.append_assoc]; exact HI2.out⟩⟩
        case measure => omega
      · have hje : j = ks.length := by omega
        subst hje
        rw [List.getElem?_eq_none (Nat.le_refl _)]
        simp only [Option.map_none, ptr_none]
        go_wp2_with fail
        go_end0
        refine ⟨rfl, ?_⟩
        have := HI.out
        rw [List.take_length] at this
        simpa [RT.pre] using this
theorem all_calls (w : World) (D : Tab) (hdom : Dom w D) (p : Option Nat) (r : RT) (hr : Is D p r) (bound : Nat) (hbd : bound ≤ 4398046510976) (hl : r.pre.length ≤ bound) :
    Calls Try.prog 38 #[ptr (some r.id)] w fun e w' => ∃ v, e = .returned v ∧ kP.R 59 w' w.heap.size (fun _ => True) v r.pre ∧ Below w.heap.size w w' := by
  have h0 : AllI w w.heap.size (w.heap.size + 1) (((w.alloc (.cells #[.slice none 0 0] 61)).alloc (.cells #[funcAll w.heap.size (w.heap.size + 1)] 76))) [] := by
    refine ⟨⟨_, two_old w _ _, Kd.R_nil _ _ _ _ _⟩, two_new w _ _, below_alloc (below_alloc (Below.refl _ _) _) _⟩
  have HC := Aside0.mk (finder_calls w D hdom w.heap.size (w.heap.size + 1) bound hbd (Nat.le_refl _) r p hr _ [] h0 (by simpa using hl))
  clear h0 hl hr
  generalize r.id = x at *
  simp only [ptr_some, funcAll] at HC ⊢
  have hmf : ∀ (fn : Fn) (first cap : Array Value) (w : World), (Instr.makeFunc fn first cap).run Try.prog w = .ok (.func fn first cap) w := fun _ _ _ _ => rfl
  go_enter Try.func38, Try.ntmps38
  go_wp2_with (go_at_call 59; go_must (refine HC.out.mono ?_; rintro e w2 ⟨rfl, hi2⟩; obtain ⟨v2, hv2, ho2⟩ := hi2.row; obtain ⟨A2, c2, rfl, hc2, hC2⟩ := Kd.R_reads ho2; have cg2 := blk_cell hv2 0; have fg2 := blk_frozen hv2 0; have HI2 := Aside0.mk hi2; have HO2 := Aside0.mk ho2; have HV2 := Aside0.mk hv2; clear hi2 hv2 ho2 hc2 hC2))
  have hs := blk_set HV2.out 0 (Value.slice A2 r.pre.length c2)
  have hx : (w2.setCell ⟨w.heap.size, 0, none⟩ (Value.slice A2 r.pre.length c2)).cell? ⟨w.heap.size, 0, none⟩ = some (Value.slice A2 r.pre.length c2) := by rw [blk_cell hs]; rfl
  refine bodyPost_ret (v := .slice A2 r.pre.length c2) (by simp [results, Try.results38, go_sem, hx]) rfl ⟨_, rfl, ?_, ?_⟩
  · have := HO2.out
    rw [List.nil_append] at this
    exact Kd.R_set this HV2.out (fun q hq => by
      have : q = 59 := by simpa [kP, Kd.scalar] using hq
      rw [this]
      decide) 0 _
  · exact HI2.out.below.setCell (p := ⟨w.heap.size, 0, none⟩) (Nat.le_refl _) _
end Go.Proofs.Ytibfoaahdbdogaa.Dom

/- dom's first children and siblings, of all nodes and of elements alone. Printed by the program gen_sib.py of this session. -/
namespace Go.Proofs.Ytibfoaahdbdogaa.Dom
open Go.RowKit Go.Proofs.YtibfoaahdbdogaaW.PrintWords Go.Proofs.YtibfoaahdbdogaaW.PrintLast Go.Proofs.YtibfoaahdbdogaaW.PrintMore Go.Proofs.Ytibfoaahdbdogaa.PDom
set_option linter.unusedVariables false
set_option linter.unusedSimpArgs false

def tyAt (D : Tab) (c : Nat) : Int := match D c with
  | some i => i.ty
  | none => 0
def isE (D : Tab) (c : Nat) : Bool := tyAt D c == 3
/-- A row of nodes, each of which points to the next one (by its field f). -/
def Chain (w : World) (D : Tab) (f : Nat) (l : List Nat) : Prop := ∀ m (h : m < l.length), w.cell? ⟨l[m], f, none⟩ = some (ptr l[m + 1]?) ∧ w.cell? ⟨l[m], 5, none⟩ = some (.int .u32 (tyAt D l[m]))
theorem ty_cell {w : World} {D : Tab} (h : Dom w D) {c : Nat} {i : Info} (hc : D c = some i) : w.cell? ⟨c, 5, none⟩ = some (.int .u32 (tyAt D c)) := by
  obtain ⟨v, hv, _⟩ := h.has hc
  have e : tyAt D c = i.ty := by unfold tyAt; rw [hc]
  rw [e]
  exact hv.cells10.2.2.2.2.2.1
theorem chain_next {w : World} {D : Tab} (h : Dom w D) {p : Nat} {ip : Info} (hp : D p = some ip) (j : Nat) : Chain w D 4 (ip.kids.drop j) := by
  intro m hm
  rw [List.length_drop] at hm
  have hl : j + m < ip.kids.length := by omega
  obtain ⟨_, _, h4⟩ := kid_cells h hp hl
  obtain ⟨ic, hic, _⟩ := h.wf.down hp (List.getElem_mem hl)
  rw [List.getElem_drop, List.getElem?_drop]
  exact ⟨h4, ty_cell h hic⟩
theorem chain_prev {w : World} {D : Tab} (h : Dom w D) {p : Nat} {ip : Info} (hp : D p = some ip) (j : Nat) (hj : j ≤ ip.kids.length) : Chain w D 3 (ip.kids.take j).reverse := by
  intro m hm
  rw [List.length_reverse, List.length_take] at hm
  have hl : j - 1 - m < ip.kids.length := by omega
  obtain ⟨_, h3, _⟩ := kid_cells h hp hl
  obtain ⟨ic, hic, _⟩ := h.wf.down hp (List.getElem_mem hl)
  have e1 : (ip.kids.take j).reverse[m]'(by rw [List.length_reverse, List.length_take]; exact hm) = ip.kids[j - 1 - m] := by
    rw [List.getElem_reverse, List.getElem_take]
    congr 1
    rw [List.length_take]
    omega
  have e2 : (ip.kids.take j).reverse[m + 1]? = (ip.kids.take (j - 1 - m)).getLast? := by
    rw [take_getLast _ _ (by omega)]
    by_cases h0 : m + 1 < j
    · rw [if_pos (by omega), List.getElem?_reverse (by rw [List.length_take]; omega), List.length_take, List.getElem?_take_of_lt (by omega)]
      congr 1
      omega
    · rw [if_neg (by omega), List.getElem?_eq_none (by rw [List.length_reverse, List.length_take]; omega)]
  rw [e1, e2]
  exact ⟨h3, ty_cell h hic⟩
theorem chain_nil (w : World) (D : Tab) (f : Nat) : Chain w D f [] := fun m h => absurd h (Nat.not_lt_zero _)
theorem find_drop {l : List Nat} {P : Nat → Bool} {m : Nat} (h : m < l.length) : (l.drop m).find? P = if P l[m] = true then some l[m] else (l.drop (m + 1)).find? P := by
  rw [List.drop_eq_getElem_cons h, List.find?_cons]
  cases P l[m] <;> rfl

theorem firstE_calls (w : World) (D : Tab) (x : Nat) (l : List Nat) (hx : w.cell? ⟨x, 1, none⟩ = some (ptr l[0]?)) (hc : Chain w D 4 l) :
    Calls Try.prog 74 #[ptr (some x)] w fun e w' => e = .returned (ptr (l.find? (isE D))) ∧ w' = w := by
  have HC := Aside0.mk hc
  clear hc
  rw [ptr_some]
  go_enter Try.func74, Try.ntmps74
  go_wp2_with fail
  go_loopg [3] l.length (fun n vc wr => ∃ m, n = l.length - m ∧ m ≤ l.length ∧ wr = w ∧ vc = ptr l[m]? ∧ Aside0 (l.find? (isE D) = (l.drop m).find? (isE D)))
  case atStart => exact ⟨0, rfl, Nat.zero_le _, rfl, rfl, ⟨by rw [List.drop_zero]⟩⟩
  case round =>
    obtain ⟨m, rfl, hm, rfl, rfl, HF⟩ := hrel
    by_cases hlt : m < l.length
    · obtain ⟨c4, c5⟩ := HC.out m hlt
      have HD := Aside0.mk (find_drop (P := isE D) hlt)
      have HX := Aside0.mk (show isE D l[m] = (tyAt D l[m] == 3) from rfl)
      clear hx
      rw [List.getElem?_eq_getElem hlt, ptr_some]
      generalize l[m] = c at *
      generalize tyAt D c = ty at *
      by_cases he : ty = 3
      · subst he
        go_wp2_with fail
        go_ret
        refine ⟨?_, rfl⟩
        rw [HF.out, HD.out, HX.out]
        rfl
      · have hb : (ty == 3) = false := by simpa using he
        have HB := Aside0.mk hb
        go_wp2_with fail
        go_roundg (l.length - (m + 1))
        case rel => exact ⟨m + 1, rfl, by omega, rfl, rfl, ⟨by rw [HF.out, HD.out, HX.out, HB.out]; rfl⟩⟩
        case measure => omega
    · have hme : m = l.length := by omega
      subst hme
      clear hx
      rw [List.getElem?_eq_none (Nat.le_refl _), ptr_none]
      go_wp2_with fail
      go_ret
      refine ⟨?_, rfl⟩
      rw [HF.out, List.drop_length]
      rfl

theorem prevE_calls (w : World) (D : Tab) (x : Nat) (l : List Nat) (hx : w.cell? ⟨x, 3, none⟩ = some (ptr l[0]?)) (hc : Chain w D 3 l) :
    Calls Try.prog 76 #[ptr (some x)] w fun e w' => e = .returned (ptr (l.find? (isE D))) ∧ w' = w := by
  have HC := Aside0.mk hc
  clear hc
  rw [ptr_some]
  go_enter Try.func76, Try.ntmps76
  go_wp2_with fail
  go_loopg [3] l.length (fun n vc wr => ∃ m, n = l.length - m ∧ m ≤ l.length ∧ wr = w ∧ vc = ptr l[m]? ∧ Aside0 (l.find? (isE D) = (l.drop m).find? (isE D)))
  case atStart => exact ⟨0, rfl, Nat.zero_le _, rfl, rfl, ⟨by rw [List.drop_zero]⟩⟩
  case round =>
    obtain ⟨m, rfl, hm, rfl, rfl, HF⟩ := hrel
    by_cases hlt : m < l.length
    · obtain ⟨c4, c5⟩ := HC.out m hlt
      have HD := Aside0.mk (find_drop (P := isE D) hlt)
      have HX := Aside0.mk (show isE D l[m] = (tyAt D l[m] == 3) from rfl)
      clear hx
      rw [List.getElem?_eq_getElem hlt, ptr_some]
      generalize l[m] = c at *
      generalize tyAt D c = ty at *
      by_cases he : ty = 3
      · subst he
        go_wp2_with fail
        go_ret
        refine ⟨?_, rfl⟩
        rw [HF.out, HD.out, HX.out]
        rfl
      · have hb : (ty == 3) = false := by simpa using he
        have HB := Aside0.mk hb
        go_wp2_with fail
        go_roundg (l.length - (m + 1))
        case rel => exact ⟨m + 1, rfl, by omega, rfl, rfl, ⟨by rw [HF.out, HD.out, HX.out, HB.out]; rfl⟩⟩
        case measure => omega
    · have hme : m = l.length := by omega
      subst hme
      clear hx
      rw [List.getElem?_eq_none (Nat.le_refl _), ptr_none]
      go_wp2_with fail
      go_ret
      refine ⟨?_, rfl⟩
      rw [HF.out, List.drop_length]
      rfl

theorem nextE_calls (w : World) (D : Tab) (x : Nat) (l : List Nat) (hx : w.cell? ⟨x, 4, none⟩ = some (ptr l[0]?)) (hc : Chain w D 4 l) :
    Calls Try.prog 77 #[ptr (some x)] w fun e w' => e = .returned (ptr (l.find? (isE D))) ∧ w' = w := by
  have HC := Aside0.mk hc
  clear hc
  rw [ptr_some]
  go_enter Try.func77, Try.ntmps77
  go_wp2_with fail
  go_loopg [3] l.length (fun n vc wr => ∃ m, n = l.length - m ∧ m ≤ l.length ∧ wr = w ∧ vc = ptr l[m]? ∧ Aside0 (l.find? (isE D) = (l.drop m).find? (isE D)))
  case atStart => exact ⟨0, rfl, Nat.zero_le _, rfl, rfl, ⟨by rw [List.drop_zero]⟩⟩
  case round =>
    obtain ⟨m, rfl, hm, rfl, rfl, HF⟩ := hrel
    by_cases hlt : m < l.length
    · obtain ⟨c4, c5⟩ := HC.out m hlt
      have HD := Aside0.mk (find_drop (P := isE D) hlt)
      have HX := Aside0.mk (show isE D l[m] = (tyAt D l[m] == 3) from rfl)
      clear hx
      rw [List.getElem?_eq_getElem hlt, ptr_some]
      generalize l[m] = c at *
      generalize tyAt D c = ty at *
      by_cases he : ty = 3
      · subst he
        go_wp2_with fail
        go_ret
        refine ⟨?_, rfl⟩
        rw [HF.out, HD.out, HX.out]
        rfl
      · have hb : (ty == 3) = false := by simpa using he
        have HB := Aside0.mk hb
        go_wp2_with fail
        go_roundg (l.length - (m + 1))
        case rel => exact ⟨m + 1, rfl, by omega, rfl, rfl, ⟨by rw [HF.out, HD.out, HX.out, HB.out]; rfl⟩⟩
        case measure => omega
    · have hme : m = l.length := by omega
      subst hme
      clear hx
      rw [List.getElem?_eq_none (Nat.le_refl _), ptr_none]
      go_wp2_with fail
      go_ret
      refine ⟨?_, rfl⟩
      rw [HF.out, List.drop_length]
      rfl

theorem firstN_calls (w : World) (x : Nat) (v : Value) (hx : w.cell? ⟨x, 1, none⟩ = some v) (hv : ∃ y, v = ptr y) :
    Calls Try.prog 61 #[ptr (some x)] w fun e w' => e = .returned v ∧ w' = w := by
  obtain ⟨y, rfl⟩ := hv
  rw [ptr_some]
  go_enter Try.func61, Try.ntmps61
  go_wp2_with fail
  go_ret
  exact ⟨rfl, rfl⟩

theorem prevN_calls (w : World) (x : Nat) (v : Value) (hx : w.cell? ⟨x, 3, none⟩ = some v) (hv : ∃ y, v = ptr y) :
    Calls Try.prog 75 #[ptr (some x)] w fun e w' => e = .returned v ∧ w' = w := by
  obtain ⟨y, rfl⟩ := hv
  rw [ptr_some]
  go_enter Try.func75, Try.ntmps75
  go_wp2_with fail
  go_ret
  exact ⟨rfl, rfl⟩

theorem nextN_calls (w : World) (x : Nat) (v : Value) (hx : w.cell? ⟨x, 4, none⟩ = some v) (hv : ∃ y, v = ptr y) :
    Calls Try.prog 62 #[ptr (some x)] w fun e w' => e = .returned v ∧ w' = w := by
  obtain ⟨y, rfl⟩ := hv
  rw [ptr_some]
  go_enter Try.func62, Try.ntmps62
  go_wp2_with fail
  go_ret
  exact ⟨rfl, rfl⟩
end Go.Proofs.Ytibfoaahdbdogaa.Dom

/- dom.UNSTABLE_initGetNeighbor's function: the first child, or the next one beside, or the next one beside an ancestor. -/
namespace Go.Proofs.Ytibfoaahdbdogaa.Dom
open Go.RowKit Go.Proofs.YtibfoaahdbdogaaW.PrintWords Go.Proofs.YtibfoaahdbdogaaW.PrintLast Go.Proofs.YtibfoaahdbdogaaW.PrintMore Go.Proofs.Ytibfoaahdbdogaa.PDom
set_option linter.unusedVariables false
set_option linter.unusedSimpArgs false

/-- What is found on the way up from x, in at most so many steps. -/
inductive GoUp (D : Tab) (next : Nat → Option Nat) (until_ : Nat → Bool) : Nat → Nat → Option Nat → Prop
  | top (n x : Nat) (i : Info) (h : D x = some i) (hp : i.parent = none) : GoUp D next until_ n x none
  | stop (n x p : Nat) (i : Info) (h : D x = some i) (hp : i.parent = some p) (hD : D p ≠ none) (hu : until_ p = true) : GoUp D next until_ n x none
  | side (n x p s : Nat) (i : Info) (h : D x = some i) (hp : i.parent = some p) (hD : D p ≠ none) (hu : until_ p = false) (hn : next p = some s) : GoUp D next until_ n x (some s)
  | up (n x p : Nat) (i : Info) (r : Option Nat) (h : D x = some i) (hp : i.parent = some p) (hD : D p ≠ none) (hu : until_ p = false) (hn : next p = none) (hr : GoUp D next until_ n p r) : GoUp D next until_ (n + 1) x r
/-- What is found behind x, its children left aside. -/
inductive After (D : Tab) (next : Nat → Option Nat) (until_ : Nat → Bool) (x : Nat) : Option Nat → Prop
  | side (s : Nat) (h : next x = some s) : After D next until_ x (some s)
  | up (n : Nat) (r : Option Nat) (h : next x = none) (hr : GoUp D next until_ n x r) : After D next until_ x r
inductive Nbr (D : Tab) (first next : Nat → Option Nat) (until_ : Nat → Bool) (x : Nat) : Option Nat → Prop
  | first (s : Nat) (h : first x = some s) : Nbr D first next until_ x (some s)
  | after (r : Option Nat) (h : first x = none) (hr : After D next until_ x r) : Nbr D first next until_ x r
/-- A function that tells of each node another one, or none, and leaves the world as it is. -/
def TellsN (w : World) (D : Tab) (f : Nat) (g : Nat → Option Nat) : Prop := ∀ x, D x ≠ none → Calls Try.prog f #[ptr (some x)] w fun e w' => e = .returned (ptr (g x)) ∧ w' = w
def TellsB (w : World) (D : Tab) (f : Nat) (cs : Array Value) (g : Nat → Bool) : Prop := ∀ x, D x ≠ none → Calls Try.prog f (#[ptr (some x)] ++ cs) w fun e w' => e = .returned (.bool (g x)) ∧ w' = w
/-- The function has a body: a call of it enters it. -/
def Enters (f : Nat) : Prop := ∀ (args : Array Value) (w : World), (callFunc f args).run Try.prog w = .ok (.enter f args) w
theorem parent_cell {w : World} {D : Tab} (h : Dom w D) {x : Nat} {i : Info} (hx : D x = some i) : w.cell? ⟨x, 0, none⟩ = some (ptr i.parent) := by
  obtain ⟨v, hv, _⟩ := h.has hx
  exact hv.cells10.1
set_option maxHeartbeats 400000 in
set_option maxRecDepth 100000 in
theorem nbr_fn (w : World) (D : Tab) (hdom : Dom w D) (f1 fN fU : Nat) (cu : Array Value) (first next : Nat → Option Nat) (until_ : Nat → Bool) (b1 b2 b3 : Nat)
    (h1 : w.heap[b1]? = some (.cells #[.func (Fn.func f1) #[] #[]] 90 (0, 0))) (h2 : w.heap[b2]? = some (.cells #[.func (Fn.func fN) #[] #[]] 90 (0, 0))) (h3 : w.heap[b3]? = some (.cells #[.func (Fn.func fU) #[] cu] 67 (0, 0)))
    (E1 : Enters f1) (EN : Enters fN) (EU : Enters fU) (HF : TellsN w D f1 first) (HN : TellsN w D fN next) (HU : TellsB w D fU cu until_) (x : Nat) (hx : D x ≠ none) (r : Option Nat) (h : Nbr D first next until_ x r) :
    Calls Try.prog 83 #[ptr (some x), .pointer (some ⟨b1, 0, none⟩), .pointer (some ⟨b2, 0, none⟩), .pointer (some ⟨b3, 0, none⟩)] w fun e w' => e = .returned (ptr r) ∧ w' = w := by
  have c1 : w.cell? ⟨b1, 0, none⟩ = some (.func (Fn.func f1) #[] #[]) := by rw [blk_cell h1]; rfl
  have c2 : w.cell? ⟨b2, 0, none⟩ = some (.func (Fn.func fN) #[] #[]) := by rw [blk_cell h2]; rfl
  have c3 : w.cell? ⟨b3, 0, none⟩ = some (.func (Fn.func fU) #[] cu) := by rw [blk_cell h3]; rfl
  have e1 : ∀ (args : Array Value) (w : World), (callFunc f1 args).run Try.prog w = .ok (.enter f1 args) w := E1
  have eN : ∀ (args : Array Value) (w : World), (callFunc fN args).run Try.prog w = .ok (.enter fN args) w := EN
  have eU : ∀ (args : Array Value) (w : World), (callFunc fU args).run Try.prog w = .ok (.enter fU args) w := EU
  clear E1 EN EU
  have HD := Aside0.mk hdom
  have HF0 := Aside0.mk HF
  have HN0 := Aside0.mk HN
  have HU0 := Aside0.mk HU
  clear h1 h2 h3 HF HN HU hdom
  cases h with
  | first s hf =>
    have HC := Aside0.mk (HF0.out x hx)
    rw [hf] at HC
    simp only [ptr_some] at HC ⊢
    clear hx hf
    go_enter Try.func83, Try.ntmps83
    go_wp2_with fail
    refine HC.out.mono ?_
    rintro e w' ⟨rfl, rfl⟩
    go_wp2
    go_ret
    exact ⟨rfl, rfl⟩
  | after _ hf ha =>
    have HC := Aside0.mk (HF0.out x hx)
    have HC2 := Aside0.mk (HN0.out x hx)
    rw [hf] at HC
    cases ha with
    | side s hn =>
      rw [hn] at HC2
      simp only [ptr_some, ptr_none] at HC HC2 ⊢
      clear hx hf hn
      go_enter Try.func83, Try.ntmps83
      go_wp2_with fail
      refine HC.out.mono ?_
      rintro e w' ⟨rfl, rfl⟩
      go_wp2_with fail
      refine HC2.out.mono ?_
      rintro e w' ⟨rfl, rfl⟩
      go_wp2
      go_ret
      exact ⟨rfl, rfl⟩
    | up n _ hn hg =>
      rw [hn] at HC2
      simp only [ptr_some, ptr_none] at HC HC2 ⊢
      have HG := Aside0.mk hg
      clear hx hf hn hg
      go_enter Try.func83, Try.ntmps83
      go_wp2_with fail
      refine HC.out.mono ?_
      rintro e w' ⟨rfl, rfl⟩
      go_wp2_with fail
      refine HC2.out.mono ?_
      rintro e w' ⟨rfl, rfl⟩
      go_wp2_with fail
      go_loopg [0] n (fun k vx wr => ∃ y, wr = w' ∧ vx = ptr (some y) ∧ Aside0 (GoUp D next until_ k y r))
      case atStart => exact ⟨x, rfl, rfl, HG⟩
      case round =>
        clear HC HC2 HG
        obtain ⟨y, rfl, rfl, HG⟩ := hrel
        rw [ptr_some]
        cases HG.out with
        | top _ _ i hy hp =>
          have c0 := parent_cell HD.out hy
          rw [hp, ptr_none] at c0
          clear hy hp
          go_wp2
          go_ret
          exact ⟨rfl, rfl⟩
        | stop _ _ p i hy hp hDp hu =>
          have c0 := parent_cell HD.out hy
          have HCU := Aside0.mk (HU0.out p hDp)
          rw [hp, ptr_some] at c0
          rw [hu, ptr_some] at HCU
          clear hy hp hDp hu
          go_wp2_with fail
          refine HCU.out.mono ?_
          rintro e w' ⟨rfl, rfl⟩
          go_wp2
          go_ret
          exact ⟨rfl, rfl⟩
        | side _ _ p s i hy hp hDp hu hn =>
          have c0 := parent_cell HD.out hy
          have HCU := Aside0.mk (HU0.out p hDp)
          have HCN := Aside0.mk (HN0.out p hDp)
          rw [hp, ptr_some] at c0
          rw [hu, ptr_some] at HCU
          rw [hn] at HCN
          simp only [ptr_some] at HCN
          clear hy hp hDp hu hn
          go_wp2_with fail
          refine HCU.out.mono ?_
          rintro e w' ⟨rfl, rfl⟩
          go_wp2_with fail
          refine HCN.out.mono ?_
          rintro e w' ⟨rfl, rfl⟩
          go_wp2
          go_ret
          exact ⟨rfl, rfl⟩
        | up n2 _ p i _ hy hp hDp hu hn hr =>
          have c0 := parent_cell HD.out hy
          have HCU := Aside0.mk (HU0.out p hDp)
          have HCN := Aside0.mk (HN0.out p hDp)
          have HR := Aside0.mk hr
          rw [hp, ptr_some] at c0
          rw [hu, ptr_some] at HCU
          rw [hn] at HCN
          simp only [ptr_some, ptr_none] at HCN
          clear hy hp hDp hu hn hr
          go_wp2_with fail
          refine HCU.out.mono ?_
          rintro e w' ⟨rfl, rfl⟩
          go_wp2_with fail
          refine HCN.out.mono ?_
          rintro e w' ⟨rfl, rfl⟩
          go_wp2_with fail
          go_roundg n2
          case rel => exact ⟨p, rfl, rfl, HR⟩
          case measure => omega
end Go.Proofs.Ytibfoaahdbdogaa.Dom

/- The neighbours of a tree's nodes follow its order. Plain facts on tables. -/
namespace Go.Proofs.Ytibfoaahdbdogaa.Dom
open Go.RowKit Go.Proofs.YtibfoaahdbdogaaW.PrintWords Go.Proofs.YtibfoaahdbdogaaW.PrintLast Go.Proofs.YtibfoaahdbdogaaW.PrintMore Go.Proofs.Ytibfoaahdbdogaa.PDom
set_option linter.unusedVariables false
set_option linter.unusedSimpArgs false

/-- Each one of a row and the one behind it. -/
def Lk (R : Nat → Nat → Prop) : List Nat → Prop
  | [] => True
  | [_] => True
  | a :: b :: l => R a b ∧ Lk R (b :: l)
theorem lk_cons {R : Nat → Nat → Prop} {a : Nat} {l : List Nat} (h : Lk R l) (hr : ∀ b, l.head? = some b → R a b) : Lk R (a :: l) := by
  cases l with
  | nil => trivial
  | cons b l => exact ⟨hr b rfl, h⟩
theorem lk_append {R : Nat → Nat → Prop} {l m : List Nat} (h : Lk R l) (h' : Lk R m) (hr : ∀ a b, l.getLast? = some a → m.head? = some b → R a b) : Lk R (l ++ m) := by
  induction l with
  | nil => exact h'
  | cons a l ih =>
    cases l with
    | nil => exact lk_cons h' (fun b hb => hr a b rfl hb)
    | cons b l =>
      refine ⟨h.1, ih h.2 (fun x y hx hy => hr x y ?_ hy)⟩
      rw [List.getLast?_cons_cons]
      exact hx
theorem lk_at {R : Nat → Nat → Prop} {l : List Nat} (h : Lk R l) : ∀ i (hi : i + 1 < l.length), R l[i] l[i + 1] := by
  induction l with
  | nil => intro i hi; simp at hi
  | cons a l ih =>
    cases l with
    | nil => intro i hi; simp at hi
    | cons b l =>
      intro i hi
      cases i with
      | zero => exact h.1
      | succ i => exact ih h.2 i (by simpa using hi)
mutual
/-- The nodes of a tree that are met when those that are not wanted are passed by, with all in them. -/
def RT.preS (s : Nat → Bool) : RT → List Nat
  | .node i _ _ _ _ ks => i :: RT.preSL s ks
def RT.preSL (s : Nat → Bool) : List RT → List Nat
  | [] => []
  | k :: ks => if s k.id then RT.preS s k ++ RT.preSL s ks else RT.preSL s ks
end
theorem preS_ne (s : Nat → Bool) (r : RT) : ∃ l, r.preS s = r.id :: l := by cases r; exact ⟨_, rfl⟩
theorem preSL_head (s : Nat → Bool) (l : List RT) : (RT.preSL s l).head? = (l.map RT.id).find? s := by
  induction l with
  | nil => rfl
  | cons k l ih =>
    simp only [RT.preSL, List.map_cons, List.find?_cons]
    cases hs : s k.id with
    | true =>
      obtain ⟨m, hm⟩ := preS_ne s k
      simp [hm]
    | false => simpa using ih
/-- What first and next tell of the nodes of the table. -/
structure Nav (D : Tab) (first next : Nat → Option Nat) (s : Nat → Bool) : Prop where
  first : ∀ p i t a d at_ ks, Is D p (.node i t a d at_ ks) → first i = (ks.map RT.id).find? s
  next : ∀ p i t a d at_ l1 k l2, Is D p (.node i t a d at_ (l1 ++ k :: l2)) → next k.id = (l2.map RT.id).find? s
section
variable {D : Tab} {first next : Nat → Option Nat} {s : Nat → Bool} {until_ : Nat → Bool}
theorem succ_pre (hn : Nav D first next s) (r : RT) : ∀ p, Is D p r → (∀ k ∈ r.kids, ∀ x ∈ k.pre, until_ x = false) →
    Lk (fun a b => Nbr D first next until_ a (some b)) (r.preS s) ∧
    ∀ res, (first r.id = none → After D next until_ r.id res) → (first r.id ≠ none → (until_ r.id = true ∧ res = none) ∨ (until_ r.id = false ∧ After D next until_ r.id res)) → ∀ z, (r.preS s).getLast? = some z → Nbr D first next until_ z res := by
  induction r using RT.induct with
  | h i t a d at_ ks ih =>
    intro p hr hu
    have hf := hn.first _ _ _ _ _ _ _ hr
    have key : ∀ (l l1 : List RT), ks = l1 ++ l → Lk (fun a b => Nbr D first next until_ a (some b)) (RT.preSL s l) ∧
        ∀ res, (∀ k ∈ ks, ∃ n, GoUp D next until_ n k.id res) → ∀ z, (RT.preSL s l).getLast? = some z → Nbr D first next until_ z res := by
      intro l
      induction l with
      | nil => exact fun _ _ => ⟨trivial, fun _ _ z hz => by cases hz⟩
      | cons k l ihl =>
        intro l1 e
        obtain ⟨h1, h2⟩ := ihl (l1 ++ [k]) (by rw [e]; simp)
        simp only [RT.preSL]
        by_cases hs : s k.id = true
        · rw [if_pos hs]
          have hk : k ∈ ks := by rw [e]; simp
          have hik := hr.kid (k := k) hk
          obtain ⟨h3, h4⟩ := ih k hk _ hik (fun y hy x hx => hu k hk x (by
            cases k with
            | node ki kt ka kd kat kks =>
              simp only [RT.pre, List.mem_cons]
              exact .inr (RT.mem_preL.2 ⟨y, hy, hx⟩)))
          have huk : until_ k.id = false := hu k hk k.id (RT.id_mem k)
          have hnx : next k.id = (l.map RT.id).find? s := hn.next _ _ _ _ _ _ l1 k l (by rw [← e]; exact hr)
          have hhd := preSL_head s l
          refine ⟨lk_append h3 h1 (fun a b ha hb => ?_), fun res hg z hz => ?_⟩
          · have haf : After D next until_ k.id (some b) := .side b (by rw [hnx, ← hhd]; exact hb)
            exact h4 (some b) (fun _ => haf) (fun _ => .inr ⟨huk, haf⟩) a ha
          · cases hl : RT.preSL s l with
            | nil =>
              rw [hl, List.append_nil] at hz
              obtain ⟨n, hgk⟩ := hg k hk
              have haf : After D next until_ k.id res := .up n res (by rw [hnx, ← hhd, hl]; rfl) hgk
              exact h4 res (fun _ => haf) (fun _ => .inr ⟨huk, haf⟩) z hz
            | cons y m =>
              rw [hl, List.getLast?_append] at hz
              refine h2 res hg z ?_
              rw [hl]
              cases hm : (y :: m).getLast? with
              | none => simp at hm
              | some q => rw [hm] at hz; exact hz
        · rw [if_neg hs]
          exact ⟨h1, h2⟩
    obtain ⟨h1, h2⟩ := key ks [] rfl
    have hhd := preSL_head s ks
    show Lk _ (i :: RT.preSL s ks) ∧ _
    refine ⟨lk_cons h1 (fun b hb => .first b (by rw [hf, ← hhd]; exact hb)), fun res ha hb z hz => ?_⟩
    have hz2 : (i :: RT.preSL s ks).getLast? = some z := hz
    cases hl : RT.preSL s ks with
    | nil =>
      rw [hl] at hz2
      obtain rfl : i = z := by simpa using hz2
      have hfn : first i = none := by rw [hf, ← hhd, hl]; rfl
      exact .after res hfn (ha hfn)
    | cons y m =>
      rw [hl, List.getLast?_cons_cons] at hz2
      refine h2 res (fun k hk => ?_) z (by rw [hl]; exact hz2)
      have hroot := hr.root
      have hik := (hr.kid hk).root
      have hkp : ∀ i', D k.id = some i' → i'.parent = some i := by
        intro i' h'
        rw [hik] at h'
        obtain rfl := Option.some.inj h'
        cases k
        rfl
      have hDi : D i ≠ none := by
        have : D i = some _ := hroot
        rw [this]
        simp
      have hfs : first i ≠ none := by rw [hf, ← hhd, hl]; simp
      rcases hb hfs with ⟨hut, rfl⟩ | ⟨hut, haf⟩
      · exact ⟨0, .stop 0 k.id i _ hik (hkp _ hik) hDi hut⟩
      · cases haf with
        | side q hq => exact ⟨0, .side 0 k.id i q _ hik (hkp _ hik) hDi hut hq⟩
        | up n _ hq hg => exact ⟨n + 1, .up n k.id i _ res hik (hkp _ hik) hDi hut hq hg⟩
end
theorem preS_true (r : RT) : r.preS (fun _ => true) = r.pre := by
  induction r using RT.induct with
  | h i t a d at_ ks ih =>
    show i :: RT.preSL _ ks = i :: RT.preL ks
    congr 1
    induction ks with
    | nil => rfl
    | cons k ks ihk =>
      simp only [RT.preSL, RT.preL, if_true]
      rw [ih k (by simp), ihk (fun k' hk' => ih k' (by simp [hk']))]
end Go.Proofs.Ytibfoaahdbdogaa.Dom

/- impl.at: the node at a place. -/
namespace Go.Proofs.Ytibfoaahdbdogaa.Dom
open Go.RowKit Go.Proofs.YtibfoaahdbdogaaW.PrintWords Go.Proofs.YtibfoaahdbdogaaW.PrintLast Go.Proofs.YtibfoaahdbdogaaW.PrintMore Go.Proofs.Ytibfoaahdbdogaa.PDom
set_option linter.unusedVariables false
set_option linter.unusedSimpArgs false

/-- The node at a place. -/
def RT.at_ : RT → List Int → Option RT
  | r, [] => some r
  | r, k :: l => if 0 ≤ k then (r.kids[k.toNat]?).bind fun y => RT.at_ y l else none
theorem kid_next {w : World} {D : Tab} (h : Dom w D) {p : Option Nat} {r : RT} (hr : Is D p r) {j : Nat} {x : Nat} (hx : r.kids[j]?.map RT.id = some x) : w.cell? ⟨x, 4, none⟩ = some (ptr (r.kids[j + 1]?.map RT.id)) := by
  by_cases hj : j < r.kids.length
  · rw [List.getElem?_eq_getElem hj] at hx
    have := Is.next h hr hj
    rw [Option.some.inj hx] at this
    exact this
  · rw [List.getElem?_eq_none (by omega)] at hx
    cases hx
theorem RT.preL_len (l : List RT) : l.length ≤ (RT.preL l).length ∧ ∀ k ∈ l, k.pre.length ≤ (RT.preL l).length := by
  induction l with
  | nil => exact ⟨Nat.le_refl _, fun k hk => by cases hk⟩
  | cons x l ih =>
    have hx : 0 < x.pre.length := by cases x; simp [RT.pre]
    simp only [RT.preL, List.length_append, List.length_cons]
    refine ⟨by omega, fun k hk => ?_⟩
    rcases List.mem_cons.1 hk with rfl | hk
    · omega
    · have := ih.2 k hk
      omega
theorem RT.kids_lt (r : RT) : r.kids.length < r.pre.length := by
  cases r with
  | node i t a d at_ ks =>
    have := (RT.preL_len ks).1
    simp only [RT.kids, RT.pre, List.length_cons]
    omega
theorem RT.kid_pre {r k : RT} (h : k ∈ r.kids) : k.pre.length < r.pre.length := by
  cases r with
  | node i t a d at_ ks =>
    have := (RT.preL_len ks).2 k h
    simp only [RT.pre, List.length_cons]
    omega
set_option maxHeartbeats 4000000 in
set_option maxRecDepth 100000 in
theorem at_calls (w : World) (D : Tab) (hdom : Dom w D) (p0 : Option Nat) (r : RT) (hr : Is D p0 r) (A : Option Addr) (c : Nat) (l : List Int) (hl : (Kd.int .i64).C w A l.length l) (hll : l.length ≤ 4398046510976) (hk : r.pre.length ≤ 4398046510976) :
    Calls Try.prog 41 #[ptr (some r.id), .slice A l.length c] w fun e w' => e = .returned (ptr ((r.at_ l).map RT.id)) ∧ w' = w := by
  have HD := Aside0.mk hdom
  have HR := Aside0.mk hr
  have HL := Aside0.mk hl
  have HK := Aside0.mk hk
  clear hdom hr hl hk
  rw [ptr_some]
  go_enter Try.func41, Try.ntmps41
  go_wp2_with fail
  go_loop [5, 13] (fun vx vj => ∃ (j : Nat) (y : RT) (p : Option Nat), j ≤ l.length ∧ vj = .int .i64 j ∧ vx = ptr (some y.id) ∧ Aside0 (Is D p y) ∧ Aside0 (r.at_ l = y.at_ (l.drop j)) ∧ Aside0 (y.pre.length ≤ 4398046510976)) (fun _ vj => l.length - (intOf vj).toNat)
  case atStart => exact ⟨0, r, p0, Nat.zero_le _, rfl, rfl, HR, ⟨by rw [List.drop_zero]⟩, HK⟩
  case round =>
    obtain ⟨j, y, p, hj, rfl, rfl, HY, HE, HK⟩ := hrel
    by_cases hlt : j < l.length
    · obtain ⟨ad, rfl, hcell⟩ := Kd.at_int HL.out (j : Int) (by omega) (by omega)
      have he : rd l (j : Int) = l[j] := by simp [rd, List.getD_eq_getElem?_getD, List.getElem?_eq_getElem hlt]
      rw [he, Int.toNat_natCast] at hcell
      have hdr : l.drop j = l[j] :: l.drop (j + 1) := List.drop_eq_getElem_cons hlt
      have HDR := Aside0.mk hdr
      have hf := Is.first HD.out HY.out
      have HN := Aside0.mk (fun (i x : Nat) (hx : y.kids[i]?.map RT.id = some x) => kid_next HD.out HY.out hx)
      have hkl : y.kids.length ≤ 4398046510976 := by
        have h1 := HK.out
        have h2 := RT.kids_lt y
        omega
      clear he hdr
      generalize l[j] = k at *
      rw [ptr_some]
      have HID := Aside0.mk (show (Option.some y).map RT.id = some y.id from rfl)
      generalize y.id = yi at *
      go_wp2_with fail
      go_loop [8, 9] (fun vc vi => ∃ i : Nat, i ≤ y.kids.length ∧ (i = 0 ∨ (i : Int) ≤ k) ∧ vi = .int .i64 i ∧ vc = ptr (y.kids[i]?.map RT.id)) (fun _ vi => y.kids.length - (intOf vi).toNat)
      case atStart => exact ⟨0, Nat.zero_le _, .inl rfl, rfl, rfl⟩
      case round =>
        obtain ⟨i, hi, hik, rfl, rfl⟩ := hrel
        by_cases hil : i < y.kids.length
        · have hx : y.kids[i]?.map RT.id = some y.kids[i].id := by rw [List.getElem?_eq_getElem hil]; rfl
          have hn := HN.out i _ hx
          have HX := Aside0.mk (List.getElem?_eq_getElem hil)
          rw [hx, ptr_some]
          clear hx
          have HKI := Aside0.mk (HY.out.kid (List.getElem_mem hil))
          have HKP := Aside0.mk (show (y.kids[i]).pre.length ≤ 4398046510976 by have h1 := HK.out; have h2 := RT.kid_pre (List.getElem_mem hil); omega)
          generalize hyi : y.kids[i] = z at *
          have HZ := Aside0.mk hyi
          clear hyi
          generalize hzi : z.id = zi at *
          have HZI := Aside0.mk hzi
          clear hzi
          by_cases hlk : (i : Int) < k
          · go_wp2_with fail
            go_round
            case rel => exact ⟨i + 1, by omega, by omega, by go_num, rfl⟩
            case measure => simp [intOf]; omega
          · by_cases hk0 : k < 0
            · go_wp2_with fail
              go_ret
              refine ⟨?_, rfl⟩
              rw [HE.out, HDR.out]
              unfold RT.at_
              rw [if_neg (by omega)]
              rfl
            · go_wp2_with fail
              go_round
              case rel =>
                refine ⟨j + 1, z, _, by omega, by go_num, by rw [HZI.out]; rfl, HKI, ⟨?_⟩, HKP⟩
                rw [HE.out, HDR.out]
                have hik2 : k.toNat = i := by omega
                show (if 0 ≤ k then (y.kids[k.toNat]?).bind fun y => RT.at_ y (l.drop (j + 1)) else none) = _
                rw [if_pos (by omega), hik2, HX.out]
                rfl
              case measure => simp [intOf]; omega
        · have hie : i = y.kids.length := by omega
          subst hie
          rw [List.getElem?_eq_none (Nat.le_refl _)]
          simp only [Option.map_none, ptr_none]
          have hfin : (if 0 ≤ k then (y.kids[k.toNat]?).bind fun y => RT.at_ y (l.drop (j + 1)) else none) = none := by
            by_cases h0 : 0 ≤ k
            · rw [if_pos h0, List.getElem?_eq_none (by omega)]
              rfl
            · rw [if_neg h0]
          have HFIN := Aside0.mk hfin
          clear hfin
          by_cases hlk : ((y.kids.length : Nat) : Int) < k
          all_goals
            by_cases hk0 : k < 0
            all_goals
              go_wp2_with fail
              go_ret
              refine ⟨?_, rfl⟩
              rw [HE.out, HDR.out]
              show Ending.returned (ptr none) = Ending.returned (ptr (Option.map RT.id (if 0 ≤ k then (y.kids[k.toNat]?).bind fun y => RT.at_ y (l.drop (j + 1)) else none)))
              rw [HFIN.out]
              rfl
    · have hje : j = l.length := by omega
      subst hje
      generalize hyi : y.id = yi at *
      rw [ptr_some]
      have HYI := Aside0.mk hyi
      clear hyi
      go_wp2_with fail
      go_ret
      refine ⟨?_, rfl⟩
      rw [HE.out, List.drop_length]
      show _ = Ending.returned (ptr (some y.id))
      rw [HYI.out]
      rfl
end Go.Proofs.Ytibfoaahdbdogaa.Dom

/- A table holds one tree at a node; no node of a tree is met twice. Plain facts. -/
namespace Go.Proofs.Ytibfoaahdbdogaa.Dom
open Go.RowKit Go.Proofs.YtibfoaahdbdogaaW.PrintWords Go.Proofs.YtibfoaahdbdogaaW.PrintLast Go.Proofs.YtibfoaahdbdogaaW.PrintMore Go.Proofs.Ytibfoaahdbdogaa.PDom
set_option linter.unusedVariables false
set_option linter.unusedSimpArgs false

theorem Is.inj {D : Tab} (r : RT) : ∀ {p q : Option Nat} {y : RT}, Is D p r → Is D q y → r.id = y.id → r = y := by
  induction r using RT.induct with
  | h i t a d at_ ks ih =>
    intro p q y hr hy e
    cases y with
    | node i2 t2 a2 d2 at2 ks2 =>
      have e : i = i2 := e
      subst e
      have h1 : D i = some ⟨p, ks.map RT.id, t, a, d, at_⟩ := hr.root
      have h2 : D i = some ⟨q, ks2.map RT.id, t2, a2, d2, at2⟩ := hy.root
      rw [h1] at h2
      injection h2 with h2
      injection h2 with _ h3 h4 h5 h6 h7
      subst h4 h5 h6 h7
      have hl : ks.length = ks2.length := by
        have := congrArg List.length h3
        simpa using this
      have : ks = ks2 := by
        apply List.ext_getElem hl
        intro j hj1 hj2
        refine ih _ (List.getElem_mem hj1) (hr.kid (List.getElem_mem hj1)) (hy.kid (List.getElem_mem hj2)) ?_
        have h8 : (ks.map RT.id)[j]'(by simpa using hj1) = (ks2.map RT.id)[j]'(by simpa using hj2) := by simp only [h3]
        simpa using h8
      rw [this]
theorem Is.sub {D : Tab} (r : RT) : ∀ {p : Option Nat} {x : Nat}, Is D p r → x ∈ r.pre → ∃ q y, Is D q y ∧ y.id = x ∧ y.pre.length ≤ r.pre.length ∧ (x = r.id ∨ ∃ z, q = some z ∧ z ∈ r.pre) := by
  induction r using RT.induct with
  | h i t a d at_ ks ih =>
    intro p x hr hx
    have hx2 : x = i ∨ x ∈ RT.preL ks := by simpa [RT.pre] using hx
    rcases hx2 with rfl | hx2
    · exact ⟨p, _, hr, rfl, Nat.le_refl _, .inl rfl⟩
    · obtain ⟨k, hk, hxk⟩ := RT.mem_preL.1 hx2
      obtain ⟨q, y, h1, h2, h3, h4⟩ := ih k hk (hr.kid hk) hxk
      have h5 : k.pre.length < (RT.node i t a d at_ ks).pre.length := RT.kid_pre (r := .node i t a d at_ ks) hk
      rcases h4 with h4 | ⟨z, rfl, hz⟩
      · have hyk : y = k := (Is.inj k (hr.kid hk) h1 (by rw [h2, h4])).symm
        subst hyk
        exact ⟨some i, y, hr.kid hk, h2, by omega, .inr ⟨i, rfl, by simp [RT.pre]⟩⟩
      · exact ⟨some z, y, h1, h2, by omega, .inr ⟨z, rfl, by simp only [RT.pre, List.mem_cons]; exact .inr (RT.mem_preL.2 ⟨k, hk, hz⟩)⟩⟩
/-- A node isn't met again below itself. -/
theorem Is.proper {D : Tab} {p : Option Nat} {r k : RT} {x : Nat} (h : Is D p r) (hk : k ∈ r.kids) (hx : x ∈ k.pre) : x ≠ r.id := by
  intro e
  obtain ⟨q, y, h1, h2, h3, _⟩ := Is.sub k (h.kid hk) hx
  have hy : r = y := Is.inj r h h1 (by rw [h2, e])
  have h4 := RT.kid_pre hk
  rw [hy] at h4
  omega
theorem Is.parent_of {D : Tab} {q : Option Nat} {y : RT} (h : Is D q y) {i : Info} (hi : D y.id = some i) : i.parent = q := by
  have := h.root
  rw [hi] at this
  obtain rfl := Option.some.inj this
  cases y
  rfl
/-- The children's trees have no node in common. -/
theorem Is.apart {D : Tab} {p : Option Nat} {r : RT} (wf : WF D) (h : Is D p r) : ∀ (n : Nat) {k1 k2 : RT} {x : Nat}, k1 ∈ r.kids → k2 ∈ r.kids → x ∈ k1.pre → x ∈ k2.pre → k1.pre.length ≤ n → k1.id = k2.id := by
  intro n
  -- the way up from x meets a child of r in each case
  have key : ∀ (m : Nat) (k1 : RT), k1 ∈ r.kids → ∀ (q : Option Nat) (y : RT), Is D q y → y.id ∈ k1.pre → ∀ (k2 : RT), k2 ∈ r.kids → y.id ∈ k2.pre → k1.pre.length - y.pre.length ≤ m → k1.id = k2.id := by
    intro m
    induction m with
    | zero =>
      intro k1 hk1 q y hy h1 k2 hk2 h2 hm
      obtain ⟨q1, y1, a1, a2, a3, a4⟩ := Is.sub k1 (h.kid hk1) h1
      have e1 : y1 = y := Is.inj y1 a1 hy a2
      subst e1
      rcases a4 with a4 | ⟨z, rfl, hz⟩
      · obtain ⟨q2, y2, b1, b2, b3, b4⟩ := Is.sub k2 (h.kid hk2) h2
        rcases b4 with b4 | ⟨z, rfl, hz⟩
        · rw [← a4, ← b4]
        · have e2 : y2 = y1 := Is.inj y2 b1 hy b2
          subst e2
          have e3 : k1 = y2 := Is.inj k1 (h.kid hk1) hy (by rw [a4])
          subst e3
          have e4 := Is.parent_of b1 (h.kid hk1).root
          have e5 := Is.parent_of (h.kid hk1) (h.kid hk1).root
          rw [e4] at e5
          have e6 : z = r.id := Option.some.inj e5
          exact absurd e6 (h.proper hk2 hz)
      · exfalso
        obtain ⟨q3, y3, c1, c2, c3, _⟩ := Is.sub k1 (h.kid hk1) hz
        have hyk : y1.id ∈ (y3.info q3).kids := by
          obtain ⟨ip, d1, d2⟩ := wf.up a1.root (show (y1.info (some z)).parent = some z by cases y1; rfl)
          have := c1.root
          rw [c2, d1] at this
          obtain rfl := Option.some.inj this
          exact d2
        have e7 : (y3.info q3).kids = y3.kids.map RT.id := by cases y3; rfl
        rw [e7] at hyk
        obtain ⟨y4, d3, d4⟩ := List.mem_map.1 hyk
        have e8 : y4 = y1 := Is.inj y4 (c1.kid d3) a1 d4
        subst e8
        have := RT.kid_pre d3
        omega
    | succ m ih =>
      intro k1 hk1 q y hy h1 k2 hk2 h2 hm
      obtain ⟨q1, y1, a1, a2, a3, a4⟩ := Is.sub k1 (h.kid hk1) h1
      have e1 : y1 = y := Is.inj y1 a1 hy a2
      subst e1
      obtain ⟨q2, y2, b1, b2, b3, b4⟩ := Is.sub k2 (h.kid hk2) h2
      have e2 : y2 = y1 := Is.inj y2 b1 hy b2
      subst e2
      have hq : q1 = q2 := (Is.parent_of a1 a1.root).symm.trans (Is.parent_of b1 a1.root)
      subst hq
      rcases a4 with a4 | ⟨z, rfl, hz⟩
      · rcases b4 with b4 | ⟨z, rfl, hz⟩
        · rw [← a4, ← b4]
        · have e3 : k1 = y2 := Is.inj k1 (h.kid hk1) hy (by rw [a4])
          subst e3
          have e5 := Is.parent_of (h.kid hk1) (h.kid hk1).root
          rw [Is.parent_of a1 (h.kid hk1).root] at e5
          have e6 : z = r.id := Option.some.inj e5
          exact absurd e6 (h.proper hk2 hz)
      · rcases b4 with b4 | ⟨z2, hz2, hz3⟩
        · have e3 : k2 = y2 := Is.inj k2 (h.kid hk2) hy (by rw [b4])
          subst e3
          have e5 := Is.parent_of (h.kid hk2) (h.kid hk2).root
          rw [Is.parent_of a1 (h.kid hk2).root] at e5
          have e6 : z = r.id := Option.some.inj e5
          exact absurd e6 (h.proper hk1 hz)
        · have e9 : z = z2 := Option.some.inj hz2
          subst e9
          obtain ⟨q3, y3, c1, c2, c3, _⟩ := Is.sub k1 (h.kid hk1) hz
          have hyk : y2.id ∈ (y3.info q3).kids := by
            obtain ⟨ip, d1, d2⟩ := wf.up a1.root (show (y2.info (some z)).parent = some z by cases y2; rfl)
            have := c1.root
            rw [c2, d1] at this
            obtain rfl := Option.some.inj this
            exact d2
          have e7 : (y3.info q3).kids = y3.kids.map RT.id := by cases y3; rfl
          rw [e7] at hyk
          obtain ⟨y4, d3, d4⟩ := List.mem_map.1 hyk
          have e8 : y4 = y2 := Is.inj y4 (c1.kid d3) a1 d4
          subst e8
          have hlt := RT.kid_pre d3
          exact ih k1 hk1 q3 y3 c1 (by rw [c2]; exact hz) k2 hk2 (by rw [c2]; exact hz3) (by omega)
  intro k1 k2 x hk1 hk2 h1 h2 _
  obtain ⟨q, y, a1, a2, _, _⟩ := Is.sub k1 (h.kid hk1) h1
  exact key k1.pre.length k1 hk1 q y a1 (by rw [a2]; exact h1) k2 hk2 (by rw [a2]; exact h2) (by omega)
theorem Is.nodup {D : Tab} (wf : WF D) (r : RT) : ∀ {p : Option Nat}, Is D p r → r.pre.Nodup := by
  induction r using RT.induct with
  | h i t a d at_ ks ih =>
    intro p hr
    have hkn : (ks.map RT.id).Nodup := wf.nodup hr.root
    show (i :: RT.preL ks).Nodup
    rw [List.nodup_cons]
    refine ⟨fun hi => ?_, ?_⟩
    · obtain ⟨k, hk, hx⟩ := RT.mem_preL.1 hi
      exact hr.proper (r := .node i t a d at_ ks) hk hx rfl
    · have key : ∀ (l l1 : List RT), ks = l1 ++ l → (RT.preL l).Nodup := by
        intro l
        induction l with
        | nil => exact fun _ _ => List.nodup_nil
        | cons k l ihl =>
          intro l1 e
          have hk : k ∈ ks := by rw [e]; simp
          have h1 := ihl (l1 ++ [k]) (by rw [e]; simp)
          have h2 := ih k hk (hr.kid (r := .node i t a d at_ ks) hk)
          simp only [RT.preL]
          rw [List.nodup_append]
          refine ⟨h2, h1, fun x hx y hy exy => ?_⟩
          subst exy
          obtain ⟨k2, hk2, hx2⟩ := RT.mem_preL.1 hy
          have hk2' : k2 ∈ ks := by rw [e]; simp [hk2]
          have e3 := Is.apart wf hr (r := .node i t a d at_ ks) k.pre.length hk hk2' hx hx2 (Nat.le_refl _)
          rw [e, List.map_append, List.map_cons, List.nodup_append] at hkn
          have h4 := (List.nodup_cons.1 hkn.2.1).1
          exact h4 (by rw [e3]; exact List.mem_map_of_mem hk2)
      exact key ks [] rfl
end Go.Proofs.Ytibfoaahdbdogaa.Dom

/- Two nodes compared. -/
namespace Go.Proofs.Ytibfoaahdbdogaa.Dom
open Go.RowKit Go.Proofs.YtibfoaahdbdogaaW.PrintWords Go.Proofs.YtibfoaahdbdogaaW.PrintLast Go.Proofs.YtibfoaahdbdogaaW.PrintMore Go.Proofs.Ytibfoaahdbdogaa.PDom
set_option linter.unusedVariables false
set_option linter.unusedSimpArgs false

theorem infoN : (Try.prog.info? 86).map (fun i => i.size) = some 10 := by kernel_rfl
theorem eql_in {w : World} {x y : Nat} {r r' : Rec} (hx : Has w x r) (hy : Has w y r') (d : Nat) : (Op.equalIn (d + 1) 59 (.pointer (some ⟨x, 0, none⟩)) (.pointer (some ⟨y, 0, none⟩))).run Try.prog w = .ok (x == y) w := by
  obtain ⟨j, hj, hs⟩ := Option.map_eq_some_iff.1 infoN
  by_cases h : x = y
  · subst h
    simp [Op.equalIn, run_underlying Try.underlying59, sizeOf, typeInfo, hj, run_sameAddr_same]
  · have hne : (⟨x, 0, none⟩ : Addr) ≠ ⟨y, 0, none⟩ := fun e => h (congrArg Addr.block e)
    simp [Op.equalIn, run_underlying Try.underlying59, sizeOf, typeInfo, hj, hs, run_sameAddr_other w hne hx hy, h]
theorem eql_nodes {w : World} {x y : Nat} {r r' : Rec} (hx : Has w x r) (hy : Has w y r') : (binOp .eql 59 (.pointer (some ⟨x, 0, none⟩)) (.pointer (some ⟨y, 0, none⟩))).run Try.prog w = .ok (.bool (x == y)) w := by
  simp only [binOp]
  simp [Op.equal, Op.maxDepth, eql_in hx hy 9999]
end Go.Proofs.Ytibfoaahdbdogaa.Dom

/- dom.FindFirstNode, FindAllNodes, ContainsNode: the first node, and all nodes, below a node of which a function is true. -/
namespace Go.Proofs.Ytibfoaahdbdogaa.Dom
open Go.RowKit Go.Proofs.YtibfoaahdbdogaaW.PrintWords Go.Proofs.YtibfoaahdbdogaaW.PrintLast Go.Proofs.YtibfoaahdbdogaaW.PrintMore Go.Proofs.Ytibfoaahdbdogaa.PDom
set_option linter.unusedVariables false
set_option linter.unusedSimpArgs false

def firstD (D : Tab) (x : Nat) : Option Nat := match D x with
  | some i => i.kids.head?
  | none => none
def nextD (D : Tab) (x : Nat) : Option Nat := match D x with
  | some i => nextIn (sibs D i) x
  | none => none
theorem tells_first {w : World} {D : Tab} (h : Dom w D) : TellsN w D 61 (firstD D) := by
  intro x hx
  cases hi : D x with
  | none => exact absurd hi hx
  | some i =>
    obtain ⟨v, hv, _⟩ := h.has hi
    have e : firstD D x = i.kids.head? := by unfold firstD; rw [hi]
    rw [e]
    exact firstN_calls w x _ hv.cells10.2.1 ⟨_, rfl⟩
theorem tells_next {w : World} {D : Tab} (h : Dom w D) : TellsN w D 62 (nextD D) := by
  intro x hx
  cases hi : D x with
  | none => exact absurd hi hx
  | some i =>
    obtain ⟨v, hv, _⟩ := h.has hi
    have e : nextD D x = nextIn (sibs D i) x := by unfold nextD; rw [hi]
    rw [e]
    exact nextN_calls w x _ hv.cells10.2.2.2.2.1 ⟨_, rfl⟩
theorem nav_all {D : Tab} (wf : WF D) : Nav D (firstD D) (nextD D) (fun _ => true) := by
  constructor
  · intro p i t a d at_ ks h
    have e : D i = some _ := h.root
    unfold firstD
    rw [e]
    show (ks.map RT.id).head? = _
    cases ks <;> rfl
  · intro p i t a d at_ l1 k l2 h
    have hk := h.kid (r := .node i t a d at_ (l1 ++ k :: l2)) (k := k) (by simp [RT.kids])
    have hroot : D i = some _ := h.root
    have hp : (k.info (some i)).parent = some i := by cases k; rfl
    have hnd := wf.nodup hroot
    have e1 : ((RT.node i t a d at_ (l1 ++ k :: l2)).info p).kids = l1.map RT.id ++ k.id :: l2.map RT.id := by simp [RT.info]
    rw [e1] at hnd
    unfold nextD
    rw [hk.root]
    show nextIn (sibs D (k.info (some i))) k.id = _
    rw [sibs_some hp, kidsOf_some hroot, e1, nextIn_split (nodup_split hnd).1]
    cases l2 <;> rfl
theorem enters_first : Enters 61 := fun _ _ => by kernel_rfl
theorem enters_next : Enters 62 := fun _ _ => by kernel_rfl
theorem enters_stop1 : Enters 65 := fun _ _ => by kernel_rfl
theorem enters_stop2 : Enters 63 := fun _ _ => by kernel_rfl
theorem stop1_calls (w : World) (D : Tab) (hdom : Dom w D) (b st : Nat) (hst : D st ≠ none) (hb : w.heap[b]? = some (.cells #[ptr (some st)] 59 (0, 0))) : TellsB w D 65 #[.pointer (some ⟨b, 0, none⟩)] (fun x => x == st) := by
  intro x hx
  have hq : (binOp .eql 59 (.pointer (some ⟨x, 0, none⟩)) (.pointer (some ⟨st, 0, none⟩))).run Try.prog w = .ok (.bool (x == st)) w := by
    cases h1 : D x with
    | none => exact absurd h1 hx
    | some i =>
      cases h2 : D st with
      | none => exact absurd h2 hst
      | some i2 =>
        obtain ⟨_, hv, _⟩ := hdom.has h1
        obtain ⟨_, hv2, _⟩ := hdom.has h2
        exact eql_nodes hv hv2
  clear hx hst hdom
  have c : w.cell? ⟨b, 0, none⟩ = some (.pointer (some ⟨st, 0, none⟩)) := by rw [blk_cell hb]; rfl
  clear hb
  show Calls _ _ #[ptr (some x), .pointer (some ⟨b, 0, none⟩)] _ _
  rw [ptr_some]
  go_enter Try.func65, Try.ntmps65
  go_wp2
  go_ret
  exact ⟨rfl, rfl⟩
theorem stop2_calls (w : World) (D : Tab) (hdom : Dom w D) (b st : Nat) (hst : D st ≠ none) (hb : w.heap[b]? = some (.cells #[ptr (some st)] 59 (0, 0))) : TellsB w D 63 #[.pointer (some ⟨b, 0, none⟩)] (fun x => x == st) := by
  intro x hx
  have hq : (binOp .eql 59 (.pointer (some ⟨x, 0, none⟩)) (.pointer (some ⟨st, 0, none⟩))).run Try.prog w = .ok (.bool (x == st)) w := by
    cases h1 : D x with
    | none => exact absurd h1 hx
    | some i =>
      cases h2 : D st with
      | none => exact absurd h2 hst
      | some i2 =>
        obtain ⟨_, hv, _⟩ := hdom.has h1
        obtain ⟨_, hv2, _⟩ := hdom.has h2
        exact eql_nodes hv hv2
  clear hx hst hdom
  have c : w.cell? ⟨b, 0, none⟩ = some (.pointer (some ⟨st, 0, none⟩)) := by rw [blk_cell hb]; rfl
  clear hb
  show Calls _ _ #[ptr (some x), .pointer (some ⟨b, 0, none⟩)] _ _
  rw [ptr_some]
  go_enter Try.func63, Try.ntmps63
  go_wp2
  go_ret
  exact ⟨rfl, rfl⟩
/-- The three boxes that the function of initGetNeighbor holds. -/
def boxes3 (w : World) (v1 v2 v3 : Value) : World := ((w.alloc (.cells #[v1] 90)).alloc (.cells #[v2] 90)).alloc (.cells #[v3] 67)
def nbrFn (n : Nat) : Value := .func (Fn.func 83) #[] #[.pointer (some ⟨n, 0, none⟩), .pointer (some ⟨n + 1, 0, none⟩), .pointer (some ⟨n + 2, 0, none⟩)]
theorem init_calls (w : World) (f1 fN fU : Nat) (cu : Array Value) :
    Calls Try.prog 60 #[.func (Fn.func f1) #[] #[], .func (Fn.func fN) #[] #[], .func (Fn.func fU) #[] cu] w fun e w' => e = .returned (nbrFn w.heap.size) ∧ w' = boxes3 w (.func (Fn.func f1) #[] #[]) (.func (Fn.func fN) #[] #[]) (.func (Fn.func fU) #[] cu) := by
  have hmf : ∀ (fn : Fn) (first cap : Array Value) (w : World), (Instr.makeFunc fn first cap).run Try.prog w = .ok (.func fn first cap) w := fun _ _ _ _ => rfl
  go_enter Try.func60, Try.ntmps60
  go_wp2
  go_ret
  exact ⟨rfl, rfl⟩
theorem boxes_at (w : World) (v1 v2 v3 : Value) : (boxes3 w v1 v2 v3).heap[w.heap.size]? = some (.cells #[v1] 90 (0, 0)) ∧ (boxes3 w v1 v2 v3).heap[w.heap.size + 1]? = some (.cells #[v2] 90 (0, 0)) ∧ (boxes3 w v1 v2 v3).heap[w.heap.size + 2]? = some (.cells #[v3] 67 (0, 0)) := by
  unfold boxes3
  refine ⟨?_, ?_, ?_⟩
  · show (((w.heap.push _).push _).push _)[w.heap.size]? = _
    rw [Array.getElem?_push, if_neg (by simp only [Array.size_push]; omega), Array.getElem?_push, if_neg (by simp only [Array.size_push]; omega), Array.getElem?_push, if_pos rfl]
  · show (((w.heap.push _).push _).push _)[w.heap.size + 1]? = _
    rw [Array.getElem?_push, if_neg (by simp only [Array.size_push]; omega), Array.getElem?_push, if_pos (by simp only [Array.size_push])]
  · show (((w.heap.push _).push _).push _)[w.heap.size + 2]? = _
    rw [Array.getElem?_push, if_pos (by simp only [Array.size_push])]
theorem boxes_below (w : World) (v1 v2 v3 : Value) : Below w.heap.size w (boxes3 w v1 v2 v3) := below_alloc (below_alloc (below_alloc (Below.refl _ _) _) _) _
end Go.Proofs.Ytibfoaahdbdogaa.Dom

/- dom.FindFirstNode and FindAllNodes: their contracts. -/
namespace Go.Proofs.Ytibfoaahdbdogaa.Dom
open Go.RowKit Go.Proofs.YtibfoaahdbdogaaW.PrintWords Go.Proofs.YtibfoaahdbdogaaW.PrintLast Go.Proofs.YtibfoaahdbdogaaW.PrintMore Go.Proofs.Ytibfoaahdbdogaa.PDom
set_option linter.unusedVariables false
set_option linter.unusedSimpArgs false

/-- The nodes below a node, in order. -/
def RT.low (r : RT) : List Nat := RT.preL r.kids
theorem pre_low (r : RT) : r.pre = r.id :: r.low := by cases r; rfl
theorem low_first (r : RT) : r.low[0]? = r.kids[0]?.map RT.id := by
  cases r with
  | node i t a d at_ ks =>
    show (RT.preL ks)[0]? = ks[0]?.map RT.id
    cases ks with
    | nil => rfl
    | cons k ks => cases k; rfl
theorem low_in {D : Tab} {p : Option Nat} {r : RT} (h : Is D p r) {x : Nat} (hx : x ∈ r.low) : D x ≠ none ∧ x ≠ r.id := by
  obtain ⟨k, hk, hxk⟩ := RT.mem_preL.1 hx
  obtain ⟨q, y, h1, h2, _⟩ := Is.sub k (h.kid hk) hxk
  refine ⟨?_, h.proper hk hxk⟩
  rw [← h2, h1.root]
  simp
theorem low_nbr {D : Tab} (wf : WF D) {p : Option Nat} {r : RT} (h : Is D p r) (i : Nat) (hi : i < r.low.length) : Nbr D (firstD D) (nextD D) (fun x => x == r.id) r.low[i] r.low[i + 1]? := by
  obtain ⟨h1, h2⟩ := succ_pre (until_ := fun x => x == r.id) (nav_all wf) r p h (fun k hk x hx => by
    have := h.proper hk hx
    simpa using this)
  rw [preS_true, pre_low] at h1 h2
  by_cases hl : i + 1 < r.low.length
  · have := lk_at h1 (i + 1) (by simpa using hl)
    rw [List.getElem?_eq_getElem hl]
    simpa using this
  · rw [List.getElem?_eq_none (by omega)]
    have hlast : (r.id :: r.low).getLast? = some r.low[i] := by
      rw [List.getLast?_eq_getElem?]
      have e : (r.id :: r.low).length - 1 = i + 1 := by simp; omega
      rw [e, List.getElem?_cons_succ, List.getElem?_eq_getElem hi]
    refine h2 none (fun hf => ?_) (fun _ => .inl ⟨by simp, rfl⟩) _ hlast
    exfalso
    have h3 := (nav_all wf).first
    cases r with
    | node ri t a d at_ ks =>
      have h4 := h3 p ri t a d at_ ks h
      have h5 : firstD D ri = none := hf
      rw [h5] at h4
      cases ks with
      | nil => simp [RT.low, RT.kids, RT.preL] at hi
      | cons k ks => simp at h4
set_option maxHeartbeats 400000 in
set_option maxRecDepth 100000 in
theorem findfirst_calls (w : World) (D : Tab) (hdom : Dom w D) (p : Option Nat) (r : RT) (hr : Is D p r) (fm : Nat) (cm : Array Value) (m : Nat → Bool) (EM : Enters fm) (HM : ∀ w', Below w.heap.size w w' → TellsB w' D fm cm m) :
    Calls Try.prog 44 #[ptr (some r.id), .func (Fn.func fm) #[] cm] w fun e w' => e = .returned (ptr (r.low.find? m)) ∧ Below w.heap.size w w' := by
  have hmf : ∀ (fn : Fn) (first cap : Array Value) (w : World), (Instr.makeFunc fn first cap).run Try.prog w = .ok (.func fn first cap) w := fun _ _ _ _ => rfl
  have eM : ∀ (args : Array Value) (w : World), (callFunc fm args).run Try.prog w = .ok (.enter fm args) w := EM
  have eN : ∀ (args : Array Value) (w : World), (callFunc 83 args).run Try.prog w = .ok (.enter 83 args) w := fun _ _ => by kernel_rfl
  have HM0 := Aside0.mk HM
  have HD := Aside0.mk hdom
  have HR := Aside0.mk hr
  have hst : D r.id ≠ none := by rw [hr.root]; simp
  have HW1 := Aside0.mk (below_alloc (Below.refl w.heap.size w) (.cells #[ptr (some r.id)] 59))
  have HI := Aside0.mk (init_calls (w.alloc (.cells #[ptr (some r.id)] 59)) 61 62 65 #[.pointer (some ⟨w.heap.size, 0, none⟩)])
  have HA := Aside0.mk (boxes_at (w.alloc (.cells #[ptr (some r.id)] 59)) (.func (Fn.func 61) #[] #[]) (.func (Fn.func 62) #[] #[]) (.func (Fn.func 65) #[] #[.pointer (some ⟨w.heap.size, 0, none⟩)]))
  have HB := Aside0.mk (below_step HW1.out (boxes_below (w.alloc (.cells #[ptr (some r.id)] 59)) (.func (Fn.func 61) #[] #[]) (.func (Fn.func 62) #[] #[]) (.func (Fn.func 65) #[] #[.pointer (some ⟨w.heap.size, 0, none⟩)])))
  have HS := Aside0.mk (blk_below (blk_new w (.cells #[ptr (some r.id)] 59)) (boxes_below (w.alloc (.cells #[ptr (some r.id)] 59)) (.func (Fn.func 61) #[] #[]) (.func (Fn.func 62) #[] #[]) (.func (Fn.func 65) #[] #[.pointer (some ⟨w.heap.size, 0, none⟩)])))
  have hfirst := hr.first (hdom.below HB.out)
  rw [← low_first] at hfirst
  have HST := Aside0.mk hst
  have hsz : (w.alloc (.cells #[ptr (some r.id)] 59)).heap.size = w.heap.size + 1 := by show (w.heap.push _).size = _; rw [Array.size_push]
  rw [hsz] at HI HA
  have HN := Aside0.mk (fun i (hi : i < r.low.length) => low_nbr hdom.wf hr i hi)
  have HL := Aside0.mk (fun x (hx : x ∈ r.low) => (low_in hr hx).1)
  clear EM HM hdom hr hst hsz HW1
  generalize hw2 : boxes3 (w.alloc (.cells #[ptr (some r.id)] 59)) (.func (Fn.func 61) #[] #[]) (.func (Fn.func 62) #[] #[]) (.func (Fn.func 65) #[] #[.pointer (some ⟨w.heap.size, 0, none⟩)]) = w2 at *
  have c0 : w2.cell? ⟨w.heap.size, 0, none⟩ = some (ptr (some r.id)) := by rw [blk_cell HS.out]; rfl
  have HNB := Aside0.mk (fun i (hi : i < r.low.length) => nbr_fn w2 D (HD.out.below HB.out) 61 62 65 #[.pointer (some ⟨w.heap.size, 0, none⟩)] (firstD D) (nextD D) (fun x => x == r.id) (w.heap.size + 1) (w.heap.size + 1 + 1) (w.heap.size + 1 + 2) HA.out.1 HA.out.2.1 HA.out.2.2
    enters_first enters_next enters_stop1 (tells_first (HD.out.below HB.out)) (tells_next (HD.out.below HB.out)) (stop1_calls w2 D (HD.out.below HB.out) w.heap.size r.id HST.out HS.out) _ (HL.out _ (List.getElem_mem hi)) _ (HN.out i hi))
  have HMM := Aside0.mk (HM0.out w2 HB.out)
  clear HA HS HM0 HN HR HST hw2
  generalize r.low = l at *
  generalize r.id = ri at *
  simp only [ptr_some, nbrFn] at HI c0 ⊢
  have hz : ∀ n : Nat, n + 1 + 1 = n + 2 := fun n => rfl
  clear hz
  go_enter Try.func44, Try.ntmps44
  go_wp2_with fail
  refine HI.out.mono ?_
  rintro e w3 ⟨rfl, rfl⟩
  go_wp2_with fail
  clear HI
  go_loopg [6] l.length (fun n vc wr => ∃ i, n = l.length - i ∧ i ≤ l.length ∧ wr = w3 ∧ vc = ptr l[i]? ∧ Aside0 (l.find? m = (l.drop i).find? m))
  case atStart => exact ⟨0, rfl, Nat.zero_le _, rfl, rfl, ⟨by rw [List.drop_zero]⟩⟩
  case round =>
    obtain ⟨i, rfl, hi, rfl, rfl, HF⟩ := hrel
    by_cases hlt : i < l.length
    · have HC := Aside0.mk (HMM.out l[i] (HL.out _ (List.getElem_mem hlt)))
      have HC2 := Aside0.mk (HNB.out i hlt)
      have HFD := Aside0.mk (find_drop (P := m) hlt)
      clear hfirst
      rw [List.getElem?_eq_getElem hlt, ptr_some]
      generalize l[i] = x at *
      rw [ptr_some] at HC HC2
      cases hm : m x with
      | true =>
        rw [hm] at HC HFD
        clear HC2 hm
        go_wp2_with fail
        refine HC.out.mono ?_
        rintro e w4 ⟨rfl, rfl⟩
        go_wp2_with fail
        go_ret
        refine ⟨?_, HB.out⟩
        rw [HF.out, HFD.out]
        rfl
      | false =>
        rw [hm] at HC HFD
        clear hm
        go_wp2_with fail
        refine HC.out.mono ?_
        rintro e w4 ⟨rfl, rfl⟩
        go_wp2_with fail
        refine HC2.out.mono ?_
        rintro e w4 ⟨rfl, rfl⟩
        go_wp2_with fail
        go_roundg (l.length - (i + 1))
        case rel => exact ⟨i + 1, rfl, by omega, rfl, rfl, ⟨by rw [HF.out, HFD.out]; rfl⟩⟩
        case measure => omega
    · have hie : i = l.length := by omega
      subst hie
      clear hfirst
      rw [List.getElem?_eq_none (Nat.le_refl _), ptr_none]
      go_wp2_with fail
      go_ret
      refine ⟨?_, HB.out⟩
      rw [HF.out, List.drop_length]
      rfl
set_option maxHeartbeats 400000 in
set_option maxRecDepth 100000 in
theorem findall_calls (w : World) (D : Tab) (hdom : Dom w D) (p : Option Nat) (r : RT) (hr : Is D p r) (fm : Nat) (cm : Array Value) (m : Nat → Bool) (hlen : r.low.length ≤ 4398046510976) (EM : Enters fm) (HM : ∀ w', Below w.heap.size w w' → TellsB w' D fm cm m) :
    Calls Try.prog 42 #[ptr (some r.id), .func (Fn.func fm) #[] cm] w fun e w' => ∃ v, e = .returned v ∧ kP.R 59 w' w.heap.size (fun _ => True) v (r.low.filter m) ∧ Below w.heap.size w w' := by
  have hmf : ∀ (fn : Fn) (first cap : Array Value) (w : World), (Instr.makeFunc fn first cap).run Try.prog w = .ok (.func fn first cap) w := fun _ _ _ _ => rfl
  have eM : ∀ (args : Array Value) (w : World), (callFunc fm args).run Try.prog w = .ok (.enter fm args) w := EM
  have eN : ∀ (args : Array Value) (w : World), (callFunc 83 args).run Try.prog w = .ok (.enter 83 args) w := fun _ _ => by kernel_rfl
  have HM0 := Aside0.mk HM
  have HD := Aside0.mk hdom
  have HR := Aside0.mk hr
  have hst : D r.id ≠ none := by rw [hr.root]; simp
  have HW1 := Aside0.mk (below_alloc (Below.refl w.heap.size w) (.cells #[ptr (some r.id)] 59))
  have HI := Aside0.mk (init_calls (w.alloc (.cells #[ptr (some r.id)] 59)) 61 62 63 #[.pointer (some ⟨w.heap.size, 0, none⟩)])
  have HA := Aside0.mk (boxes_at (w.alloc (.cells #[ptr (some r.id)] 59)) (.func (Fn.func 61) #[] #[]) (.func (Fn.func 62) #[] #[]) (.func (Fn.func 63) #[] #[.pointer (some ⟨w.heap.size, 0, none⟩)]))
  have HB := Aside0.mk (below_step HW1.out (boxes_below (w.alloc (.cells #[ptr (some r.id)] 59)) (.func (Fn.func 61) #[] #[]) (.func (Fn.func 62) #[] #[]) (.func (Fn.func 63) #[] #[.pointer (some ⟨w.heap.size, 0, none⟩)])))
  have HS := Aside0.mk (blk_below (blk_new w (.cells #[ptr (some r.id)] 59)) (boxes_below (w.alloc (.cells #[ptr (some r.id)] 59)) (.func (Fn.func 61) #[] #[]) (.func (Fn.func 62) #[] #[]) (.func (Fn.func 63) #[] #[.pointer (some ⟨w.heap.size, 0, none⟩)])))
  have hfirst := hr.first (hdom.below HB.out)
  rw [← low_first] at hfirst
  have HST := Aside0.mk hst
  have hsz : (w.alloc (.cells #[ptr (some r.id)] 59)).heap.size = w.heap.size + 1 := by show (w.heap.push _).size = _; rw [Array.size_push]
  rw [hsz] at HI HA
  have HN := Aside0.mk (fun i (hi : i < r.low.length) => low_nbr hdom.wf hr i hi)
  have HL := Aside0.mk (fun x (hx : x ∈ r.low) => (low_in hr hx).1)
  clear EM HM hdom hr hst hsz HW1
  generalize hw2 : boxes3 (w.alloc (.cells #[ptr (some r.id)] 59)) (.func (Fn.func 61) #[] #[]) (.func (Fn.func 62) #[] #[]) (.func (Fn.func 63) #[] #[.pointer (some ⟨w.heap.size, 0, none⟩)]) = w2 at *
  have c0 : w2.cell? ⟨w.heap.size, 0, none⟩ = some (ptr (some r.id)) := by rw [blk_cell HS.out]; rfl
  have HNB := Aside0.mk (fun wx (hx : Below w2.heap.size w2 wx) i (hi : i < r.low.length) => nbr_fn wx D ((HD.out.below HB.out).below hx) 61 62 63 #[.pointer (some ⟨w.heap.size, 0, none⟩)] (firstD D) (nextD D) (fun x => x == r.id) (w.heap.size + 1) (w.heap.size + 1 + 1) (w.heap.size + 1 + 2) (blk_below HA.out.1 hx) (blk_below HA.out.2.1 hx) (blk_below HA.out.2.2 hx)
    enters_first enters_next enters_stop2 (tells_first ((HD.out.below HB.out).below hx)) (tells_next ((HD.out.below HB.out).below hx)) (stop2_calls wx D ((HD.out.below HB.out).below hx) w.heap.size r.id HST.out (blk_below HS.out hx)) _ (HL.out _ (List.getElem_mem hi)) _ (HN.out i hi))
  have HMM := Aside0.mk (fun wx (hx : Below w2.heap.size w2 wx) => HM0.out wx (below_step HB.out hx))
  clear HA HS HM0 HN HR HST hw2
  generalize r.low = l at *
  generalize r.id = ri at *
  simp only [ptr_some, nbrFn] at HI c0 ⊢
  have hz : ∀ n : Nat, n + 1 + 1 = n + 2 := fun n => rfl
  clear hz
  go_enter Try.func42, Try.ntmps42
  go_wp2_with fail
  refine HI.out.mono ?_
  rintro e w3 ⟨rfl, rfl⟩
  go_wp2_with fail
  clear HI
  go_loopg [4, 6] l.length (fun n vo vc wr => ∃ i, n = l.length - i ∧ i ≤ l.length ∧ vc = ptr l[i]? ∧ Aside0 (kP.R 59 wr w3.heap.size (fun _ => True) vo ((l.take i).filter m)) ∧ Aside0 (Below w3.heap.size w3 wr))
  case atStart => exact ⟨0, rfl, Nat.zero_le _, rfl, ⟨Kd.R_nil _ _ _ _ _⟩, ⟨Below.refl _ _⟩⟩
  case round =>
    obtain ⟨i, rfl, hi, rfl, HO, HBR⟩ := hrel
    by_cases hlt : i < l.length
    · have HC := Aside0.mk (HMM.out wr HBR.out l[i] (HL.out _ (List.getElem_mem hlt)))
      have HTK := Aside0.mk (show (l.take (i + 1)).filter m = (l.take i).filter m ++ if m l[i] = true then [l[i]] else [] by
        rw [List.take_succ_eq_append_getElem hlt, List.filter_append]
        cases hb : m l[i] <;> simp [hb])
      have HC2 := Aside0.mk (fun wx hx => HNB.out wx hx i hlt)
      have hfl : ((l.take i).filter m).length ≤ i := Nat.le_trans (List.length_filter_le _ _) (List.length_take_le _ _)
      clear hfirst
      rw [List.getElem?_eq_getElem hlt, ptr_some]
      generalize l[i] = x at *
      rw [ptr_some] at HC
      simp only [ptr_some] at HC2
      cases hm : m x with
      | true =>
        rw [hm] at HC HTK
        clear hm
        have hsz3 := HBR.out.size
        go_wp2_with fail
        refine HC.out.mono ?_
        rintro e w4 ⟨rfl, rfl⟩
        go_wp2_with ((with_reducible refine gate_builtin (b := .append) (xs := #[.tmp 18, .tmp 20]) rfl ?_); at_builtin; go_must (refine Kd.R_append kP (w0 := w3) w3.heap.size rfl (.tmp 18) (.tmp 20) 61 59 (.pointer none) 8 rfl Try.underlying61 infoP rfl (by decide) (by decide) u4 ((l.take i).filter m) x [ptr (some x)] (fun _ => True) (fun _ => False) rfl rfl rfl (fun _ h => h.elim) (fun _ _ => trivial) HO.out HBR.out ?aS ?aL ?_; (case aS => exact hsz3); (case aL => omega); intro v1 w5 ho hb hg _; have HO1 := Aside0.mk ho; have HB1 := Aside0.mk hb; clear ho hb hg))
        refine (HC2.out w5 HB1.out).mono ?_
        rintro e w6 ⟨rfl, rfl⟩
        go_wp2_with fail
        go_roundg (l.length - (i + 1))
        case rel => exact ⟨i + 1, rfl, by omega, rfl, ⟨by rw [HTK.out]; exact HO1.out⟩, HB1⟩
        case measure => omega
      | false =>
        rw [hm] at HC HTK
        clear hm
        go_wp2_with fail
        refine HC.out.mono ?_
        rintro e w4 ⟨rfl, rfl⟩
        go_wp2_with fail
        refine (HC2.out w4 HBR.out).mono ?_
        rintro e w6 ⟨rfl, rfl⟩
        go_wp2_with fail
        go_roundg (l.length - (i + 1))
        case rel => exact ⟨i + 1, rfl, by omega, rfl, ⟨by rw [HTK.out]; simpa using HO.out⟩, HBR⟩
        case measure => omega
    · have hie : i = l.length := by omega
      subst hie
      clear hfirst
      rw [List.getElem?_eq_none (Nat.le_refl _), ptr_none]
      have hO := HO.out
      rw [List.take_length] at hO
      go_wp2_with fail
      go_ret
      exact ⟨_, rfl, Kd.R_lower hO HB.out.size, below_step HB.out HBR.out⟩
end Go.Proofs.Ytibfoaahdbdogaa.Dom

/- impl.called: a function that tells whether a node has one of some names. -/
namespace Go.Proofs.Ytibfoaahdbdogaa.Dom
open Go.RowKit Go.Proofs.YtibfoaahdbdogaaW.PrintWords Go.Proofs.YtibfoaahdbdogaaW.PrintLast Go.Proofs.YtibfoaahdbdogaaW.PrintMore Go.Proofs.Ytibfoaahdbdogaa.PDom
set_option linter.unusedVariables false
set_option linter.unusedSimpArgs false

def namedD (D : Tab) (names : List ByteArray) (x : Nat) : Bool := match D x with
  | some i => names.any fun s => (nameOf i).toList == s.toList
  | none => false
theorem any_drop {α : Type} {l : List α} {P : α → Bool} {m : Nat} (h : m < l.length) : (l.drop m).any P = if P l[m] = true then true else (l.drop (m + 1)).any P := by
  rw [List.drop_eq_getElem_cons h, List.any_cons]
  cases P l[m] <;> rfl
set_option maxHeartbeats 400000 in
set_option maxRecDepth 100000 in
theorem called1_calls (w : World) (D : Tab) (hdom : Dom w D) (b : Nat) (A : Option Addr) (c : Nat) (names : List ByteArray) (hb : w.heap[b]? = some (.cells #[.slice A names.length c] 33 (0, 0))) (hr : Kd.string.C w A names.length names) (hl : names.length ≤ 4611686018427387904) :
    TellsB w D 64 #[.pointer (some ⟨b, 0, none⟩)] (namedD D names) := by
  intro x hx
  cases hi : D x with
  | none => exact absurd hi hx
  | some i =>
    have e : namedD D names x = names.any fun s => (nameOf i).toList == s.toList := by unfold namedD; rw [hi]
    rw [e]
    have HN := Aside0.mk (node_calls w D x i hdom hi)
    have HR := Aside0.mk hr
    have c0 : w.cell? ⟨b, 0, none⟩ = some (.slice A names.length c) := by rw [blk_cell hb]; rfl
    clear hx hi hb hr e hdom
    generalize nameOf i = nm at *
    show Calls _ _ #[ptr (some x), .pointer (some ⟨b, 0, none⟩)] _ _
    simp only [ptr_some] at HN ⊢
    go_enter Try.func64, Try.ntmps64
    go_wp2_with fail
    go_loop [8] (fun vi => ∃ j : Nat, j ≤ names.length ∧ vi = .int .i64 j ∧ Aside0 ((names.any fun s => nm.toList == s.toList) = (names.drop j).any fun s => nm.toList == s.toList)) (fun vi => names.length - (intOf vi).toNat)
    case atStart => exact ⟨0, Nat.zero_le _, rfl, ⟨by rw [List.drop_zero]⟩⟩
    case round =>
      obtain ⟨j, hj, rfl, HF⟩ := hrel
      by_cases hlt : j < names.length
      · obtain ⟨ad, rfl, hcell⟩ := Kd.at_string HR.out (j : Int) (by omega) (by omega)
        have he : rdOf ByteArray.empty names (j : Int) = names[j] := by simp [rdOf, List.getD_eq_getElem?_getD, List.getElem?_eq_getElem hlt]
        rw [he, Int.toNat_natCast] at hcell
        have HD := Aside0.mk (any_drop (P := fun s => nm.toList == s.toList) hlt)
        clear he
        generalize names[j] = s at *
        cases hq : (nm.toList == s.toList) with
        | true =>
          have HQ := Aside0.mk hq
          go_wp2_with (go_at_call 36; go_must (refine HN.out.mono ?_; rintro e w' ⟨rfl, rfl⟩))
          go_ret
          refine ⟨?_, rfl⟩
          rw [HF.out, HD.out, HQ.out]
          rfl
        | false =>
          have HQ := Aside0.mk hq
          go_wp2_with (go_at_call 36; go_must (refine HN.out.mono ?_; rintro e w' ⟨rfl, rfl⟩))
          go_round
          case rel => exact ⟨j + 1, by omega, by go_num, ⟨by rw [HF.out, HD.out, HQ.out]; rfl⟩⟩
          case measure => simp [intOf]; omega
      · have hje : j = names.length := by omega
        subst hje
        go_wp2_with fail
        go_ret
        refine ⟨?_, rfl⟩
        rw [HF.out, List.drop_length]
        rfl
theorem called_calls (w : World) (A : Option Addr) (n c : Nat) :
    Calls Try.prog 43 #[.slice A n c] w fun e w' => e = .returned (.func (Fn.func 64) #[] #[.pointer (some ⟨w.heap.size, 0, none⟩)]) ∧ w' = w.alloc (.cells #[.slice A n c] 33) := by
  have hmf : ∀ (fn : Fn) (first cap : Array Value) (w : World), (Instr.makeFunc fn first cap).run Try.prog w = .ok (.func fn first cap) w := fun _ _ _ _ => rfl
  go_enter Try.func43, Try.ntmps43
  go_wp2
  go_ret
  exact ⟨rfl, rfl⟩
theorem enters_called1 : Enters 64 := fun _ _ => by kernel_rfl
theorem contains_calls (w : World) (x : Nat) (v : Value) (y : Option Nat) (B : World → Prop) (h : Calls Try.prog 44 #[ptr (some x), v] w fun e w' => e = .returned (ptr y) ∧ B w') :
    Calls Try.prog 45 #[ptr (some x), v] w fun e w' => e = .returned (.bool y.isSome) ∧ B w' := by
  have H := Aside0.mk h
  clear h
  simp only [ptr_some] at H ⊢
  cases y with
  | none =>
    simp only [ptr_none] at H
    go_enter Try.func45, Try.ntmps45
    go_wp2_with fail
    refine H.out.mono ?_
    rintro e w' ⟨rfl, hb⟩
    have HB := Aside0.mk hb
    clear hb
    go_wp2
    go_ret
    exact ⟨rfl, HB.out⟩
  | some y =>
    simp only [ptr_some] at H
    go_enter Try.func45, Try.ntmps45
    go_wp2_with fail
    refine H.out.mono ?_
    rintro e w' ⟨rfl, hb⟩
    have HB := Aside0.mk hb
    clear hb
    go_wp2
    go_ret
    exact ⟨rfl, HB.out⟩
end Go.Proofs.Ytibfoaahdbdogaa.Dom

/- impl.NameOf of a tree. -/
namespace Go.Proofs.Ytibfoaahdbdogaa.PDom
open Go.RowKit Go.Proofs.YtibfoaahdbdogaaW.PrintWords Go.Proofs.YtibfoaahdbdogaaW.PrintLast Go.Proofs.YtibfoaahdbdogaaW.PrintMore Go.Proofs.Ytibfoaahdbdogaa.Dom
set_option linter.unusedVariables false
set_option linter.unusedSimpArgs false

/-- A tree of rows that fit, told within so many steps. -/
def fitB : Nat → T → Bool
  | 0, _ => false
  | n + 1, t => decide (t.f3.length ≤ 4398046510976) && (decide (t.f4.length ≤ 4398046510976) && t.f4.all (fitB n))
theorem fitB_fit : ∀ (n : Nat) (t : T), fitB n t = true → Fit t
  | 0, _, h => by cases h
  | n + 1, t, h => by
    simp only [fitB, Bool.and_eq_true, decide_eq_true_eq, List.all_eq_true] at h
    exact Fit.mk t h.1 h.2.1 (fun y hy => fitB_fit n y (h.2.2 y hy))
theorem fitB_mono : ∀ (n : Nat) (t : T), fitB n t = true → fitB (n + 1) t = true
  | 0, _, h => by cases h
  | n + 1, t, h => by
    simp only [fitB, Bool.and_eq_true, decide_eq_true_eq, List.all_eq_true] at h ⊢
    refine ⟨h.1, h.2.1, fun y hy => ?_⟩
    have := fitB_mono n y (h.2.2 y hy)
    simpa only [fitB, Bool.and_eq_true, decide_eq_true_eq, List.all_eq_true] using this
theorem fitB_le {n m : Nat} (h : n ≤ m) {t : T} (hn : fitB n t = true) : fitB m t = true := by
  induction h with
  | refl => exact hn
  | step _ ih => exact fitB_mono _ _ ih
theorem fit_fitB {t : T} (h : Fit t) : ∃ n, fitB n t = true := by
  induction h with
  | mk t ha hk h ih =>
    have key : ∀ l : List T, (∀ y ∈ l, ∃ n, fitB n y = true) → ∃ n, ∀ y ∈ l, fitB n y = true := by
      intro l
      induction l with
      | nil => exact fun _ => ⟨0, fun y hy => by cases hy⟩
      | cons x l ihl =>
        intro hl
        obtain ⟨n1, h1⟩ := hl x List.mem_cons_self
        obtain ⟨n2, h2⟩ := ihl (fun y hy => hl y (List.mem_cons_of_mem _ hy))
        refine ⟨n1 + n2, fun y hy => ?_⟩
        rcases List.mem_cons.1 hy with rfl | hy
        · exact fitB_le (by omega) h1
        · exact fitB_le (by omega) (h2 y hy)
    obtain ⟨n, hn⟩ := key t.f4 ih
    refine ⟨n + 1, ?_⟩
    simp only [fitB, Bool.and_eq_true, decide_eq_true_eq, List.all_eq_true]
    exact ⟨ha, hk, hn⟩

theorem tree_kind {k : Nat} {f0 : Int} {f1 f2 : ByteArray} {f3 : List S78} {f4 : List S25} (h : laws_tree29.f k f0 f1 f2 f3 f4 = some true) : f0 = 0 ∨ f0 = 3 := by
  unfold laws_tree29.f at h
  by_cases h0 : f0 = 0
  · exact .inl h0
  · by_cases h3 : f0 = 3
    · exact .inr h3
    · rw [if_neg h0, if_neg h3] at h
      cases h

def impl_NameOf.f (k : Nat) (a0_0 : Int) (a0_1 : ByteArray) (a0_2 : ByteArray) (l0_3 : List (S78)) (l0_4 : List (S25)) : Option ByteArray :=
  (laws_tree29.f k a0_0 a0_1 a0_2 l0_3 l0_4).bind fun b => if b = true then (if fitB k ⟨a0_0, a0_1, a0_2, l0_3, l0_4⟩ = true then some (if a0_0 = 3 then docName else a0_1) else none) else none
theorem impl_NameOf.mono : ∀ a0 a1 a2 a3 a4 k, LeO (impl_NameOf.f k a0 a1 a2 a3 a4) (impl_NameOf.f (k + 1) a0 a1 a2 a3 a4) := by
  intro a0 a1 a2 a3 a4 k
  unfold impl_NameOf.f
  refine LeO.bind (laws_tree29.mono _ _ _ _ _ _) (fun b => ?_)
  by_cases hb : b = true
  · rw [if_pos hb, if_pos hb]
    by_cases hf : fitB k ⟨a0, a1, a2, a3, a4⟩ = true
    · rw [if_pos hf, if_pos (fitB_mono _ _ hf)]
      exact LeO.refl _
    · rw [if_neg hf]
      exact LeO.none _
  · rw [if_neg hb]
    exact LeO.none _
theorem impl_NameOf.calls (k : Nat) (a0_0 : Int) (a0_1 : ByteArray) (a0_2 : ByteArray) (A0_3 : Option Addr) (c0_3 : Nat) (l0_3 : List (S78)) (A0_4 : Option Addr) (c0_4 : Nat) (l0_4 : List (S25)) (r : ByteArray) (w : World) (hr0_3 : Kd.C k78 w A0_3 l0_3.length l0_3) (hc0_3 : l0_3.length ≤ c0_3) (hr0_4 : Kd.C k25 w A0_4 l0_4.length l0_4) (hc0_4 : l0_4.length ≤ c0_4) (h : impl_NameOf.f k a0_0 a0_1 a0_2 l0_3 l0_4 = some r) :
    Calls Try.prog 11 #[.agg #[.int .i64 a0_0, .string a0_1, .string a0_2, .slice A0_3 l0_3.length c0_3, .slice A0_4 l0_4.length c0_4]] w fun e w' => e = .returned (.string r) ∧ Below w.heap.size w w' := by
  obtain ⟨hkind, hfit, hr⟩ : (a0_0 = 0 ∨ a0_0 = 3) ∧ fitB k ⟨a0_0, a0_1, a0_2, l0_3, l0_4⟩ = true ∧ (if a0_0 = 3 then docName else a0_1) = r := by
    unfold impl_NameOf.f at h
    obtain ⟨b, hb, h2⟩ := Option.bind_eq_some_iff.1 h
    split at h2
    case isFalse => cases h2
    rename_i hbt
    subst hbt
    split at h2
    case isFalse => cases h2
    rename_i hf
    exact ⟨tree_kind hb, hf, Option.some.inj h2⟩
  have HB0 := Aside0.mk (below_alloc (Below.refl w.heap.size w) (Obj.cells #[Value.int IntKind.i64 a0_0, Value.string a0_1, Value.string a0_2, Value.slice A0_3 l0_3.length c0_3, Value.slice A0_4 l0_4.length c0_4] 25))
  have HM := Aside0.mk (made_calls _ ⟨a0_0, a0_1, a0_2, l0_3, l0_4⟩ (Nat.le_refl _) (fitB_fit _ _ hfit) _ A0_3 c0_3 A0_4 c0_4 (Kd.C_below hr0_3 HB0.out) hc0_3 (Kd.C_below hr0_4 HB0.out) hc0_4)
  clear h hfit hr0_3 hc0_3 hr0_4 hc0_4
  go_enter Try.func11, Try.ntmps11
  go_wp2_with fail
  refine HM.out.mono ?_
  rintro e w1 ⟨b, D, rfl, hm⟩
  obtain ⟨_, _, i, hi, hma, _, _⟩ := hm.tree
  have hty : i.ty = 1 ∨ i.ty = 2 ∨ i.ty = 3 ∨ i.ty = 4 := by
    rw [hma.ty]
    show tyOf a0_0 = 1 ∨ tyOf a0_0 = 2 ∨ tyOf a0_0 = 3 ∨ tyOf a0_0 = 4
    rcases hkind with h | h <;> (rw [h]; decide)
  have hn : nameOf i = r := by
    rw [← hr]
    unfold nameOf
    rw [hma.ty, hma.data]
    rcases hkind with h | h <;> subst h
    · rfl
    · rfl
  have HN := Aside0.mk (node_calls w1 D b i hm.dom hi)
  have HB := Aside0.mk (below_step HB0.out hm.below)
  clear hm hi hma hty HM
  simp only [ptr] at HN
  go_wp2_with fail
  refine HN.out.mono ?_
  rintro e w2 ⟨rfl, rfl⟩
  go_wp2
  go_ret
  exact ⟨by rw [← hn]; rfl, HB.out⟩
end Go.Proofs.Ytibfoaahdbdogaa.PDom

/- The guards of the laws on trees always tell something: zzFits2, name29, size29 right29, tree29. Plain facts. -/
namespace Go.Proofs.Ytibfoaahdbdogaa.PDom
open Go.RowKit Go.Proofs.YtibfoaahdbdogaaW.PrintWords Go.Proofs.YtibfoaahdbdogaaW.PrintLast Go.Proofs.YtibfoaahdbdogaaW.PrintMore Go.Proofs.Ytibfoaahdbdogaa.Dom
set_option linter.unusedVariables false
set_option linter.unusedSimpArgs false

theorem up {α : Type} {g : Nat → Option α} (hm : ∀ k, LeO (g k) (g (k + 1))) {k m : Nat} (h : k ≤ m) {r : α} (hk : g k = some r) : g m = some r := by
  induction h with
  | refl => exact hk
  | step _ ih => exact hm _ _ ih

theorem succ_wrap (j : Nat) (h : j ≤ 4611686018427387904) : wrap64 ((j : Int) + 1) = ((j + 1 : Nat) : Int) := by
  rw [wrap_same (by omega) (by omega)]
  omega

theorem fits3_loop (l : List S78) (hl : l.length ≤ 4611686018427387904) : ∀ (n j k : Nat), j + n = l.length → n < k → ∃ b, laws_zzFits3.l0 k l (l.length : Int) (j : Int) = some b
  | 0, j, k + 1, h, hk => by
    rw [laws_zzFits3.l0, if_neg (by omega)]
    exact ⟨_, rfl⟩
  | n + 1, j, k + 1, h, hk => by
    obtain ⟨b, hb⟩ := fits3_loop l hl n (j + 1) k (by omega) (by omega)
    rw [laws_zzFits3.l0, if_pos (by omega), if_pos (by omega), if_pos (by omega), succ_wrap j (by omega), hb]
    obtain ⟨c, hc⟩ : ∃ c, laws_zzFits4.f (rd_T78 l (j : Int)).f0 (rd_T78 l (j : Int)).f1 = some c := by
      unfold laws_zzFits4.f
      repeat' split
      all_goals exact ⟨_, rfl⟩
    rw [hc, Option.bind_some]
    split
    · exact ⟨_, rfl⟩
    · exact ⟨_, rfl⟩
  | n, j, 0, h, hk => absurd hk (Nat.not_lt_zero _)
theorem fits2_tot (f0 : Int) (f1 f2 : ByteArray) (f3 : List S78) (f4 : List S25) (hl : f3.length ≤ 4611686018427387904) (k : Nat) (hk : f3.length < k) : ∃ b, laws_zzFits2.f k f0 f1 f2 f3 f4 = some b := by
  obtain ⟨c, hc⟩ : ∃ c, laws_zzFits3.f k f3 = some c := by
    unfold laws_zzFits3.f
    split
    · exact ⟨_, rfl⟩
    · exact fits3_loop f3 hl f3.length 0 k (by omega) hk
  unfold laws_zzFits2.f
  rw [hc]
  simp only [Option.bind_some]
  repeat' split
  all_goals exact ⟨_, rfl⟩

theorem name_loop (a : ByteArray) (hl : a.size ≤ 4611686018427387904) : ∀ (n j k : Nat), j + n = a.size → n < k → ∃ b, laws_name29.l0 k a (a.size : Int) (j : Int) = some b
  | 0, j, k + 1, h, hk => by
    rw [laws_name29.l0, if_neg (by omega)]
    exact ⟨_, rfl⟩
  | n + 1, j, k + 1, h, hk => by
    obtain ⟨b, hb⟩ := name_loop a hl n (j + 1) k (by omega) (by omega)
    rw [laws_name29.l0, if_pos (by omega), if_pos (by omega), if_pos (by omega), succ_wrap j (by omega), hb]
    have good : ∀ (P : Option Bool → Prop) (q : Prop) (_ : Decidable q) (x y : Option Bool), (q → P x) → (¬ q → P y) → P (if q then x else y) := by
      intro P q _ x y h1 h2
      by_cases hq : q
      · rw [if_pos hq]; exact h1 hq
      · rw [if_neg hq]; exact h2 hq
    let G : Option Bool → Prop := fun o => ∃ b, o = some b
    have g1 : ∀ b, G (some b) := fun b => ⟨b, rfl⟩
    change G _
    clear_value G
    repeat' (refine good _ _ _ _ _ ?_ ?_ <;> intro _)
    all_goals exact g1 _
  | n, j, 0, h, hk => absurd hk (Nat.not_lt_zero _)

/-- size29 comes to an end: below a depth of 61 no call is made. -/
theorem size_tot (n : Nat) : ∀ (d : Int), 0 ≤ d → 61 - d ≤ n → ∀ (t : T), Fit t → ∃ k r, laws_size29.f k t.f0 t.f1 t.f2 t.f3 t.f4 d = some r := by
  induction n with
  | zero =>
    intro d hd0 hd t ht
    refine ⟨1, 301, ?_⟩
    rw [laws_size29.f, if_pos (by omega)]
  | succ n ih =>
    intro d hd0 hd t ht
    by_cases hdeep : d > 60
    · exact ⟨1, 301, by rw [laws_size29.f, if_pos hdeep]⟩
    · obtain ⟨_, _, hk4, hall⟩ := ht
      have loop : ∀ (m j : Nat) (x5 : Int), j + m = t.f4.length → ∃ k r, laws_size29.l0 k d x5 t.f4 (t.f4.length : Int) (j : Int) = some r := by
        intro m
        induction m with
        | zero =>
          intro j x5 hj
          exact ⟨1, x5, by rw [laws_size29.l0, if_neg (by omega)]⟩
        | succ m ihm =>
          intro j x5 hj
          have hjl : j < t.f4.length := by omega
          have he : rd_T25 t.f4 (j : Int) = t.f4[j] := by simp [rd_T25, List.getD_eq_getElem?_getD, List.getElem?_eq_getElem hjl]
          have hf : Fit t.f4[j] := hall _ (List.getElem_mem _)
          obtain ⟨k1, r1, h1⟩ := ih (d + 1) (by omega) (by omega) t.f4[j] hf
          obtain ⟨k2, r2, h2⟩ := ihm (j + 1) (wrap64 (x5 + r1)) (by omega)
          have u1 := up (fun k => (laws_size29.mono_l k).1 t.f4[j].f0 t.f4[j].f1 t.f4[j].f2 t.f4[j].f3 t.f4[j].f4 (d + 1)) (show k1 ≤ k1 + k2 by omega) h1
          have u2 := up (fun k => (laws_size29.mono_l k).2 d (wrap64 (x5 + r1)) t.f4 (t.f4.length : Int) ((j + 1 : Nat) : Int)) (show k2 ≤ k1 + k2 by omega) h2
          refine ⟨k1 + k2 + 1, ?_⟩
          rw [laws_size29.l0, if_pos (by omega), if_pos (by omega), if_pos (by omega), he, wrap_same (by omega) (by omega), u1, Option.bind_some, succ_wrap j (by omega), u2]
          split
          · exact ⟨_, rfl⟩
          · exact ⟨_, rfl⟩
      obtain ⟨k, r, h⟩ := loop t.f4.length 0 1 (by omega)
      refine ⟨k + 1, r, ?_⟩
      rw [laws_size29.f, if_neg hdeep]
      exact h

inductive FitS : T → Prop
  | mk (t : T) (hn : t.f1.size ≤ 140737488351232) (ha : t.f3.length ≤ 4398046510976) (hk : t.f4.length ≤ 4398046510976) (h : ∀ y ∈ t.f4, FitS y) : FitS t
theorem FitS.fit {t : T} (h : FitS t) : Fit t := by
  induction h with
  | mk t hn ha hk h ih => exact Fit.mk t ha hk ih

/-- right29 comes to an end. -/
theorem right_tot {t : T} (ht : FitS t) : ∀ (root : Bool), ∃ k r, laws_right29.f k t.f0 t.f1 t.f2 t.f3 t.f4 root = some r := by
  induction ht with
  | mk t hn ha hk hall ih =>
    have hl2 : ∀ (m j : Nat), j + m = t.f4.length → ∃ k r, laws_right29.l2 k t.f4 (t.f4.length : Int) (j : Int) = some r := by
      intro m
      induction m with
      | zero =>
        intro j hj
        exact ⟨1, true, by rw [laws_right29.l2, if_neg (by omega)]⟩
      | succ m ihm =>
        intro j hj
        have hjl : j < t.f4.length := by omega
        have he : rd_T25 t.f4 (j : Int) = t.f4[j] := by simp [rd_T25, List.getD_eq_getElem?_getD, List.getElem?_eq_getElem hjl]
        obtain ⟨k1, r1, h1⟩ := ih _ (List.getElem_mem hjl) false
        obtain ⟨k2, r2, h2⟩ := ihm (j + 1) (by omega)
        have u1 := up (fun k => (laws_right29.mono_l k).1 t.f4[j].f0 t.f4[j].f1 t.f4[j].f2 t.f4[j].f3 t.f4[j].f4 false) (show k1 ≤ k1 + k2 by omega) h1
        have u2 := up (fun k => (laws_right29.mono_l k).2.2.1 t.f4 (t.f4.length : Int) ((j + 1 : Nat) : Int)) (show k2 ≤ k1 + k2 by omega) h2
        refine ⟨k1 + k2 + 1, ?_⟩
        rw [laws_right29.l2, if_pos (by omega), if_pos (by omega), if_pos (by omega), he, u1, Option.bind_some, succ_wrap j (by omega), u2]
        split
        · exact ⟨_, rfl⟩
        · exact ⟨_, rfl⟩
    have hj4 : ∃ k r, laws_right29.j4 k t.f0 t.f1 t.f2 t.f3 t.f4 = some r := by
      obtain ⟨k, r, h⟩ := hl2 t.f4.length 0 (by omega)
      exact ⟨k + 1, r, by rw [laws_right29.j4]; exact h⟩
    have hl0 : ∀ (m j : Nat), j + m = t.f3.length → ∃ k r, laws_right29.l0 k t.f3 (t.f3.length : Int) (j : Int) t.f0 t.f1 t.f2 t.f3 t.f4 = some r := by
      intro m
      induction m with
      | zero =>
        intro j hj
        obtain ⟨k, r, h⟩ := hj4
        exact ⟨k + 1, r, by rw [laws_right29.l0, if_neg (by omega)]; exact h⟩
      | succ m ihm =>
        intro j hj
        obtain ⟨k0, r0, h0⟩ := ihm (j + 1) (by omega)
        have hl1 : ∀ (y : List S78) (s1 s2 : ByteArray), y.length ≤ t.f3.length → ∀ (m i : Nat), i + m = y.length → ∃ k r, laws_right29.l1 k t.f3 (t.f3.length : Int) (j : Int) y (y.length : Int) (i : Int) t.f0 t.f1 t.f2 t.f3 t.f4 s1 s2 = some r := by
          intro y s1 s2 hy m
          induction m with
          | zero =>
            intro i hi
            exact ⟨k0 + 1, r0, by rw [laws_right29.l1, if_neg (by omega), succ_wrap j (by omega)]; exact h0⟩
          | succ m ihi =>
            intro i hi
            obtain ⟨k, r, h⟩ := ihi (i + 1) (by omega)
            refine ⟨k + 1, ?_⟩
            rw [laws_right29.l1, if_pos (by omega), if_pos (by omega), if_pos (by omega), succ_wrap i (by omega), h]
            split
            · exact ⟨_, rfl⟩
            · exact ⟨_, rfl⟩
        have htl : (t.f3.take j).length ≤ t.f3.length := by rw [List.length_take]; omega
        obtain ⟨k, r, h⟩ := hl1 (t.f3.take j) (rd_T78 t.f3 (j : Int)).f0 (rd_T78 t.f3 (j : Int)).f1 htl (t.f3.take j).length 0 (by omega)
        refine ⟨k + 1, r, ?_⟩
        rw [laws_right29.l0, if_pos (by omega), if_pos (by omega), if_pos (by omega), if_pos (by omega), Option.bind_some]
        exact h
    have hj1 : ∀ x : Bool, ∃ k r, laws_right29.j1 k x t.f0 t.f1 t.f2 t.f3 t.f4 = some r := by
      intro x
      obtain ⟨k, r, h⟩ := hl0 t.f3.length 0 (by omega)
      refine ⟨k + 1, ?_⟩
      rw [laws_right29.j1]
      split
      · exact ⟨_, rfl⟩
      · exact ⟨r, h⟩
    have hj0 : ∀ (root x : Bool), ∃ k r, laws_right29.j0 k root t.f0 x t.f0 t.f1 t.f2 t.f3 t.f4 = some r := by
      intro root x
      obtain ⟨b, hb⟩ := name_loop t.f1 (by omega) t.f1.size 0 (t.f1.size + 1) (by omega) (by omega)
      obtain ⟨k4, r4, h4⟩ := hj4
      obtain ⟨k5, r5, h5⟩ := hj1 (t.f2.toList != ([] : List UInt8))
      obtain ⟨k6, r6, h6⟩ := hj1 true
      have ub := up (fun k => laws_name29.mono t.f1 k) (show t.f1.size + 1 ≤ t.f1.size + 1 + k4 + k5 + k6 by omega) hb
      have u4 := up (fun k => (laws_right29.mono_l k).2.1 t.f0 t.f1 t.f2 t.f3 t.f4) (show k4 ≤ t.f1.size + 1 + k4 + k5 + k6 by omega) h4
      have u5 := up (fun k => (laws_right29.mono_l k).2.2.2.2.1 (t.f2.toList != ([] : List UInt8)) t.f0 t.f1 t.f2 t.f3 t.f4) (show k5 ≤ t.f1.size + 1 + k4 + k5 + k6 by omega) h5
      have u6 := up (fun k => (laws_right29.mono_l k).2.2.2.2.1 true t.f0 t.f1 t.f2 t.f3 t.f4) (show k6 ≤ t.f1.size + 1 + k4 + k5 + k6 by omega) h6
      refine ⟨t.f1.size + 1 + k4 + k5 + k6 + 1, ?_⟩
      rw [laws_right29.j0, ub, u4]
      simp only [Option.bind_some, u5, u6]
      repeat' split
      all_goals exact ⟨_, rfl⟩
    intro root
    obtain ⟨k1, r1, h1⟩ := hj0 root (t.f0 == 1)
    obtain ⟨k2, r2, h2⟩ := hj0 root (t.f0 == 2)
    have u1 := up (fun k => (laws_right29.mono_l k).2.2.2.1 root t.f0 (t.f0 == 1) t.f0 t.f1 t.f2 t.f3 t.f4) (show k1 ≤ k1 + k2 by omega) h1
    have u2 := up (fun k => (laws_right29.mono_l k).2.2.2.1 root t.f0 (t.f0 == 2) t.f0 t.f1 t.f2 t.f3 t.f4) (show k2 ≤ k1 + k2 by omega) h2
    refine ⟨k1 + k2 + 1, ?_⟩
    rw [laws_right29.f, u1, u2]
    split
    · exact ⟨_, rfl⟩
    · exact ⟨_, rfl⟩

theorem tree_tot {t : T} (ht : FitS t) : ∃ k b, laws_tree29.f k t.f0 t.f1 t.f2 t.f3 t.f4 = some b := by
  obtain ⟨k1, r1, h1⟩ := size_tot 61 0 (by omega) (by omega) t ht.fit
  obtain ⟨k2, r2, h2⟩ := right_tot ht true
  have u1 := up (fun k => (laws_size29.mono_l k).1 t.f0 t.f1 t.f2 t.f3 t.f4 0) (show k1 ≤ k1 + k2 by omega) h1
  have u2 := up (fun k => (laws_right29.mono_l k).1 t.f0 t.f1 t.f2 t.f3 t.f4 true) (show k2 ≤ k1 + k2 by omega) h2
  refine ⟨k1 + k2, ?_⟩
  unfold laws_tree29.f
  rw [u1, u2]
  simp only [Option.bind_some]
  repeat' split
  all_goals exact ⟨_, rfl⟩
end Go.Proofs.Ytibfoaahdbdogaa.PDom

/- What the laws' guards on a tree tell: it is in normal form, of 300 nodes at most, as deep as that. Plain facts. -/
namespace Go.Proofs.Ytibfoaahdbdogaa.PDom
open Go.RowKit Go.Proofs.YtibfoaahdbdogaaW.PrintWords Go.Proofs.YtibfoaahdbdogaaW.PrintLast Go.Proofs.YtibfoaahdbdogaaW.PrintMore Go.Proofs.Ytibfoaahdbdogaa.Dom
set_option linter.unusedVariables false
set_option linter.unusedSimpArgs false

theorem empty_of {a : ByteArray} (h : a.toList = ([] : List UInt8)) : a = ⟨#[]⟩ := by
  have h1 : a.toList = a.data.toList := ByteArray.toList_eq a
  rw [h1] at h
  cases a with
  | mk d =>
    have : d = #[] := by
      apply Array.ext'
      simpa using h
    rw [this]
theorem rd_at (l : List S25) {j : Nat} (h : j < l.length) : rd_T25 l (j : Int) = l[j] := by simp [rd_T25, List.getD_eq_getElem?_getD, List.getElem?_eq_getElem h]
def NodeOk (root : Bool) (t : T) : Prop :=
  ((t.f0 = 1 ∨ t.f0 = 2) ∧ t.f1 = ⟨#[]⟩ ∧ t.f3 = [] ∧ t.f4 = []) ∨ (t.f0 = 3 ∧ root = true ∧ t.f1 = ⟨#[]⟩ ∧ t.f2 = ⟨#[]⟩ ∧ t.f3 = []) ∨ (t.f0 = 0 ∧ t.f2 = ⟨#[]⟩)
inductive Norm : Bool → T → Prop
  | mk (root : Bool) (t : T) (h : NodeOk root t) (hk : ∀ y ∈ t.f4, Norm false y) : Norm root t
theorem right_l (k : Nat) : (∀ a0 a1 a2 a3 a4, laws_right29.j4 k a0 a1 a2 a3 a4 = some true → ∃ m, m < k ∧ laws_right29.l2 m a4 (a4.length : Int) 0 = some true)
    ∧ (∀ b0 b1 b2 a0 a1 a2 a3 a4, laws_right29.l0 k b0 b1 b2 a0 a1 a2 a3 a4 = some true → ∃ m, m < k ∧ laws_right29.l2 m a4 (a4.length : Int) 0 = some true)
    ∧ (∀ b0 b1 b2 b3 b4 b5 a0 a1 a2 a3 a4 c0 c1, laws_right29.l1 k b0 b1 b2 b3 b4 b5 a0 a1 a2 a3 a4 c0 c1 = some true → ∃ m, m < k ∧ laws_right29.l2 m a4 (a4.length : Int) 0 = some true) := by
  induction k with
  | zero => exact ⟨fun _ _ _ _ _ h => by simp [laws_right29.j4] at h, fun _ _ _ _ _ _ _ _ h => by simp [laws_right29.l0] at h, fun _ _ _ _ _ _ _ _ _ _ _ _ _ h => by simp [laws_right29.l1] at h⟩
  | succ k ih =>
    obtain ⟨i4, i0, i1⟩ := ih
    have up : ∀ {P : Nat → Prop}, (∃ m, m < k ∧ P m) → ∃ m, m < k + 1 ∧ P m := fun ⟨m, h1, h2⟩ => ⟨m, by omega, h2⟩
    refine ⟨?_, ?_, ?_⟩
    · intro a0 a1 a2 a3 a4 h
      rw [laws_right29.j4] at h
      exact ⟨k, by omega, h⟩
    · intro b0 b1 b2 a0 a1 a2 a3 a4 h
      rw [laws_right29.l0] at h
      by_cases c1 : b2 < b1
      · rw [if_pos c1] at h
        by_cases c2 : 0 ≤ b2
        · rw [if_pos c2] at h
          by_cases c3 : b2 < (b0.length : Int)
          · rw [if_pos c3] at h
            by_cases c4 : b2 ≤ (a3.length : Int)
            · rw [if_pos c4] at h
              exact up (i1 _ _ _ _ _ _ _ _ _ _ _ _ _ h)
            · rw [if_neg c4] at h; cases h
          · rw [if_neg c3] at h; cases h
        · rw [if_neg c2] at h; cases h
      · rw [if_neg c1] at h
        exact up (i4 _ _ _ _ _ h)
    · intro b0 b1 b2 b3 b4 b5 a0 a1 a2 a3 a4 c0 c1 h
      rw [laws_right29.l1] at h
      by_cases d1 : b5 < b4
      · rw [if_pos d1] at h
        by_cases d2 : 0 ≤ b5
        · rw [if_pos d2] at h
          by_cases d3 : b5 < (b3.length : Int)
          · rw [if_pos d3] at h
            by_cases d4 : c0.toList = ((rd_T78 b3 b5).f0).toList
            · rw [if_pos d4] at h; cases h
            · rw [if_neg d4] at h
              exact up (i1 _ _ _ _ _ _ _ _ _ _ _ _ _ h)
          · rw [if_neg d3] at h; cases h
        · rw [if_neg d2] at h; cases h
      · rw [if_neg d1] at h
        exact up (i0 _ _ _ _ _ _ _ _ h)
theorem right_l2 (l : List T) (hl : l.length ≤ 4398046510976) : ∀ (k j : Nat), laws_right29.l2 k l (l.length : Int) (j : Int) = some true → ∀ i (hi : i < l.length), j ≤ i → ∃ m, m < k ∧ laws_right29.f m l[i].f0 l[i].f1 l[i].f2 l[i].f3 l[i].f4 false = some true
  | 0, j, h => by simp [laws_right29.l2] at h
  | k + 1, j, h => by
    intro i hi hji
    rw [laws_right29.l2, if_pos (by omega), if_pos (by omega), if_pos (by omega), rd_at l (by omega)] at h
    obtain ⟨b, hb, h2⟩ := Option.bind_eq_some_iff.1 h
    cases b with
    | false => cases h2
    | true =>
      rw [if_pos rfl, succ_wrap j (by omega)] at h2
      by_cases e : i = j
      · subst e
        exact ⟨k, by omega, hb⟩
      · obtain ⟨m, hm, hf⟩ := right_l2 l hl k (j + 1) h2 i hi (by omega)
        exact ⟨m, by omega, hf⟩
theorem right_norm (n : Nat) : ∀ k, k < n → ∀ (t : T), Fit t → ∀ root, laws_right29.f k t.f0 t.f1 t.f2 t.f3 t.f4 root = some true → Norm root t := by
  induction n with
  | zero => exact fun k hk => absurd hk (Nat.not_lt_zero _)
  | succ n ih =>
    intro k hk t ht root h
    have hfit := ht
    obtain ⟨_, _, hl4, hall⟩ := ht
    cases k with
    | zero => simp [laws_right29.f] at h
    | succ k =>
      have hj : ∃ x13, (x13 = true ↔ (t.f0 = 1 ∨ t.f0 = 2)) ∧ laws_right29.j0 k root t.f0 x13 t.f0 t.f1 t.f2 t.f3 t.f4 = some true := by
        rw [laws_right29.f] at h
        by_cases c : t.f0 = 1
        · rw [if_pos c] at h
          exact ⟨_, by simp [c], h⟩
        · rw [if_neg c] at h
          exact ⟨_, by simp [c], h⟩
      obtain ⟨x13, hx, hj⟩ := hj
      cases k with
      | zero => simp [laws_right29.j0] at hj
      | succ k =>
        have kidsOk : ∀ m, m < k + 1 → laws_right29.l2 m t.f4 (t.f4.length : Int) 0 = some true → ∀ y ∈ t.f4, Norm false y := by
          intro m hm h2 y hy
          obtain ⟨i, hi, rfl⟩ := List.getElem_of_mem hy
          obtain ⟨m2, hm2, hf⟩ := right_l2 t.f4 hl4 m 0 h2 i hi (Nat.zero_le _)
          exact ih m2 (by omega) _ (hall _ hy) false hf
        rw [laws_right29.j0] at hj
        by_cases c1 : x13 = true
        · rw [if_pos c1] at hj
          by_cases c2 : (t.f4.length : Int) = 0
          · rw [if_pos c2] at hj
            by_cases c3 : t.f1.toList = ([] : List UInt8)
            · rw [if_pos c3] at hj
              have c4 : t.f4 = [] := List.length_eq_zero_iff.1 (by omega)
              have c5 : t.f3 = [] := by
                have h6 := Option.some.inj hj
                have h7 : (t.f3.length : Int) = 0 := by simpa using h6
                exact List.length_eq_zero_iff.1 (by omega)
              refine Norm.mk root t (.inl ⟨hx.1 c1, empty_of c3, c5, c4⟩) ?_
              rw [c4]
              exact fun y hy => by cases hy
            · rw [if_neg c3] at hj; cases hj
          · rw [if_neg c2] at hj; cases hj
        · rw [if_neg c1] at hj
          by_cases c2 : t.f0 = 3
          · rw [if_pos c2] at hj
            by_cases c3 : root = true
            · rw [if_pos c3] at hj
              by_cases c4 : t.f1.toList = ([] : List UInt8)
              · rw [if_pos c4] at hj
                by_cases c5 : t.f2.toList = ([] : List UInt8)
                · rw [if_pos c5] at hj
                  by_cases c6 : (t.f3.length : Int) > 0
                  · rw [if_pos c6] at hj; cases hj
                  · rw [if_neg c6] at hj
                    obtain ⟨m, hm, h2⟩ := (right_l k).1 _ _ _ _ _ hj
                    exact Norm.mk root t (.inr (.inl ⟨c2, c3, empty_of c4, empty_of c5, List.length_eq_zero_iff.1 (by omega)⟩)) (kidsOk m (by omega) h2)
                · rw [if_neg c5] at hj; cases hj
              · rw [if_neg c4] at hj; cases hj
            · rw [if_neg c3] at hj; cases hj
          · rw [if_neg c2] at hj
            by_cases c3 : t.f0 = 0
            · rw [if_pos c3] at hj
              obtain ⟨b, _, hj2⟩ := Option.bind_eq_some_iff.1 hj
              have key : ∀ x, laws_right29.j1 k x t.f0 t.f1 t.f2 t.f3 t.f4 = some true → x = false ∧ ∃ m, m < k ∧ laws_right29.l2 m t.f4 (t.f4.length : Int) 0 = some true := by
                intro x h6
                cases k with
                | zero => simp [laws_right29.j1] at h6
                | succ k =>
                  rw [laws_right29.j1] at h6
                  cases x with
                  | true => rw [if_pos rfl] at h6; cases h6
                  | false =>
                    rw [if_neg (by simp)] at h6
                    obtain ⟨m, hm, h7⟩ := (right_l k).2.1 _ _ _ _ _ _ _ _ h6
                    exact ⟨rfl, m, by omega, h7⟩
              cases b with
              | true =>
                rw [if_pos rfl] at hj2
                obtain ⟨e, m, hm, h7⟩ := key _ hj2
                refine Norm.mk root t (.inr (.inr ⟨c3, empty_of ?_⟩)) (kidsOk m (by omega) h7)
                simpa using e
              | false =>
                rw [if_neg (by simp)] at hj2
                obtain ⟨e, _⟩ := key _ hj2
                cases e
            · rw [if_neg c3] at hj; cases hj

/-! ### How many nodes -/
mutual
def countT : T → Nat
  | ⟨_, _, _, _, ks⟩ => 1 + countTL ks
def countTL : List T → Nat
  | [] => 0
  | k :: ks => countT k + countTL ks
end
theorem countTL_append (l m : List T) : countTL (l ++ m) = countTL l + countTL m := by
  induction l with
  | nil => simp [countTL]
  | cons k l ih => simp [countTL, ih]; omega
theorem countT_eq (t : T) : countT t = 1 + countTL t.f4 := by cases t; rfl
theorem size_l (k : Nat) : (∀ (t : T), Fit t → ∀ (d n : Int), 0 ≤ d → d ≤ 61 → laws_size29.f k t.f0 t.f1 t.f2 t.f3 t.f4 d = some n → 1 ≤ n ∧ n ≤ 301 + 301 * (61 - d) ∧ (n ≤ 300 → (countT t : Int) = n))
    ∧ (∀ (l : List T), (∀ y ∈ l, Fit y) → l.length ≤ 4398046510976 → ∀ (d x5 n : Int) (j : Nat), 0 ≤ d → d ≤ 60 → 1 ≤ x5 → x5 ≤ 300 → j ≤ l.length → laws_size29.l0 k d x5 l (l.length : Int) (j : Int) = some n → 1 ≤ n ∧ n ≤ 301 + 301 * (61 - d) ∧ (n ≤ 300 → x5 + (countTL (l.drop j) : Int) = n)) := by
  induction k with
  | zero => exact ⟨fun _ _ _ _ _ _ h => by simp [laws_size29.f] at h, fun _ _ _ _ _ _ _ _ _ _ _ _ h => by simp [laws_size29.l0] at h⟩
  | succ k ih =>
    obtain ⟨ihf, ihl⟩ := ih
    refine ⟨?_, ?_⟩
    · intro t ht d n h0 h1 h
      rw [laws_size29.f] at h
      by_cases c : d > 60
      · rw [if_pos c] at h
        obtain rfl := Option.some.inj h
        omega
      · rw [if_neg c] at h
        obtain ⟨_, _, hl4, hall⟩ := ht
        have h2 := ihl t.f4 hall hl4 d 1 n 0 h0 (by omega) (by omega) (by omega) (Nat.zero_le _) h
        rw [countT_eq]
        simp only [List.drop_zero] at h2
        omega
    · intro l hall hl d x5 n j h0 h1 h2 h3 hj h
      rw [laws_size29.l0] at h
      by_cases c : j < l.length
      · rw [if_pos (by omega), if_pos (by omega), if_pos (by omega), rd_at l c, wrap_same (by omega) (by omega)] at h
        obtain ⟨r, hr, hb⟩ := Option.bind_eq_some_iff.1 h
        have hq := ihf l[j] (hall _ (List.getElem_mem c)) (d + 1) r (by omega) (by omega) hr
        rw [wrap_same (by omega) (by omega), succ_wrap j (by omega)] at hb
        have hd : countTL (l.drop j) = countT l[j] + countTL (l.drop (j + 1)) := by
          rw [List.drop_eq_getElem_cons c]
          rfl
        by_cases c2 : x5 + r > 300
        · rw [if_pos c2] at hb
          obtain rfl := Option.some.inj hb
          omega
        · rw [if_neg c2] at hb
          have h5 := ihl l hall hl d (x5 + r) n (j + 1) h0 h1 (by omega) (by omega) (by omega) hb
          rw [hd]
          omega
      · rw [if_neg (by omega)] at h
        obtain rfl := Option.some.inj h
        have : l.drop j = [] := List.drop_eq_nil_of_le (by omega)
        rw [this]
        simp only [countTL]
        omega
/-- What tree29 tells. -/
theorem tree_norm {k : Nat} {t : T} (ht : Fit t) (h : laws_tree29.f k t.f0 t.f1 t.f2 t.f3 t.f4 = some true) : Norm true t ∧ countT t ≤ 300 ∧ (t.f0 = 0 ∨ t.f0 = 3) := by
  have hk := tree_kind h
  have key : ∃ n, laws_size29.f k t.f0 t.f1 t.f2 t.f3 t.f4 0 = some n ∧ n ≤ 300 ∧ laws_right29.f k t.f0 t.f1 t.f2 t.f3 t.f4 true = some true := by
    unfold laws_tree29.f at h
    rcases hk with e | e
    · rw [if_pos e] at h
      obtain ⟨n, hn, h2⟩ := Option.bind_eq_some_iff.1 h
      by_cases c : n ≤ 300
      · rw [if_pos c] at h2
        obtain ⟨b, hb, h3⟩ := Option.bind_eq_some_iff.1 h2
        obtain rfl := Option.some.inj h3
        exact ⟨n, hn, c, hb⟩
      · rw [if_neg c] at h2; cases h2
    · rw [if_neg (by omega), if_pos e] at h
      obtain ⟨n, hn, h2⟩ := Option.bind_eq_some_iff.1 h
      by_cases c : n ≤ 300
      · rw [if_pos c] at h2
        obtain ⟨b, hb, h3⟩ := Option.bind_eq_some_iff.1 h2
        obtain rfl := Option.some.inj h3
        exact ⟨n, hn, c, hb⟩
      · rw [if_neg c] at h2; cases h2
  obtain ⟨n, hn, hle, hr⟩ := key
  have h1 := (size_l k).1 t ht 0 n (by omega) (by omega) hn
  exact ⟨right_norm (k + 1) k (by omega) t ht true hr, by omega, hk⟩
end Go.Proofs.Ytibfoaahdbdogaa.PDom

/- impl.AllNodes of a tree in normal form: the places of its nodes, in order. -/
namespace Go.Proofs.Ytibfoaahdbdogaa.PDom
open Go.RowKit Go.Proofs.YtibfoaahdbdogaaW.PrintWords Go.Proofs.YtibfoaahdbdogaaW.PrintLast Go.Proofs.YtibfoaahdbdogaaW.PrintMore Go.Proofs.Ytibfoaahdbdogaa.Dom
set_option linter.unusedVariables false
set_option linter.unusedSimpArgs false

mutual
/-- The places of a tree's nodes, each ahead of those in it. -/
def pathsT (p : List Int) : T → List (List Int)
  | ⟨_, _, _, _, ks⟩ => p :: pathsTL p 0 ks
def pathsTL (p : List Int) (j : Nat) : List T → List (List Int)
  | [] => []
  | k :: ks => pathsT (p ++ [(j : Int)]) k ++ pathsTL p (j + 1) ks
end
theorem pathsT_eq (p : List Int) (t : T) : pathsT p t = p :: pathsTL p 0 t.f4 := by cases t; rfl
theorem kids_norm {root : Bool} {t : T} (h : Norm root t) : kidsT t = t.f4 := by
  obtain ⟨_, _, h1, _⟩ := h
  unfold kidsT
  by_cases hf : flat t
  · rw [if_pos hf]
    rcases h1 with ⟨_, _, _, h4⟩ | ⟨h3, _⟩ | ⟨h0, _⟩
    · exact h4.symm
    · unfold flat at hf; omega
    · unfold flat at hf; omega
  · rw [if_neg hf]
theorem Norm.kid {root : Bool} {t y : T} (h : Norm root t) (hy : y ∈ t.f4) : Norm false y := by
  obtain ⟨_, _, _, hk⟩ := h
  exact hk y hy
theorem told_open {t : T} {i : Nat} {ty a : Int} {d : ByteArray} {at_ : List (ByteArray × ByteArray)} {ks : List RT} (h : TellsT t (.node i ty a d at_ ks)) {root : Bool} (hn : Norm root t) :
    t.f4.length = ks.length ∧ ∀ j (h1 : j < t.f4.length) (h2 : j < ks.length), TellsT t.f4[j] ks[j] := by
  cases h with
  | mk _ _ _ _ ha hl hk =>
    have e := kids_norm hn
    simp only [e] at hl hk
    exact ⟨hl, hk⟩
theorem told_paths (r : RT) : ∀ (t : T) (root : Bool), Norm root t → TellsT t r → (∀ p, r.paths p = pathsT p t) ∧ r.pre.length = countT t := by
  induction r using RT.induct with
  | h i ty a d at_ ks ih =>
    intro t root hn ht
    obtain ⟨hl, hk⟩ := told_open ht hn
    have key : ∀ (n j : Nat), ks.length = j + n → (∀ p, RT.pathsL p j (ks.drop j) = pathsTL p j (t.f4.drop j)) ∧ (RT.preL (ks.drop j)).length = countTL (t.f4.drop j) := by
      intro n
      induction n with
      | zero =>
        intro j hj
        rw [List.drop_eq_nil_of_le (by omega), List.drop_eq_nil_of_le (by omega)]
        exact ⟨fun _ => rfl, rfl⟩
      | succ n ihn =>
        intro j hj
        have h1 : j < ks.length := by omega
        have h2 : j < t.f4.length := by omega
        obtain ⟨e1, e2⟩ := ihn (j + 1) (by omega)
        obtain ⟨e3, e4⟩ := ih ks[j] (List.getElem_mem h1) t.f4[j] false (hn.kid (List.getElem_mem h2)) (hk j h2 h1)
        rw [List.drop_eq_getElem_cons h1, List.drop_eq_getElem_cons h2]
        refine ⟨fun p => ?_, ?_⟩
        · simp only [RT.pathsL, pathsTL]
          rw [e1, e3]
        · simp only [RT.preL, countTL, List.length_append]
          rw [e2, e4]
    obtain ⟨e1, e2⟩ := key ks.length 0 (by omega)
    simp only [List.drop_zero] at e1 e2
    refine ⟨fun p => ?_, ?_⟩
    · rw [pathsT_eq]
      simp only [RT.paths]
      rw [e1]
    · rw [countT_eq]
      simp only [RT.pre, List.length_cons]
      omega
/-- How long a place is, and how great its numbers. -/
theorem paths_small (r : RT) : ∀ (p : List Int), ∀ q ∈ r.paths p, q.length + 1 ≤ p.length + r.pre.length ∧ ∀ x ∈ q, x ∈ p ∨ (0 ≤ x ∧ x < r.pre.length) := by
  induction r using RT.induct with
  | h i ty a d at_ ks ih =>
    intro p q hq
    simp only [RT.paths, List.mem_cons] at hq
    have hlen : (RT.node i ty a d at_ ks).pre.length = 1 + (RT.preL ks).length := by simp [RT.pre]; omega
    rw [hlen]
    rcases hq with rfl | hq
    · exact ⟨by omega, fun x hx => .inl hx⟩
    · have key : ∀ (l : List RT), (∀ k ∈ l, k ∈ ks) → ∀ (j : Nat), q ∈ RT.pathsL p j l → (q.length ≤ p.length + (RT.preL l).length) ∧ ∀ x ∈ q, x ∈ p ∨ (0 ≤ x ∧ x < j + (RT.preL l).length) := by
        intro l
        induction l with
        | nil => intro _ j h; simp [RT.pathsL] at h
        | cons k l ihl =>
          intro hk j h
          simp only [RT.pathsL, List.mem_append] at h
          have hpk : 0 < k.pre.length := by cases k; simp [RT.pre]
          simp only [RT.preL, List.length_append]
          rcases h with h | h
          · obtain ⟨h1, h2⟩ := ih k (hk k (by simp)) _ q h
            simp only [List.length_append, List.length_singleton] at h1
            refine ⟨by omega, fun x hx => ?_⟩
            rcases h2 x hx with h3 | h3
            · rcases List.mem_append.1 h3 with h4 | h4
              · exact .inl h4
              · have : x = (j : Int) := by simpa using h4
                exact .inr (by omega)
            · exact .inr (by omega)
          · obtain ⟨h1, h2⟩ := ihl (fun k hk' => hk k (by simp [hk'])) (j + 1) h
            refine ⟨by omega, fun x hx => ?_⟩
            rcases h2 x hx with h3 | h3
            · exact .inl h3
            · exact .inr (by omega)
      obtain ⟨h1, h2⟩ := key ks (fun _ h => h) 0 hq
      exact ⟨by omega, fun x hx => (h2 x hx).imp id (fun h => by omega)⟩
end Go.Proofs.Ytibfoaahdbdogaa.PDom

/- Places in a tree as plain data and among its nodes; first children and siblings at places. Plain facts. -/
namespace Go.Proofs.Ytibfoaahdbdogaa.PDom
open Go.RowKit Go.Proofs.YtibfoaahdbdogaaW.PrintWords Go.Proofs.YtibfoaahdbdogaaW.PrintLast Go.Proofs.YtibfoaahdbdogaaW.PrintMore Go.Proofs.Ytibfoaahdbdogaa.Dom
set_option linter.unusedVariables false
set_option linter.unusedSimpArgs false

/-- The tree at a place. -/
def atT : T → List Int → Option T
  | t, [] => some t
  | t, k :: l => if 0 ≤ k then (t.f4[k.toNat]?).bind fun y => atT y l else none
theorem at_append (r : RT) (l m : List Int) : r.at_ (l ++ m) = (r.at_ l).bind fun y => y.at_ m := by
  induction l generalizing r with
  | nil => rfl
  | cons k l ih =>
    simp only [List.cons_append, RT.at_]
    by_cases h : 0 ≤ k
    · rw [if_pos h, if_pos h]
      cases r.kids[k.toNat]? with
      | none => rfl
      | some y => simp only [Option.bind_some]; exact ih y
    · rw [if_neg h, if_neg h]; rfl
theorem at_told (l : List Int) : ∀ (t : T) (r : RT) (root : Bool), Norm root t → TellsT t r →
    (atT t l = none ∧ r.at_ l = none) ∨ ∃ u y, atT t l = some u ∧ r.at_ l = some y ∧ TellsT u y ∧ ∃ root', Norm root' u := by
  induction l with
  | nil => intro t r root hn ht; exact .inr ⟨t, r, rfl, rfl, ht, root, hn⟩
  | cons k l ih =>
    intro t r root hn ht
    cases r with
    | node i ty a d at_ ks =>
      obtain ⟨hl, hk⟩ := told_open ht hn
      simp only [atT, RT.at_, RT.kids]
      by_cases h0 : 0 ≤ k
      · rw [if_pos h0, if_pos h0]
        by_cases h1 : k.toNat < ks.length
        · rw [List.getElem?_eq_getElem h1, List.getElem?_eq_getElem (show k.toNat < t.f4.length by omega)]
          exact ih _ _ false (hn.kid (List.getElem_mem _)) (hk _ (by omega) h1)
        · rw [List.getElem?_eq_none (by omega), List.getElem?_eq_none (by omega)]
          exact .inl ⟨rfl, rfl⟩
      · rw [if_neg h0, if_neg h0]
        exact .inl ⟨rfl, rfl⟩
theorem at_is {D : Tab} (l : List Int) : ∀ (r y : RT) (p : Option Nat), Is D p r → r.at_ l = some y → ∃ q, Is D q y := by
  induction l with
  | nil =>
    intro r y p h e
    obtain rfl := Option.some.inj e
    exact ⟨p, h⟩
  | cons k l ih =>
    intro r y p h e
    simp only [RT.at_] at e
    split at e
    · obtain ⟨z, hz, e2⟩ := Option.bind_eq_some_iff.1 e
      exact ih z y _ (h.kid (List.mem_of_getElem? hz)) e2
    · cases e
/-- A place told by its nodes is one of the table. -/
theorem at_path {D : Tab} {root : Nat} (l : List Int) : ∀ (r y : RT) (p : Option Nat) (pre : List Int), Is D p r → PathTo D root r.id pre → r.at_ l = some y → PathTo D root y.id (pre ++ l) := by
  induction l with
  | nil =>
    intro r y p pre h hp e
    obtain rfl := Option.some.inj e
    rw [List.append_nil]
    exact hp
  | cons k l ih =>
    intro r y p pre h hp e
    simp only [RT.at_] at e
    by_cases h0 : 0 ≤ k
    · rw [if_pos h0] at e
      obtain ⟨z, hz, e2⟩ := Option.bind_eq_some_iff.1 e
      have hk := h.kid (List.mem_of_getElem? hz)
      have hpz : PathTo D root z.id (pre ++ [((k.toNat : Nat) : Int)]) := PathTo.kid r.id z.id k.toNat pre _ _ hp h.root (by
        have e3 : (r.info p).kids = r.kids.map RT.id := by cases r; rfl
        rw [e3, List.getElem?_map, hz]
        rfl) hk.root (by cases z; rfl)
      have e4 : ((k.toNat : Nat) : Int) = k := by omega
      rw [e4] at hpz
      have := ih z y _ _ hk hpz e2
      simpa using this
    · rw [if_neg h0] at e
      cases e
theorem at_small (l : List Int) : ∀ (r y : RT), r.at_ l = some y → y.pre.length ≤ r.pre.length ∧ l.length ≤ r.pre.length ∧ ∀ x ∈ l, 0 ≤ x ∧ x ≤ r.pre.length := by
  induction l with
  | nil =>
    intro r y e
    obtain rfl := Option.some.inj e
    exact ⟨Nat.le_refl _, Nat.zero_le _, fun x hx => by cases hx⟩
  | cons k l ih =>
    intro r y e
    simp only [RT.at_] at e
    by_cases h0 : 0 ≤ k
    · rw [if_pos h0] at e
      obtain ⟨z, hz, e2⟩ := Option.bind_eq_some_iff.1 e
      obtain ⟨h1, h2, h3⟩ := ih z y e2
      have h4 := RT.kid_pre (List.mem_of_getElem? hz)
      have h5 := RT.kids_lt r
      have h6 : k.toNat < r.kids.length := (List.getElem?_eq_some_iff.1 hz).1
      refine ⟨by omega, by rw [List.length_cons]; omega, fun x hx => ?_⟩
      rcases List.mem_cons.1 hx with rfl | hx
      · omega
      · have := h3 x hx
        omega
    · rw [if_neg h0] at e
      cases e

/-! ### Which one is found -/
def elP (el : Bool) (y : T) : Bool := !el || y.f0 == 0
/-- A tree and its node, at the same place in two rows. -/
structure Beside (D : Tab) (t : T) (k : RT) : Prop where
  told : TellsT t k
  is : ∃ p, Is D p k
  norm : Norm false t
theorem Beside.el {D : Tab} {t : T} {k : RT} (h : Beside D t k) : isE D k.id = (t.f0 == 0) := by
  obtain ⟨p, hi⟩ := h.is
  have ht := h.told
  have hn := h.norm
  obtain ⟨_, _, hok, _⟩ := hn
  cases ht with
  | mk _ i a ks ha hl hk =>
    have e : tyAt D i = tyOf t.f0 := by
      have := hi.root
      unfold tyAt
      show (match D i with | some i => i.ty | none => 0) = _
      rw [show D i = some _ from this]
      rfl
    show (tyAt D i == 3) = _
    rw [e]
    unfold tyOf
    rcases hok with ⟨h1 | h1, _⟩ | ⟨h1, _⟩ | ⟨h1, _⟩ <;> (rw [h1]; rfl)
theorem find_ids (D : Tab) (el : Bool) : ∀ (ts : List T) (ks : List RT), ts.length = ks.length → (∀ i (h1 : i < ts.length) (h2 : i < ks.length), Beside D ts[i] ks[i]) →
    (ks.map RT.id).find? (fun c => !el || isE D c) = (ts.findIdx? (elP el)).bind fun i => ks[i]?.map RT.id
  | [], [], _, _ => rfl
  | [], _ :: _, h, _ => by cases h
  | _ :: _, [], h, _ => by cases h
  | t :: ts, k :: ks, hl, h => by
    have h0 := (h 0 (by simp) (by simp)).el
    have ih := find_ids D el ts ks (by simpa using hl) (fun i h1 h2 => by
      have := h (i + 1) (by simpa using h1) (by simpa using h2)
      simpa using this)
    rw [List.map_cons, List.find?_cons, List.findIdx?_cons]
    simp only [List.getElem_cons_zero] at h0
    have e : (!el || isE D k.id) = elP el t := by unfold elP; rw [h0]
    rw [e]
    cases elP el t with
    | true => rfl
    | false =>
      simp only [Bool.false_eq_true, if_false]
      rw [ih]
      cases ts.findIdx? (elP el) <;> rfl
/-- What is found beside or below the node at a place, by its kind. -/
def nbrT (t : T) (path : List Int) (kind : Int) : Option (List Int) :=
  if kind = 8 ∨ kind = 9 then (atT t path).bind fun x => (x.f4.findIdx? (elP (kind == 9))).map fun (i : Nat) => path ++ [(i : Int)]
  else match path.getLast? with
    | none => none
    | some j => (atT t path.dropLast).bind fun up =>
      if kind = 10 ∨ kind = 11 then ((up.f4.take j.toNat).reverse.findIdx? (elP (kind == 11))).map fun (i : Nat) => path.dropLast ++ [j - 1 - (i : Int)]
      else ((up.f4.drop (j.toNat + 1)).findIdx? (elP (kind == 13))).map fun (i : Nat) => path.dropLast ++ [j + 1 + (i : Int)]
end Go.Proofs.Ytibfoaahdbdogaa.PDom

/- impl.neighbor at the kinds of first children and siblings. Printed in part by the program gen_sibm.py of this session. -/
namespace Go.Proofs.Ytibfoaahdbdogaa.PDom
open Go.RowKit Go.Proofs.YtibfoaahdbdogaaW.PrintWords Go.Proofs.YtibfoaahdbdogaaW.PrintLast Go.Proofs.YtibfoaahdbdogaaW.PrintMore Go.Proofs.Ytibfoaahdbdogaa.Dom
set_option linter.unusedVariables false
set_option linter.unusedSimpArgs false

theorem pass8 (w : World) (x : Nat) (y : Option Nat) (h : Calls Try.prog 61 #[ptr (some x)] w fun e w' => e = .returned (ptr y) ∧ w' = w) :
    Calls Try.prog 49 #[ptr (some x), .int .i64 8] w fun e w' => e = .returned (ptr y) ∧ w' = w := by
  have H := Aside0.mk h
  clear h
  simp only [ptr_some] at H ⊢
  go_enter Try.func49, Try.ntmps49
  go_wp2_with (go_at_call 61; go_must (refine H.out.mono ?_; rintro e w' ⟨rfl, rfl⟩))
  go_ret
  exact ⟨rfl, rfl⟩

theorem pass9 (w : World) (x : Nat) (y : Option Nat) (h : Calls Try.prog 74 #[ptr (some x)] w fun e w' => e = .returned (ptr y) ∧ w' = w) :
    Calls Try.prog 49 #[ptr (some x), .int .i64 9] w fun e w' => e = .returned (ptr y) ∧ w' = w := by
  have H := Aside0.mk h
  clear h
  simp only [ptr_some] at H ⊢
  go_enter Try.func49, Try.ntmps49
  go_wp2_with (go_at_call 74; go_must (refine H.out.mono ?_; rintro e w' ⟨rfl, rfl⟩))
  go_ret
  exact ⟨rfl, rfl⟩

theorem pass10 (w : World) (x : Nat) (y : Option Nat) (h : Calls Try.prog 75 #[ptr (some x)] w fun e w' => e = .returned (ptr y) ∧ w' = w) :
    Calls Try.prog 49 #[ptr (some x), .int .i64 10] w fun e w' => e = .returned (ptr y) ∧ w' = w := by
  have H := Aside0.mk h
  clear h
  simp only [ptr_some] at H ⊢
  go_enter Try.func49, Try.ntmps49
  go_wp2_with (go_at_call 75; go_must (refine H.out.mono ?_; rintro e w' ⟨rfl, rfl⟩))
  go_ret
  exact ⟨rfl, rfl⟩

theorem pass11 (w : World) (x : Nat) (y : Option Nat) (h : Calls Try.prog 76 #[ptr (some x)] w fun e w' => e = .returned (ptr y) ∧ w' = w) :
    Calls Try.prog 49 #[ptr (some x), .int .i64 11] w fun e w' => e = .returned (ptr y) ∧ w' = w := by
  have H := Aside0.mk h
  clear h
  simp only [ptr_some] at H ⊢
  go_enter Try.func49, Try.ntmps49
  go_wp2_with (go_at_call 76; go_must (refine H.out.mono ?_; rintro e w' ⟨rfl, rfl⟩))
  go_ret
  exact ⟨rfl, rfl⟩

theorem pass12 (w : World) (x : Nat) (y : Option Nat) (h : Calls Try.prog 62 #[ptr (some x)] w fun e w' => e = .returned (ptr y) ∧ w' = w) :
    Calls Try.prog 49 #[ptr (some x), .int .i64 12] w fun e w' => e = .returned (ptr y) ∧ w' = w := by
  have H := Aside0.mk h
  clear h
  simp only [ptr_some] at H ⊢
  go_enter Try.func49, Try.ntmps49
  go_wp2_with (go_at_call 62; go_must (refine H.out.mono ?_; rintro e w' ⟨rfl, rfl⟩))
  go_ret
  exact ⟨rfl, rfl⟩

theorem pass13 (w : World) (x : Nat) (y : Option Nat) (h : Calls Try.prog 77 #[ptr (some x)] w fun e w' => e = .returned (ptr y) ∧ w' = w) :
    Calls Try.prog 49 #[ptr (some x), .int .i64 13] w fun e w' => e = .returned (ptr y) ∧ w' = w := by
  have H := Aside0.mk h
  clear h
  simp only [ptr_some] at H ⊢
  go_enter Try.func49, Try.ntmps49
  go_wp2_with (go_at_call 77; go_must (refine H.out.mono ?_; rintro e w' ⟨rfl, rfl⟩))
  go_ret
  exact ⟨rfl, rfl⟩

/-- What neighbor finds: a node at the place that nbrT tells. -/
def Finds (r : RT) (y : Option Nat) : Option (List Int) → Prop
  | none => y = none
  | some q => ∃ z, y = some z.id ∧ r.at_ q = some z
theorem findIdx_lt {α : Type} {P : α → Bool} {l : List α} {i : Nat} (h : l.findIdx? P = some i) : i < l.length := by
  rw [List.findIdx?_eq_some_iff_findIdx_eq] at h
  exact h.1
theorem first_finds {D : Tab} {r x : RT} {u : T} {path : List Int} (hr : Is D none r) (hx : r.at_ path = some x) (ht : TellsT u x) {root' : Bool} (hn : Norm root' u) (el : Bool) :
    Finds r ((x.kids.map RT.id).find? (fun c => !el || isE D c)) ((u.f4.findIdx? (elP el)).map fun (i : Nat) => path ++ [(i : Int)]) := by
  cases x with
  | node i ty a d at_ ks =>
    obtain ⟨hl, hk⟩ := told_open ht hn
    obtain ⟨q, hxi⟩ := at_is path r _ none hr hx
    have hfind := find_ids D el u.f4 ks hl (fun i h1 h2 => ⟨hk i h1 h2, ⟨_, hxi.kid (List.getElem_mem h2)⟩, hn.kid (List.getElem_mem h1)⟩)
    show Finds r ((ks.map RT.id).find? _) _
    rw [hfind]
    cases hfi : u.f4.findIdx? (elP el) with
    | none => rfl
    | some m =>
      have hm : m < ks.length := by have := findIdx_lt hfi; omega
      refine ⟨ks[m], by simp [List.getElem?_eq_getElem hm], ?_⟩
      rw [at_append, hx]
      simp only [Option.bind_some, RT.at_, RT.kids]
      rw [if_pos (by omega), Int.toNat_natCast, List.getElem?_eq_getElem hm]
      rfl
theorem last_split (path : List Int) (j : Int) (h : path.getLast? = some j) : path = path.dropLast ++ [j] := by
  obtain ⟨l, rfl⟩ := List.getLast?_eq_some_iff.1 h
  simp
/-- The node at a place that isn't the root: its parent, and its number among the children. -/
theorem at_last {r x : RT} {path : List Int} {j : Int} (hx : r.at_ path = some x) (hj : path.getLast? = some j) : ∃ up, r.at_ path.dropLast = some up ∧ 0 ≤ j ∧ ∃ h : j.toNat < up.kids.length, up.kids[j.toNat] = x := by
  have e := last_split path j hj
  rw [e, at_append] at hx
  obtain ⟨up, h1, h2⟩ := Option.bind_eq_some_iff.1 hx
  refine ⟨up, h1, ?_⟩
  simp only [RT.at_] at h2
  by_cases h0 : 0 ≤ j
  · rw [if_pos h0] at h2
    obtain ⟨y, h3, h4⟩ := Option.bind_eq_some_iff.1 h2
    obtain rfl := Option.some.inj h4
    obtain ⟨h5, h6⟩ := List.getElem?_eq_some_iff.1 h3
    exact ⟨h0, h5, h6⟩
  · rw [if_neg h0] at h2
    cases h2
theorem kid_path {D : Tab} {r up : RT} {init : List Int} (hr : Is D none r) (hu : r.at_ init = some up) (m : Nat) (hm : m < up.kids.length) : r.at_ (init ++ [(m : Int)]) = some up.kids[m] := by
  rw [at_append, hu]
  simp only [Option.bind_some, RT.at_]
  rw [if_pos (by omega), Int.toNat_natCast, List.getElem?_eq_getElem hm]
  rfl
theorem next_finds {D : Tab} {r up : RT} {u : T} {init : List Int} {j : Int} (h0 : 0 ≤ j) (hr : Is D none r) (hu : r.at_ init = some up) (ht : TellsT u up) {root' : Bool} (hn : Norm root' u) (hj : j.toNat < up.kids.length) (el : Bool) :
    Finds r (((up.kids.map RT.id).drop (j.toNat + 1)).find? (fun c => !el || isE D c)) (((u.f4.drop (j.toNat + 1)).findIdx? (elP el)).map fun (i : Nat) => init ++ [j + 1 + (i : Int)]) := by
  obtain ⟨q, hxi⟩ := at_is init r _ none hr hu
  have hkp := fun m hm => kid_path hr hu m hm
  cases up with
  | node i ty a d at_ ks =>
    obtain ⟨hl, hk⟩ := told_open ht hn
    have hfind := find_ids D el (u.f4.drop (j.toNat + 1)) (ks.drop (j.toNat + 1)) (by simp only [List.length_drop]; omega) (fun i h1 h2 => by
      simp only [List.getElem_drop]
      exact ⟨hk _ _ _, ⟨_, hxi.kid (List.getElem_mem _)⟩, hn.kid (List.getElem_mem _)⟩)
    show Finds r (((ks.map RT.id).drop (j.toNat + 1)).find? _) _
    rw [← List.map_drop, hfind]
    cases hfi : (u.f4.drop (j.toNat + 1)).findIdx? (elP el) with
    | none => rfl
    | some m =>
      have hm := findIdx_lt hfi
      rw [List.length_drop] at hm
      have hm2 : j.toNat + 1 + m < ks.length := by omega
      refine ⟨ks[j.toNat + 1 + m], by simp [List.getElem?_drop, List.getElem?_eq_getElem hm2], ?_⟩
      have := hkp (j.toNat + 1 + m) hm2
      have e : (((j.toNat + 1 + m : Nat)) : Int) = j + 1 + (m : Int) := by omega
      rw [e] at this
      exact this
theorem prev_finds {D : Tab} {r up : RT} {u : T} {init : List Int} {j : Int} (h0 : 0 ≤ j) (hr : Is D none r) (hu : r.at_ init = some up) (ht : TellsT u up) {root' : Bool} (hn : Norm root' u) (hj : j.toNat < up.kids.length) (el : Bool) :
    Finds r (((up.kids.map RT.id).take j.toNat).reverse.find? (fun c => !el || isE D c)) (((u.f4.take j.toNat).reverse.findIdx? (elP el)).map fun (i : Nat) => init ++ [j - 1 - (i : Int)]) := by
  obtain ⟨q, hxi⟩ := at_is init r _ none hr hu
  have hkp := fun m hm => kid_path hr hu m hm
  cases up with
  | node i ty a d at_ ks =>
    obtain ⟨hl, hk⟩ := told_open ht hn
    have hj2 : j.toNat < ks.length := hj
    have hfind := find_ids D el (u.f4.take j.toNat).reverse (ks.take j.toNat).reverse (by simp only [List.length_reverse, List.length_take]; omega) (fun i h1 h2 => by
      simp only [List.getElem_reverse, List.getElem_take, List.length_take]
      have e : min j.toNat u.f4.length - 1 - i = min j.toNat ks.length - 1 - i := by omega
      simp only [e]
      exact ⟨hk _ _ _, ⟨_, hxi.kid (List.getElem_mem _)⟩, hn.kid (List.getElem_mem _)⟩)
    show Finds r (((ks.map RT.id).take j.toNat).reverse.find? _) _
    rw [← List.map_take, ← List.map_reverse, hfind]
    cases hfi : (u.f4.take j.toNat).reverse.findIdx? (elP el) with
    | none => rfl
    | some m =>
      have hm := findIdx_lt hfi
      rw [List.length_reverse, List.length_take] at hm
      have hm2 : j.toNat - 1 - m < ks.length := by omega
      refine ⟨ks[j.toNat - 1 - m], ?_, ?_⟩
      · rw [Option.bind_some, List.getElem?_reverse (by rw [List.length_take]; omega), List.length_take]
        rw [List.getElem?_take_of_lt (by omega)]
        have e : min j.toNat ks.length - 1 - m = j.toNat - 1 - m := by omega
        rw [e, List.getElem?_eq_getElem hm2]
        rfl
      · have := hkp (j.toNat - 1 - m) hm2
        have e : (((j.toNat - 1 - m : Nat)) : Int) = j - 1 - (m : Int) := by omega
        rw [e] at this
        exact this
end Go.Proofs.Ytibfoaahdbdogaa.PDom
