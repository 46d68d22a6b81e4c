/- A part of the proof of FnDomTextUptoCard: EDomx3, DomT, MadeS, MadeK, MadeX, NodeX, RTree, PathX, AllX, NameX, DomTot, NormT, AllN, AllY, PathsL, EDomx4, TextX, TextY, Txt, TextZ, one behind the other. -/
import Derived.Test.YtibfoaahdbdogaaDoorMFnDomTextUptoCard2
import Derived.Deep.DeepAppendWide
import Derived.Deep.RegionWith
import Derived.Deep.RegionLaw
import Derived.BigRegion
import Derived.Deep.DeepCutAuto
import Derived.StillTailTactics
import Derived.Deep.DeepMust
import Derived.Deep.LoopGhost
import Derived.Laws.EntriesVeiled
import Derived.Test.YtibfoaahdbdogaaDoorShelf
import Derived.Test.YtibfoaahdbdogaaDoorMFnDomTextUptoCard1
import Derived.Lib.Bytes
/- Printed by the program extprint.py of this session, out of the kit's print and contracts of this session's own; Lean checks it. -/
namespace Go.Proofs.YtibfoaahdbdogaaDoor.PDom
open Go.RowKit Go.Proofs.YtibfoaahdbdogaaDoorW.PrintWords Go.Proofs.YtibfoaahdbdogaaDoorW.PrintLast Go.Proofs.YtibfoaahdbdogaaDoorW.PrintMore
attribute [local go_sem] max2_int min2_int max_two min_two max_three min_three max_four min_four   -- for this text's walks alone
set_option linter.unusedVariables false
set_option linter.unusedSimpArgs false


/-! ### laws_tree29: function 6 -/
def laws_tree29.f (k : Nat) (a0_0 : Int) (a0_1 : ByteArray) (a0_2 : ByteArray) (l0_3 : List (S31)) (l0_4 : List (S25)) : Option (Bool) := if a0_0 = 0 then ((laws_size29.f k a0_0 a0_1 a0_2 l0_3 l0_4 0).bind fun t125 => (if t125 ≤ 300 then ((laws_right29.f k a0_0 a0_1 a0_2 l0_3 l0_4 true).bind fun t126 => (some t126)) else (some false))) else (if a0_0 = 3 then ((laws_size29.f k a0_0 a0_1 a0_2 l0_3 l0_4 0).bind fun t127 => (if t127 ≤ 300 then ((laws_right29.f k a0_0 a0_1 a0_2 l0_3 l0_4 true).bind fun t128 => (some t128)) else (some false))) else (some false))
theorem laws_tree29.mono : ∀ a0 a1 a2 a3 a4 k, LeO (laws_tree29.f k a0 a1 a2 a3 a4) (laws_tree29.f (k + 1) a0 a1 a2 a3 a4) := by
  intro a0 a1 a2 a3 a4 k
  unfold laws_tree29.f
  repeat' first
      | (with_reducible exact laws_right29.mono _ _ _ _ _ _ _)
      | (with_reducible exact laws_size29.mono _ _ _ _ _ _ _)
      | (with_reducible exact LeO.refl _)
      | (with_reducible exact LeO.none _)
      | (with_reducible refine LeO.ite ?_ ?_)
      | (with_reducible refine LeO.bind ?_ (fun _ => ?_))
      | exact laws_right29.mono _ _ _ _ _ _ _
      | exact laws_size29.mono _ _ _ _ _ _ _
      | exact LeO.none _
      | refine LeO.ite ?_ ?_
      | refine LeO.bind ?_ (fun _ => ?_)
set_option maxHeartbeats 8000000 in
set_option maxRecDepth 100000 in
theorem laws_tree29.calls (k : Nat) (a0_0 : Int) (a0_1 : ByteArray) (a0_2 : ByteArray) (A0_3 : Option Addr) (c0_3 : Nat) (l0_3 : List (S31)) (A0_4 : Option Addr) (c0_4 : Nat) (l0_4 : List (S25)) (r : Bool) (w : World) (hr0_3 : Kd.C k31 w A0_3 l0_3.length l0_3) (hc0_3 : l0_3.length ≤ c0_3) (hr0_4 : Kd.C k25 w A0_4 l0_4.length l0_4) (hc0_4 : l0_4.length ≤ c0_4) (h : laws_tree29.f k a0_0 a0_1 a0_2 l0_3 l0_4 = some r) :
    Calls Tryd.prog 6 #[.agg #[.int .i64 a0_0, .string a0_1, .string a0_2, .slice A0_3 l0_3.length c0_3, .slice A0_4 l0_4.length c0_4]] w fun e w' => e = .returned (.bool r) ∧ Below w.heap.size w w' := by
  have hu25 := Tryd.underlying25
  have HR0_3 := Aside0.mk hr0_3
  have HC0_3 := Aside0.mk hc0_3
  clear hr0_3 hc0_3
  have HR0_4 := Aside0.mk hr0_4
  have HC0_4 := Aside0.mk hc0_4
  clear hr0_4 hc0_4
  have HB := Aside0.mk (Below.refl w.heap.size w)
  have H : (if a0_0 = 0 then ((laws_size29.f k a0_0 a0_1 a0_2 l0_3 l0_4 0).bind fun t125 => (if t125 ≤ 300 then ((laws_right29.f k a0_0 a0_1 a0_2 l0_3 l0_4 true).bind fun t126 => (some t126)) else (some false))) else (if a0_0 = 3 then ((laws_size29.f k a0_0 a0_1 a0_2 l0_3 l0_4 0).bind fun t127 => (if t127 ≤ 300 then ((laws_right29.f k a0_0 a0_1 a0_2 l0_3 l0_4 true).bind fun t128 => (some t128)) else (some false))) else (some false))) = some r := h
  clear h
  by_cases c2 : a0_0 = 0
  · rw [if_pos c2] at H
    have c2b0 : (a0_0 == 0) = true := beq_iff_eq.mpr c2
    have c2b1 : (a0_0 != 0) = false := bne_eq_false_iff_eq.mpr c2
    clear c2
    replace H := Option.bind_eq_some_iff.mp H
    obtain ⟨t125, A30, H⟩ := H
    replace H : (if t125 ≤ 300 then ((laws_right29.f k a0_0 a0_1 a0_2 l0_3 l0_4 true).bind fun t126 => (some t126)) else (some false)) = some r := H
    have A3 := Aside0.mk A30
    clear A30
    by_cases c4 : t125 ≤ 300
    · rw [if_pos c4] at H
      have c4b0 : decide (t125 ≤ 300) = true := decide_eq_true c4
      clear c4
      replace H := Option.bind_eq_some_iff.mp H
      obtain ⟨t126, A50, H⟩ := H
      replace H : (some t126) = some r := H
      have A5 := Aside0.mk A50
      clear A50
      obtain rfl := Option.some.inj H
      go_enter Tryd.func6, Tryd.ntmps6
      go_wp2_with (first | ((with_reducible refine gate_dst (N := 1) rfl ?_); refine box_event ?hg (N := 1) ?hd (cs := #[.int .i64 a0_0, .string a0_1, .string a0_2, .slice A0_3 l0_3.length c0_3, .slice A0_4 l0_4.length c0_4]) (t := 25) ?hr ?_; (case hd => rfl); (case hg => rfl); (case hr => first | (go_simp; done) | (go_simp; rfl)); intro gb124 hg w6 hbox hb; have n0_ := Aside0.mk (below_step (by repeat (first | (with_reducible first | exact HB.out | apply below_alloc | apply pw_below_drewN | apply below_drew1) | exact HB.out)) hb); have n1_ := Aside0.mk (hbox); have n2_ := Aside0.mk ((by rw [hg]; exact (below_size (by repeat (first | (with_reducible first | exact HB.out | apply below_alloc | apply pw_below_drewN | apply below_drew1) | exact HB.out))) : w.heap.size ≤ gb124)); have n3_ := Aside0.mk ((by rw [hg]; exact (below_size (by repeat (first | (with_reducible first | exact HB.out | apply below_alloc | apply pw_below_drewN | apply below_drew1) | exact HB.out))) : w.heap.size ≤ gb124)); clear HB; have HB := n0_; have BK124 := n1_; have GW124 := n2_; have GE124 := n3_; clear n0_ n1_ n2_ n3_; clear hb hbox hg; have hcz7_0 : w6.cell? ⟨gb124, 0, none⟩ = some (.int .i64 a0_0) := (blk_cell BK124.out 0).trans rfl; have hcz7_1 : w6.cell? ⟨gb124, 1, none⟩ = some (.string a0_1) := (blk_cell BK124.out 1).trans rfl; have hcz7_2 : w6.cell? ⟨gb124, 2, none⟩ = some (.string a0_2) := (blk_cell BK124.out 2).trans rfl; have hcz7_3 : w6.cell? ⟨gb124, 3, none⟩ = some (.slice A0_3 l0_3.length c0_3) := (blk_cell BK124.out 3).trans rfl; have hcz7_4 : w6.cell? ⟨gb124, 4, none⟩ = some (.slice A0_4 l0_4.length c0_4) := (blk_cell BK124.out 4).trans rfl; have hfz7_0 := blk_frozen BK124.out 0; have hfz7_1 := blk_frozen BK124.out 1; have hfz7_2 := blk_frozen BK124.out 2; have hfz7_3 := blk_frozen BK124.out 3; have hfz7_4 := blk_frozen BK124.out 4) | (go_at_call 15; (with_reducible refine (laws_size29.calls k a0_0 a0_1 a0_2 _ _ l0_3 _ _ l0_4 0 t125 _ ?side1 ?side2 ?side3 ?side4 A3.out).mono ?_); (case side1 => repeat (first | exact (Kd.C_below HR0_3.out HB.out) | (with_reducible refine Kd.C_alloc ?_ _) | (with_reducible refine Kd.C_drewN ?_ _) | (with_reducible refine Kd.C_drew ?_))); (case side2 => exact HC0_3.out); (case side3 => repeat (first | exact (Kd.C_below HR0_4.out HB.out) | (with_reducible refine Kd.C_alloc ?_ _) | (with_reducible refine Kd.C_drewN ?_ _) | (with_reducible refine Kd.C_drew ?_))); (case side4 => exact HC0_4.out); rintro e w8 ⟨rfl, hb⟩; have n0_ := Aside0.mk (blk_below (g := gb124) (o := .cells #[.int .i64 a0_0, .string a0_1, .string a0_2, .slice A0_3 l0_3.length c0_3, .slice A0_4 l0_4.length c0_4] 25 (0, 0)) (by (with_reducible repeat (first | refine blk_drewN ?_ _ | refine blk_drew ?_ | refine blk_alloc ?_ _)); exact BK124.out) hb); have n1_ := Aside0.mk (below_step (by repeat (first | (with_reducible first | exact HB.out | apply below_alloc | apply pw_below_drewN | apply below_drew1 | refine below_set ?_ GE124.out) | exact HB.out)) hb); clear BK124; clear HB; have BK124 := n0_; have HB := n1_; clear n0_ n1_; (try clear hb); (try clear hb2); (try clear hk); (try clear hi); have hcz9_0 : w8.cell? ⟨gb124, 0, none⟩ = some (.int .i64 a0_0) := (blk_cell BK124.out 0).trans rfl; have hcz9_1 : w8.cell? ⟨gb124, 1, none⟩ = some (.string a0_1) := (blk_cell BK124.out 1).trans rfl; have hcz9_2 : w8.cell? ⟨gb124, 2, none⟩ = some (.string a0_2) := (blk_cell BK124.out 2).trans rfl; have hcz9_3 : w8.cell? ⟨gb124, 3, none⟩ = some (.slice A0_3 l0_3.length c0_3) := (blk_cell BK124.out 3).trans rfl; have hcz9_4 : w8.cell? ⟨gb124, 4, none⟩ = some (.slice A0_4 l0_4.length c0_4) := (blk_cell BK124.out 4).trans rfl; have hfz9_0 := blk_frozen BK124.out 0; have hfz9_1 := blk_frozen BK124.out 1; have hfz9_2 := blk_frozen BK124.out 2; have hfz9_3 := blk_frozen BK124.out 3; have hfz9_4 := blk_frozen BK124.out 4) | (go_at_call 16; (with_reducible refine (laws_right29.calls k a0_0 a0_1 a0_2 _ _ l0_3 _ _ l0_4 true t126 _ ?side1 ?side2 ?side3 ?side4 A5.out).mono ?_); (case side1 => repeat (first | exact (Kd.C_below HR0_3.out HB.out) | (with_reducible refine Kd.C_alloc ?_ _) | (with_reducible refine Kd.C_drewN ?_ _) | (with_reducible refine Kd.C_drew ?_))); (case side2 => exact HC0_3.out); (case side3 => repeat (first | exact (Kd.C_below HR0_4.out HB.out) | (with_reducible refine Kd.C_alloc ?_ _) | (with_reducible refine Kd.C_drewN ?_ _) | (with_reducible refine Kd.C_drew ?_))); (case side4 => exact HC0_4.out); rintro e w10 ⟨rfl, hb⟩; have n0_ := Aside0.mk (blk_below (g := gb124) (o := .cells #[.int .i64 a0_0, .string a0_1, .string a0_2, .slice A0_3 l0_3.length c0_3, .slice A0_4 l0_4.length c0_4] 25 (0, 0)) (by (with_reducible repeat (first | refine blk_drewN ?_ _ | refine blk_drew ?_ | refine blk_alloc ?_ _)); exact BK124.out) hb); have n1_ := Aside0.mk (below_step (by repeat (first | (with_reducible first | exact HB.out | apply below_alloc | apply pw_below_drewN | apply below_drew1 | refine below_set ?_ GE124.out) | exact HB.out)) hb); clear BK124; clear HB; have BK124 := n0_; have HB := n1_; clear n0_ n1_; (try clear hb); (try clear hb2); (try clear hk); (try clear hi)))
      go_ret
      exact ⟨by first | rfl | (simp [errW_none, errW_some] <;> rfl) | (simp [*, errW_none, errW_some] <;> rfl), by repeat (first | (with_reducible first | exact HB.out | apply below_alloc | apply pw_below_drewN | apply below_drew1 | refine below_set ?_ GE124.out) | exact HB.out)⟩
    · rw [if_neg c4] at H
      have c4b0 : decide (t125 ≤ 300) = false := decide_eq_false c4
      clear c4
      obtain rfl := Option.some.inj H
      go_enter Tryd.func6, Tryd.ntmps6
      go_wp2_with (first | ((with_reducible refine gate_dst (N := 1) rfl ?_); refine box_event ?hg (N := 1) ?hd (cs := #[.int .i64 a0_0, .string a0_1, .string a0_2, .slice A0_3 l0_3.length c0_3, .slice A0_4 l0_4.length c0_4]) (t := 25) ?hr ?_; (case hd => rfl); (case hg => rfl); (case hr => first | (go_simp; done) | (go_simp; rfl)); intro gb124 hg w11 hbox hb; have n0_ := Aside0.mk (below_step (by repeat (first | (with_reducible first | exact HB.out | apply below_alloc | apply pw_below_drewN | apply below_drew1) | exact HB.out)) hb); have n1_ := Aside0.mk (hbox); have n2_ := Aside0.mk ((by rw [hg]; exact (below_size (by repeat (first | (with_reducible first | exact HB.out | apply below_alloc | apply pw_below_drewN | apply below_drew1) | exact HB.out))) : w.heap.size ≤ gb124)); have n3_ := Aside0.mk ((by rw [hg]; exact (below_size (by repeat (first | (with_reducible first | exact HB.out | apply below_alloc | apply pw_below_drewN | apply below_drew1) | exact HB.out))) : w.heap.size ≤ gb124)); clear HB; have HB := n0_; have BK124 := n1_; have GW124 := n2_; have GE124 := n3_; clear n0_ n1_ n2_ n3_; clear hb hbox hg; have hcz12_0 : w11.cell? ⟨gb124, 0, none⟩ = some (.int .i64 a0_0) := (blk_cell BK124.out 0).trans rfl; have hcz12_1 : w11.cell? ⟨gb124, 1, none⟩ = some (.string a0_1) := (blk_cell BK124.out 1).trans rfl; have hcz12_2 : w11.cell? ⟨gb124, 2, none⟩ = some (.string a0_2) := (blk_cell BK124.out 2).trans rfl; have hcz12_3 : w11.cell? ⟨gb124, 3, none⟩ = some (.slice A0_3 l0_3.length c0_3) := (blk_cell BK124.out 3).trans rfl; have hcz12_4 : w11.cell? ⟨gb124, 4, none⟩ = some (.slice A0_4 l0_4.length c0_4) := (blk_cell BK124.out 4).trans rfl; have hfz12_0 := blk_frozen BK124.out 0; have hfz12_1 := blk_frozen BK124.out 1; have hfz12_2 := blk_frozen BK124.out 2; have hfz12_3 := blk_frozen BK124.out 3; have hfz12_4 := blk_frozen BK124.out 4) | (go_at_call 15; (with_reducible refine (laws_size29.calls k a0_0 a0_1 a0_2 _ _ l0_3 _ _ l0_4 0 t125 _ ?side1 ?side2 ?side3 ?side4 A3.out).mono ?_); (case side1 => repeat (first | exact (Kd.C_below HR0_3.out HB.out) | (with_reducible refine Kd.C_alloc ?_ _) | (with_reducible refine Kd.C_drewN ?_ _) | (with_reducible refine Kd.C_drew ?_))); (case side2 => exact HC0_3.out); (case side3 => repeat (first | exact (Kd.C_below HR0_4.out HB.out) | (with_reducible refine Kd.C_alloc ?_ _) | (with_reducible refine Kd.C_drewN ?_ _) | (with_reducible refine Kd.C_drew ?_))); (case side4 => exact HC0_4.out); rintro e w13 ⟨rfl, hb⟩; have n0_ := Aside0.mk (blk_below (g := gb124) (o := .cells #[.int .i64 a0_0, .string a0_1, .string a0_2, .slice A0_3 l0_3.length c0_3, .slice A0_4 l0_4.length c0_4] 25 (0, 0)) (by (with_reducible repeat (first | refine blk_drewN ?_ _ | refine blk_drew ?_ | refine blk_alloc ?_ _)); exact BK124.out) hb); have n1_ := Aside0.mk (below_step (by repeat (first | (with_reducible first | exact HB.out | apply below_alloc | apply pw_below_drewN | apply below_drew1 | refine below_set ?_ GE124.out) | exact HB.out)) hb); clear BK124; clear HB; have BK124 := n0_; have HB := n1_; clear n0_ n1_; (try clear hb); (try clear hb2); (try clear hk); (try clear hi)))
      go_ret
      exact ⟨by first | rfl | (simp [errW_none, errW_some] <;> rfl) | (simp [*, errW_none, errW_some] <;> rfl), by repeat (first | (with_reducible first | exact HB.out | apply below_alloc | apply pw_below_drewN | apply below_drew1 | refine below_set ?_ GE124.out) | exact HB.out)⟩
  · rw [if_neg c2] at H
    have c2b0 : (a0_0 == 0) = false := beq_eq_false_iff_ne.mpr c2
    have c2b1 : (a0_0 != 0) = true := bne_iff_ne.mpr c2
    by_cases c14 : a0_0 = 3
    · rw [if_pos c14] at H
      have c14b0 : (a0_0 == 3) = true := beq_iff_eq.mpr c14
      have c14b1 : (a0_0 != 3) = false := bne_eq_false_iff_eq.mpr c14
      clear c14
      replace H := Option.bind_eq_some_iff.mp H
      obtain ⟨t127, A150, H⟩ := H
      replace H : (if t127 ≤ 300 then ((laws_right29.f k a0_0 a0_1 a0_2 l0_3 l0_4 true).bind fun t128 => (some t128)) else (some false)) = some r := H
      have A15 := Aside0.mk A150
      clear A150
      by_cases c16 : t127 ≤ 300
      · rw [if_pos c16] at H
        have c16b0 : decide (t127 ≤ 300) = true := decide_eq_true c16
        clear c16
        replace H := Option.bind_eq_some_iff.mp H
        obtain ⟨t128, A170, H⟩ := H
        replace H : (some t128) = some r := H
        have A17 := Aside0.mk A170
        clear A170
        obtain rfl := Option.some.inj H
        go_enter Tryd.func6, Tryd.ntmps6
        go_wp2_with (first | ((with_reducible refine gate_dst (N := 1) rfl ?_); refine box_event ?hg (N := 1) ?hd (cs := #[.int .i64 a0_0, .string a0_1, .string a0_2, .slice A0_3 l0_3.length c0_3, .slice A0_4 l0_4.length c0_4]) (t := 25) ?hr ?_; (case hd => rfl); (case hg => rfl); (case hr => first | (go_simp; done) | (go_simp; rfl)); intro gb124 hg w18 hbox hb; have n0_ := Aside0.mk (below_step (by repeat (first | (with_reducible first | exact HB.out | apply below_alloc | apply pw_below_drewN | apply below_drew1) | exact HB.out)) hb); have n1_ := Aside0.mk (hbox); have n2_ := Aside0.mk ((by rw [hg]; exact (below_size (by repeat (first | (with_reducible first | exact HB.out | apply below_alloc | apply pw_below_drewN | apply below_drew1) | exact HB.out))) : w.heap.size ≤ gb124)); have n3_ := Aside0.mk ((by rw [hg]; exact (below_size (by repeat (first | (with_reducible first | exact HB.out | apply below_alloc | apply pw_below_drewN | apply below_drew1) | exact HB.out))) : w.heap.size ≤ gb124)); clear HB; have HB := n0_; have BK124 := n1_; have GW124 := n2_; have GE124 := n3_; clear n0_ n1_ n2_ n3_; clear hb hbox hg; have hcz19_0 : w18.cell? ⟨gb124, 0, none⟩ = some (.int .i64 a0_0) := (blk_cell BK124.out 0).trans rfl; have hcz19_1 : w18.cell? ⟨gb124, 1, none⟩ = some (.string a0_1) := (blk_cell BK124.out 1).trans rfl; have hcz19_2 : w18.cell? ⟨gb124, 2, none⟩ = some (.string a0_2) := (blk_cell BK124.out 2).trans rfl; have hcz19_3 : w18.cell? ⟨gb124, 3, none⟩ = some (.slice A0_3 l0_3.length c0_3) := (blk_cell BK124.out 3).trans rfl; have hcz19_4 : w18.cell? ⟨gb124, 4, none⟩ = some (.slice A0_4 l0_4.length c0_4) := (blk_cell BK124.out 4).trans rfl; have hfz19_0 := blk_frozen BK124.out 0; have hfz19_1 := blk_frozen BK124.out 1; have hfz19_2 := blk_frozen BK124.out 2; have hfz19_3 := blk_frozen BK124.out 3; have hfz19_4 := blk_frozen BK124.out 4) | (go_at_call 15; (with_reducible refine (laws_size29.calls k a0_0 a0_1 a0_2 _ _ l0_3 _ _ l0_4 0 t127 _ ?side1 ?side2 ?side3 ?side4 A15.out).mono ?_); (case side1 => repeat (first | exact (Kd.C_below HR0_3.out HB.out) | (with_reducible refine Kd.C_alloc ?_ _) | (with_reducible refine Kd.C_drewN ?_ _) | (with_reducible refine Kd.C_drew ?_))); (case side2 => exact HC0_3.out); (case side3 => repeat (first | exact (Kd.C_below HR0_4.out HB.out) | (with_reducible refine Kd.C_alloc ?_ _) | (with_reducible refine Kd.C_drewN ?_ _) | (with_reducible refine Kd.C_drew ?_))); (case side4 => exact HC0_4.out); rintro e w20 ⟨rfl, hb⟩; have n0_ := Aside0.mk (blk_below (g := gb124) (o := .cells #[.int .i64 a0_0, .string a0_1, .string a0_2, .slice A0_3 l0_3.length c0_3, .slice A0_4 l0_4.length c0_4] 25 (0, 0)) (by (with_reducible repeat (first | refine blk_drewN ?_ _ | refine blk_drew ?_ | refine blk_alloc ?_ _)); exact BK124.out) hb); have n1_ := Aside0.mk (below_step (by repeat (first | (with_reducible first | exact HB.out | apply below_alloc | apply pw_below_drewN | apply below_drew1 | refine below_set ?_ GE124.out) | exact HB.out)) hb); clear BK124; clear HB; have BK124 := n0_; have HB := n1_; clear n0_ n1_; (try clear hb); (try clear hb2); (try clear hk); (try clear hi); have hcz21_0 : w20.cell? ⟨gb124, 0, none⟩ = some (.int .i64 a0_0) := (blk_cell BK124.out 0).trans rfl; have hcz21_1 : w20.cell? ⟨gb124, 1, none⟩ = some (.string a0_1) := (blk_cell BK124.out 1).trans rfl; have hcz21_2 : w20.cell? ⟨gb124, 2, none⟩ = some (.string a0_2) := (blk_cell BK124.out 2).trans rfl; have hcz21_3 : w20.cell? ⟨gb124, 3, none⟩ = some (.slice A0_3 l0_3.length c0_3) := (blk_cell BK124.out 3).trans rfl; have hcz21_4 : w20.cell? ⟨gb124, 4, none⟩ = some (.slice A0_4 l0_4.length c0_4) := (blk_cell BK124.out 4).trans rfl; have hfz21_0 := blk_frozen BK124.out 0; have hfz21_1 := blk_frozen BK124.out 1; have hfz21_2 := blk_frozen BK124.out 2; have hfz21_3 := blk_frozen BK124.out 3; have hfz21_4 := blk_frozen BK124.out 4) | (go_at_call 16; (with_reducible refine (laws_right29.calls k a0_0 a0_1 a0_2 _ _ l0_3 _ _ l0_4 true t128 _ ?side1 ?side2 ?side3 ?side4 A17.out).mono ?_); (case side1 => repeat (first | exact (Kd.C_below HR0_3.out HB.out) | (with_reducible refine Kd.C_alloc ?_ _) | (with_reducible refine Kd.C_drewN ?_ _) | (with_reducible refine Kd.C_drew ?_))); (case side2 => exact HC0_3.out); (case side3 => repeat (first | exact (Kd.C_below HR0_4.out HB.out) | (with_reducible refine Kd.C_alloc ?_ _) | (with_reducible refine Kd.C_drewN ?_ _) | (with_reducible refine Kd.C_drew ?_))); (case side4 => exact HC0_4.out); rintro e w22 ⟨rfl, hb⟩; have n0_ := Aside0.mk (blk_below (g := gb124) (o := .cells #[.int .i64 a0_0, .string a0_1, .string a0_2, .slice A0_3 l0_3.length c0_3, .slice A0_4 l0_4.length c0_4] 25 (0, 0)) (by (with_reducible repeat (first | refine blk_drewN ?_ _ | refine blk_drew ?_ | refine blk_alloc ?_ _)); exact BK124.out) hb); have n1_ := Aside0.mk (below_step (by repeat (first | (with_reducible first | exact HB.out | apply below_alloc | apply pw_below_drewN | apply below_drew1 | refine below_set ?_ GE124.out) | exact HB.out)) hb); clear BK124; clear HB; have BK124 := n0_; have HB := n1_; clear n0_ n1_; (try clear hb); (try clear hb2); (try clear hk); (try clear hi)))
        go_ret
        exact ⟨by first | rfl | (simp [errW_none, errW_some] <;> rfl) | (simp [*, errW_none, errW_some] <;> rfl), by repeat (first | (with_reducible first | exact HB.out | apply below_alloc | apply pw_below_drewN | apply below_drew1 | refine below_set ?_ GE124.out) | exact HB.out)⟩
      · rw [if_neg c16] at H
        have c16b0 : decide (t127 ≤ 300) = false := decide_eq_false c16
        clear c16
        obtain rfl := Option.some.inj H
        go_enter Tryd.func6, Tryd.ntmps6
        go_wp2_with (first | ((with_reducible refine gate_dst (N := 1) rfl ?_); refine box_event ?hg (N := 1) ?hd (cs := #[.int .i64 a0_0, .string a0_1, .string a0_2, .slice A0_3 l0_3.length c0_3, .slice A0_4 l0_4.length c0_4]) (t := 25) ?hr ?_; (case hd => rfl); (case hg => rfl); (case hr => first | (go_simp; done) | (go_simp; rfl)); intro gb124 hg w23 hbox hb; have n0_ := Aside0.mk (below_step (by repeat (first | (with_reducible first | exact HB.out | apply below_alloc | apply pw_below_drewN | apply below_drew1) | exact HB.out)) hb); have n1_ := Aside0.mk (hbox); have n2_ := Aside0.mk ((by rw [hg]; exact (below_size (by repeat (first | (with_reducible first | exact HB.out | apply below_alloc | apply pw_below_drewN | apply below_drew1) | exact HB.out))) : w.heap.size ≤ gb124)); have n3_ := Aside0.mk ((by rw [hg]; exact (below_size (by repeat (first | (with_reducible first | exact HB.out | apply below_alloc | apply pw_below_drewN | apply below_drew1) | exact HB.out))) : w.heap.size ≤ gb124)); clear HB; have HB := n0_; have BK124 := n1_; have GW124 := n2_; have GE124 := n3_; clear n0_ n1_ n2_ n3_; clear hb hbox hg; have hcz24_0 : w23.cell? ⟨gb124, 0, none⟩ = some (.int .i64 a0_0) := (blk_cell BK124.out 0).trans rfl; have hcz24_1 : w23.cell? ⟨gb124, 1, none⟩ = some (.string a0_1) := (blk_cell BK124.out 1).trans rfl; have hcz24_2 : w23.cell? ⟨gb124, 2, none⟩ = some (.string a0_2) := (blk_cell BK124.out 2).trans rfl; have hcz24_3 : w23.cell? ⟨gb124, 3, none⟩ = some (.slice A0_3 l0_3.length c0_3) := (blk_cell BK124.out 3).trans rfl; have hcz24_4 : w23.cell? ⟨gb124, 4, none⟩ = some (.slice A0_4 l0_4.length c0_4) := (blk_cell BK124.out 4).trans rfl; have hfz24_0 := blk_frozen BK124.out 0; have hfz24_1 := blk_frozen BK124.out 1; have hfz24_2 := blk_frozen BK124.out 2; have hfz24_3 := blk_frozen BK124.out 3; have hfz24_4 := blk_frozen BK124.out 4) | (go_at_call 15; (with_reducible refine (laws_size29.calls k a0_0 a0_1 a0_2 _ _ l0_3 _ _ l0_4 0 t127 _ ?side1 ?side2 ?side3 ?side4 A15.out).mono ?_); (case side1 => repeat (first | exact (Kd.C_below HR0_3.out HB.out) | (with_reducible refine Kd.C_alloc ?_ _) | (with_reducible refine Kd.C_drewN ?_ _) | (with_reducible refine Kd.C_drew ?_))); (case side2 => exact HC0_3.out); (case side3 => repeat (first | exact (Kd.C_below HR0_4.out HB.out) | (with_reducible refine Kd.C_alloc ?_ _) | (with_reducible refine Kd.C_drewN ?_ _) | (with_reducible refine Kd.C_drew ?_))); (case side4 => exact HC0_4.out); rintro e w25 ⟨rfl, hb⟩; have n0_ := Aside0.mk (blk_below (g := gb124) (o := .cells #[.int .i64 a0_0, .string a0_1, .string a0_2, .slice A0_3 l0_3.length c0_3, .slice A0_4 l0_4.length c0_4] 25 (0, 0)) (by (with_reducible repeat (first | refine blk_drewN ?_ _ | refine blk_drew ?_ | refine blk_alloc ?_ _)); exact BK124.out) hb); have n1_ := Aside0.mk (below_step (by repeat (first | (with_reducible first | exact HB.out | apply below_alloc | apply pw_below_drewN | apply below_drew1 | refine below_set ?_ GE124.out) | exact HB.out)) hb); clear BK124; clear HB; have BK124 := n0_; have HB := n1_; clear n0_ n1_; (try clear hb); (try clear hb2); (try clear hk); (try clear hi)))
        go_ret
        exact ⟨by first | rfl | (simp [errW_none, errW_some] <;> rfl) | (simp [*, errW_none, errW_some] <;> rfl), by repeat (first | (with_reducible first | exact HB.out | apply below_alloc | apply pw_below_drewN | apply below_drew1 | refine below_set ?_ GE124.out) | exact HB.out)⟩
    · rw [if_neg c14] at H
      have c14b0 : (a0_0 == 3) = false := beq_eq_false_iff_ne.mpr c14
      have c14b1 : (a0_0 != 3) = true := bne_iff_ne.mpr c14
      obtain rfl := Option.some.inj H
      go_enter Tryd.func6, Tryd.ntmps6
      go_wp2_with (first | ((with_reducible refine gate_dst (N := 1) rfl ?_); refine box_event ?hg (N := 1) ?hd (cs := #[.int .i64 a0_0, .string a0_1, .string a0_2, .slice A0_3 l0_3.length c0_3, .slice A0_4 l0_4.length c0_4]) (t := 25) ?hr ?_; (case hd => rfl); (case hg => rfl); (case hr => first | (go_simp; done) | (go_simp; rfl)); intro gb124 hg w26 hbox hb; have n0_ := Aside0.mk (below_step (by repeat (first | (with_reducible first | exact HB.out | apply below_alloc | apply pw_below_drewN | apply below_drew1) | exact HB.out)) hb); have n1_ := Aside0.mk (hbox); have n2_ := Aside0.mk ((by rw [hg]; exact (below_size (by repeat (first | (with_reducible first | exact HB.out | apply below_alloc | apply pw_below_drewN | apply below_drew1) | exact HB.out))) : w.heap.size ≤ gb124)); have n3_ := Aside0.mk ((by rw [hg]; exact (below_size (by repeat (first | (with_reducible first | exact HB.out | apply below_alloc | apply pw_below_drewN | apply below_drew1) | exact HB.out))) : w.heap.size ≤ gb124)); clear HB; have HB := n0_; have BK124 := n1_; have GW124 := n2_; have GE124 := n3_; clear n0_ n1_ n2_ n3_; clear hb hbox hg; have hcz27_0 : w26.cell? ⟨gb124, 0, none⟩ = some (.int .i64 a0_0) := (blk_cell BK124.out 0).trans rfl; have hcz27_1 : w26.cell? ⟨gb124, 1, none⟩ = some (.string a0_1) := (blk_cell BK124.out 1).trans rfl; have hcz27_2 : w26.cell? ⟨gb124, 2, none⟩ = some (.string a0_2) := (blk_cell BK124.out 2).trans rfl; have hcz27_3 : w26.cell? ⟨gb124, 3, none⟩ = some (.slice A0_3 l0_3.length c0_3) := (blk_cell BK124.out 3).trans rfl; have hcz27_4 : w26.cell? ⟨gb124, 4, none⟩ = some (.slice A0_4 l0_4.length c0_4) := (blk_cell BK124.out 4).trans rfl; have hfz27_0 := blk_frozen BK124.out 0; have hfz27_1 := blk_frozen BK124.out 1; have hfz27_2 := blk_frozen BK124.out 2; have hfz27_3 := blk_frozen BK124.out 3; have hfz27_4 := blk_frozen BK124.out 4))
      go_ret
      exact ⟨by first | rfl | (simp [errW_none, errW_some] <;> rfl) | (simp [*, errW_none, errW_some] <;> rfl), by repeat (first | (with_reducible first | exact HB.out | apply below_alloc | apply pw_below_drewN | apply below_drew1 | refine below_set ?_ GE124.out) | exact HB.out)⟩

-- NOT PRINTED: function 40 (bytes_Buffer_tryGrowByReslice)

/-- A state of type 54 at block g of W; what its slices lead to came in by w0. -/
def IsS54 (w0 W : World) (g : Nat) (f0 : List Int) (f1 : Int) (f2 : Int) : Prop := ∃ A0 c0, W.heap[g]? = some (.cells #[.slice A0 f0.length c0, .int .i64 f1, .int .i8 f2] 54 (0, 0)) ∧ w0.heap.size ≤ g ∧ Kd.C (Kd.int .u8) w0 A0 f0.length f0
theorem IsS54.grown {w0 W : World} {g : Nat} {f0 : List Int} {f1 : Int} {f2 : Int} {W1 : World} {row : Option Nat} (h : IsS54 w0 W g f0 f1 f2) (hw : W.grownBy W1 row) (hne : some g ≠ row) : IsS54 w0 W1 g f0 f1 f2 := by
  obtain ⟨A0, c0, hb, hg, hr0⟩ := h
  exact ⟨A0, c0, blk_grown hb hw hne, hg, hr0⟩
theorem IsS54.own_neN {w0 W : World} {g : Nat} {f0 : List Int} {f1 : Int} {f2 : Int} {α : Type} {d : Kd α} {e : Nat} {base : Nat} {ok : Nat → Prop} {v : Value} {xs : List α} (h : IsS54 w0 W g f0 f1 f2) (ho : Kd.N d e W base ok v xs) (ht : e ≠ 54) : some g ≠ v.ownBlock := by
  obtain ⟨A0, c0, hb, hg, hr0⟩ := h
  exact Kd.N_ne ho hb ht
theorem IsS54.fresh {w0 W : World} {g : Nat} {f0 : List Int} {f1 : Int} {f2 : Int} (h : IsS54 w0 W g f0 f1 f2) : ∀ k, W.heap.size ≤ k → k ≠ g := by
  obtain ⟨A0, c0, hb, hg, hr0⟩ := h
  exact Kd.freshB hb
theorem IsS54.kept {w0 W : World} {g : Nat} {f0 : List Int} {f1 : Int} {f2 : Int} {W1 : World} {S : Nat → Prop} (h : IsS54 w0 W g f0 f1 f2) (hk : Kept W W1 S) (hne : ¬ S g) : IsS54 w0 W1 g f0 f1 f2 := by
  obtain ⟨A0, c0, hb, hg, hr0⟩ := h
  exact ⟨A0, c0, blk_kept hb hk hne, hg, hr0⟩
theorem IsS54.below {w0 W : World} {g : Nat} {f0 : List Int} {f1 : Int} {f2 : Int} {W1 : World} (h : IsS54 w0 W g f0 f1 f2) (hw : Below W.heap.size W W1) : IsS54 w0 W1 g f0 f1 f2 := h.grown (grown_of_below hw none) (by simp)
theorem IsS54.alloc {w0 W : World} {g : Nat} {f0 : List Int} {f1 : Int} {f2 : Int} (h : IsS54 w0 W g f0 f1 f2) (o : Obj) : IsS54 w0 (W.alloc o) g f0 f1 f2 := h.below (below_alloc (Below.refl _ _) o)
theorem IsS54.drewN {w0 W : World} {g : Nat} {f0 : List Int} {f1 : Int} {f2 : Int} (h : IsS54 w0 W g f0 f1 f2) (m : Nat) : IsS54 w0 (W.drewN m) g f0 f1 f2 := h
theorem IsS54.drew {w0 W : World} {g : Nat} {f0 : List Int} {f1 : Int} {f2 : Int} (h : IsS54 w0 W g f0 f1 f2) : IsS54 w0 W.drew g f0 f1 f2 := h
theorem IsS54.at_ {w0 W : World} {g : Nat} {f0 : List Int} {f1 : Int} {f2 : Int} {w' : World} {m : Nat} (hq : W.drewN m = w') (h : IsS54 w0 W g f0 f1 f2) : IsS54 w0 w' g f0 f1 f2 := by subst hq; exact IsS54.drewN h m
theorem IsS54.apart {w0 W : World} {g : Nat} {f0 : List Int} {f1 : Int} {f2 : Int} {α : Type} {d : Kd α} {e : Nat} {base : Nat} {ok : Nat → Prop} {v : Value} {xs : List α} (h : IsS54 w0 W g f0 f1 f2) (ho : d.R e W base ok v xs) (ht : ∀ q, q ∈ e :: d.E → q ≠ 54) : d.R e W base (fun k => ok k ∧ k ≠ g) v xs := by
  obtain ⟨A0, c0, hb, hg, hr0⟩ := h
  exact Kd.R_types ho hb ht
theorem IsS54.own_ne {w0 W : World} {g : Nat} {f0 : List Int} {f1 : Int} {f2 : Int} {α : Type} {d : Kd α} {e : Nat} {base : Nat} {ok : Nat → Prop} {v : Value} {xs : List α} (h : IsS54 w0 W g f0 f1 f2) (ho : d.R e W base ok v xs) (ht : e ≠ 54) : some g ≠ v.ownBlock := by
  obtain ⟨A0, c0, hb, hg, hr0⟩ := h
  exact Kd.R_ne ho hb ht
theorem IsS54.apartQ {w0 W : World} {g : Nat} {f0 : List Int} {f1 : Int} {f2 : Int} {α : Type} {d : Kd α} {e : Nat} {base : Nat} {ok : Nat → Prop} {v : Value} {xs : List α} (h : IsS54 w0 W g f0 f1 f2) (ho : d.Q e W base ok v xs) (ht : ∀ q, q ∈ e :: d.E → q ≠ 54) : d.Q e W base (fun k => ok k ∧ k ≠ g) v xs := by
  obtain ⟨A0, c0, hb, hg, hr0⟩ := h
  exact Kd.Q_types ho hb ht
theorem IsS54.own_neQ {w0 W : World} {g : Nat} {f0 : List Int} {f1 : Int} {f2 : Int} {α : Type} {d : Kd α} {e : Nat} {base : Nat} {ok : Nat → Prop} {v : Value} {xs : List α} (h : IsS54 w0 W g f0 f1 f2) (ho : d.Q e W base ok v xs) (ht : e ≠ 54) : some g ≠ v.ownBlock := by
  obtain ⟨A0, c0, hb, hg, hr0⟩ := h
  exact Kd.Q_ne ho hb ht
theorem IsS54.apartS {w0 W : World} {g : Nat} {f0 : List Int} {f1 : Int} {f2 : Int} {α : Type} {d : Kd α} {e : Nat} {base : Nat} {ok : Nat → Prop} {v : Value} {xs : List α} (h : IsS54 w0 W g f0 f1 f2) (ho : d.S e W base ok v xs) (ht : ∀ q, q ∈ e :: d.E → q ≠ 54) : d.S e W base (fun k => ok k ∧ k ≠ g) v xs := by
  obtain ⟨A0, c0, hb, hg, hr0⟩ := h
  exact Kd.S_types ho hb ht
theorem IsS54.own_neS {w0 W : World} {g : Nat} {f0 : List Int} {f1 : Int} {f2 : Int} {α : Type} {d : Kd α} {e : Nat} {base : Nat} {ok : Nat → Prop} {v : Value} {xs : List α} (h : IsS54 w0 W g f0 f1 f2) (ho : d.S e W base ok v xs) (ht : e ≠ 54) : some g ≠ v.ownBlock := by
  obtain ⟨A0, c0, hb, hg, hr0⟩ := h
  exact Kd.S_ne ho hb ht
theorem IsS54.lt {w0 W : World} {g : Nat} {f0 : List Int} {f1 : Int} {f2 : Int} (h : IsS54 w0 W g f0 f1 f2) : g < W.heap.size := by
  obtain ⟨A0, c0, hb, hg, hr0⟩ := h
  exact blk_lt hb
theorem IsS54.ge {w0 W : World} {g : Nat} {f0 : List Int} {f1 : Int} {f2 : Int} (h : IsS54 w0 W g f0 f1 f2) : w0.heap.size ≤ g := by
  obtain ⟨A0, c0, hb, hg, hr0⟩ := h
  exact hg
theorem IsS54.ne_blk {w0 W : World} {g : Nat} {f0 : List Int} {f1 : Int} {f2 : Int} {a : Nat} {cs : Array Value} {t : TypeId} {fr : Nat × Nat} (h : IsS54 w0 W g f0 f1 f2) (hb2 : W.heap[a]? = some (.cells cs t fr)) (ht : t ≠ 54) : g ≠ a := by
  obtain ⟨A0, c0, hb, hg, hr0⟩ := h
  rintro rfl
  rw [hb] at hb2
  injection hb2 with hb2
  injection hb2 with _ ht2
  exact ht ht2.symm
theorem IsS54.far {w0 W : World} {g : Nat} {f0 : List Int} {f1 : Int} {f2 : Int} {p : Addr} (h : IsS54 w0 W g f0 f1 f2) (hne : g ≠ p.block) (u : Value) : IsS54 w0 (W.setCell p u) g f0 f1 f2 := by
  obtain ⟨A0, c0, hb, hg, hr0⟩ := h
  exact ⟨A0, c0, blk_far hb hne u, hg, hr0⟩
theorem cellS54_0 {W : World} {g : Nat} {A0 : Option Addr} {c0 : Nat} {f0 : List Int} {f1 : Int} {f2 : Int} (h : W.heap[g]? = some (.cells #[.slice A0 f0.length c0, .int .i64 f1, .int .i8 f2] 54 (0, 0))) : W.cell? ⟨g, 0, none⟩ = some (.slice A0 f0.length c0) := (blk_cell h 0).trans rfl
theorem cellS54_1 {W : World} {g : Nat} {A0 : Option Addr} {c0 : Nat} {f0 : List Int} {f1 : Int} {f2 : Int} (h : W.heap[g]? = some (.cells #[.slice A0 f0.length c0, .int .i64 f1, .int .i8 f2] 54 (0, 0))) : W.cell? ⟨g, 1, none⟩ = some (.int .i64 f1) := (blk_cell h 1).trans rfl
theorem IsS54.set_1 {w0 W : World} {g : Nat} {f0 : List Int} {f1 : Int} {f2 : Int} (h : IsS54 w0 W g f0 f1 f2) (x : Int) : IsS54 w0 (W.setCell ⟨g, 1, none⟩ (.int .i64 x)) g f0 x f2 := by
  obtain ⟨A0, c0, hb, hg, hr0⟩ := h
  exact ⟨A0, c0, by simpa using blk_set hb 1 (.int .i64 x), hg, hr0⟩
theorem cellS54_2 {W : World} {g : Nat} {A0 : Option Addr} {c0 : Nat} {f0 : List Int} {f1 : Int} {f2 : Int} (h : W.heap[g]? = some (.cells #[.slice A0 f0.length c0, .int .i64 f1, .int .i8 f2] 54 (0, 0))) : W.cell? ⟨g, 2, none⟩ = some (.int .i8 f2) := (blk_cell h 2).trans rfl
theorem IsS54.set_2 {w0 W : World} {g : Nat} {f0 : List Int} {f1 : Int} {f2 : Int} (h : IsS54 w0 W g f0 f1 f2) (x : Int) : IsS54 w0 (W.setCell ⟨g, 2, none⟩ (.int .i8 x)) g f0 f1 x := by
  obtain ⟨A0, c0, hb, hg, hr0⟩ := h
  exact ⟨A0, c0, by simpa using blk_set hb 2 (.int .i8 x), hg, hr0⟩
theorem IsS54.new (w0 W : World) (A0 : Option Addr) (c0 : Nat) (f0 : List Int) (f1 : Int) (f2 : Int) (hB : Below w0.heap.size w0 W) (hr0 : Kd.C (Kd.int .u8) w0 A0 f0.length f0) : IsS54 w0 (W.alloc (.cells #[.slice A0 f0.length c0, .int .i64 f1, .int .i8 f2] 54)) W.heap.size f0 f1 f2 := ⟨A0, c0, by simpa using heap_alloc_new W _, hB.size, hr0⟩
/-! ### atom_ZzAtom: function 29 -/
def atom_ZzAtom.f (a0 : ByteArray) : Option (Int) := if a0.toList = ([99, 97, 112, 116, 105, 111, 110] : List UInt8) then (some 140295) else (if a0.toList = ([108, 105] : List UInt8) then (some 45570) else (some 0))
set_option maxHeartbeats 8000000 in
set_option maxRecDepth 100000 in
theorem atom_ZzAtom.calls (a0 : ByteArray) (r : Int) (w : World) (h : atom_ZzAtom.f a0 = some r) :
    Calls Tryd.prog 29 #[.string a0] w fun e w' => e = .returned (.int .u32 r) ∧ Drawn0 w w' := by
  have H : (if a0.toList = ([99, 97, 112, 116, 105, 111, 110] : List UInt8) then (some 140295) else (if a0.toList = ([108, 105] : List UInt8) then (some 45570) else (some 0))) = some r := h
  clear h
  by_cases c2 : a0.toList = ([99, 97, 112, 116, 105, 111, 110] : List UInt8)
  · rw [if_pos c2] at H
    have c2b0 : (a0.toList == ([99, 97, 112, 116, 105, 111, 110] : List UInt8)) = true := beq_iff_eq.mpr c2
    have c2b1 : (a0.toList != ([99, 97, 112, 116, 105, 111, 110] : List UInt8)) = false := bne_eq_false_iff_eq.mpr c2
    clear c2
    obtain rfl := Option.some.inj H
    go_enter Tryd.func29, Tryd.ntmps29
    go_wp2
    go_ret
    exact ⟨by first | rfl | (simp; done) | (simp [*]; done), by repeat (first | exact Drawn0.refl _ | apply Drawn0.step)⟩
  · rw [if_neg c2] at H
    have c2b0 : (a0.toList == ([99, 97, 112, 116, 105, 111, 110] : List UInt8)) = false := beq_eq_false_iff_ne.mpr c2
    have c2b1 : (a0.toList != ([99, 97, 112, 116, 105, 111, 110] : List UInt8)) = true := bne_iff_ne.mpr c2
    by_cases c3 : a0.toList = ([108, 105] : List UInt8)
    · rw [if_pos c3] at H
      have c3b0 : (a0.toList == ([108, 105] : List UInt8)) = true := beq_iff_eq.mpr c3
      have c3b1 : (a0.toList != ([108, 105] : List UInt8)) = false := bne_eq_false_iff_eq.mpr c3
      clear c3
      obtain rfl := Option.some.inj H
      go_enter Tryd.func29, Tryd.ntmps29
      go_wp2
      go_ret
      exact ⟨by first | rfl | (simp; done) | (simp [*]; done), by repeat (first | exact Drawn0.refl _ | apply Drawn0.step)⟩
    · rw [if_neg c3] at H
      have c3b0 : (a0.toList == ([108, 105] : List UInt8)) = false := beq_eq_false_iff_ne.mpr c3
      have c3b1 : (a0.toList != ([108, 105] : List UInt8)) = true := bne_iff_ne.mpr c3
      obtain rfl := Option.some.inj H
      go_enter Tryd.func29, Tryd.ntmps29
      go_wp2
      go_ret
      exact ⟨by first | rfl | (simp; done) | (simp [*]; done), by repeat (first | exact Drawn0.refl _ | apply Drawn0.step)⟩

-- NOT PRINTED: function 30 (html_Node_AppendChild)

-- NOT PRINTED: function 18 (impl_made)

-- NOT PRINTED: function 7 (impl_TextOf)
/-! ### spec_Text29: function 8 -/
mutual
def spec_Text29.l0 : Nat → ByteArray → List (S25) → Int → Int → Option (ByteArray)
  | 0, _, _, _, _ => none
  | k + 1, x3, x12, x13, x14 => if x14 < x13 then (if 0 ≤ x14 then (if x14 < (x12.length : Int) then ((spec_Text29.f k ((rd_T25 x12 x14).f0) ((rd_T25 x12 x14).f1) ((rd_T25 x12 x14).f2) ((rd_T25 x12 x14).f3) ((rd_T25 x12 x14).f4)).bind fun t136 => (if x3.size + t136.size ≤ 9223372036854775807 then (spec_Text29.l0 k (x3 ++ t136) x12 x13 (wrap64 (x14 + 1))) else (none))) else (none)) else (none)) else (some x3)
def spec_Text29.f : Nat → Int → ByteArray → ByteArray → List (S31) → List (S25) → Option (ByteArray)
  | 0, _, _, _, _, _ => none
  | k + 1, a0_0, a0_1, a0_2, l0_3, l0_4 => if a0_0 = 1 then (some a0_2) else (spec_Text29.l0 k (⟨#[]⟩ : ByteArray) l0_4 (l0_4.length : Int) 0)
end
theorem spec_Text29.mono_l : ∀ k, (∀ y0 y1 y2 y3 y4, LeO (spec_Text29.f k y0 y1 y2 y3 y4) (spec_Text29.f (k + 1) y0 y1 y2 y3 y4)) ∧ (∀ y0 y1 y2 y3, LeO (spec_Text29.l0 k y0 y1 y2 y3) (spec_Text29.l0 (k + 1) y0 y1 y2 y3))
  | 0 => ⟨fun _ _ _ _ _ r h => by simp [spec_Text29.f] at h, fun _ _ _ _ r h => by simp [spec_Text29.l0] at h⟩
  | k + 1 => by
    obtain ⟨ih0, ih1⟩ := spec_Text29.mono_l k
    refine ⟨?_, ?_⟩
    · intro y0 y1 y2 y3 y4
      unfold spec_Text29.f
      repeat' first
      | (with_reducible exact ih0 _ _ _ _ _)
      | (with_reducible exact ih1 _ _ _ _)
      | (with_reducible exact LeO.refl _)
      | (with_reducible exact LeO.none _)
      | (with_reducible refine LeO.ite ?_ ?_)
      | (with_reducible refine LeO.bind ?_ (fun _ => ?_))
      | exact ih0 _ _ _ _ _
      | exact ih1 _ _ _ _
      | exact LeO.none _
      | refine LeO.ite ?_ ?_
      | refine LeO.bind ?_ (fun _ => ?_)
    · intro y0 y1 y2 y3
      unfold spec_Text29.l0
      repeat' first
      | (with_reducible exact ih0 _ _ _ _ _)
      | (with_reducible exact ih1 _ _ _ _)
      | (with_reducible exact LeO.refl _)
      | (with_reducible exact LeO.none _)
      | (with_reducible refine LeO.ite ?_ ?_)
      | (with_reducible refine LeO.bind ?_ (fun _ => ?_))
      | exact ih0 _ _ _ _ _
      | exact ih1 _ _ _ _
      | exact LeO.none _
      | refine LeO.ite ?_ ?_
      | refine LeO.bind ?_ (fun _ => ?_)
theorem spec_Text29.mono : ∀ a0 a1 a2 a3 a4 k, LeO (spec_Text29.f k a0 a1 a2 a3 a4) (spec_Text29.f (k + 1) a0 a1 a2 a3 a4) := by
  intro a0 a1 a2 a3 a4 k
  obtain ⟨ih0, ih1⟩ := spec_Text29.mono_l k
  exact ih0 a0 a1 a2 a3 a4
set_option maxHeartbeats 8000000 in
set_option maxRecDepth 100000 in
theorem spec_Text29.calls (k : Nat) : ∀ (a0_0 : Int) (a0_1 : ByteArray) (a0_2 : ByteArray) (A0_3 : Option Addr) (c0_3 : Nat) (l0_3 : List (S31)) (A0_4 : Option Addr) (c0_4 : Nat) (l0_4 : List (S25)) (r : ByteArray) (w : World) (hr0_3 : Kd.C k31 w A0_3 l0_3.length l0_3) (hc0_3 : l0_3.length ≤ c0_3) (hr0_4 : Kd.C k25 w A0_4 l0_4.length l0_4) (hc0_4 : l0_4.length ≤ c0_4) (h : spec_Text29.f k a0_0 a0_1 a0_2 l0_3 l0_4 = some r),
    Calls Tryd.prog 8 #[.agg #[.int .i64 a0_0, .string a0_1, .string a0_2, .slice A0_3 l0_3.length c0_3, .slice A0_4 l0_4.length c0_4]] w fun e w' => e = .returned (.string r) ∧ Below w.heap.size w w' := by
  induction k using Nat.strongRecOn with
  | _ k ih =>
  intro a0_0 a0_1 a0_2 A0_3 c0_3 l0_3 A0_4 c0_4 l0_4 r w hr0_3 hc0_3 hr0_4 hc0_4 h
  cases k with
  | zero => exact absurd h (by simp [spec_Text29.f])
  | succ k =>
  simp only [spec_Text29.f] at h
  have hu25 := Tryd.underlying25
  have HR0_3 := Aside0.mk hr0_3
  have HC0_3 := Aside0.mk hc0_3
  clear hr0_3 hc0_3
  have HR0_4 := Aside0.mk hr0_4
  have HC0_4 := Aside0.mk hc0_4
  clear hr0_4 hc0_4
  have HB := Aside0.mk (Below.refl w.heap.size w)
  have H : (if a0_0 = 1 then (some a0_2) else (spec_Text29.l0 k (⟨#[]⟩ : ByteArray) l0_4 (l0_4.length : Int) 0)) = some r := h
  clear h
  by_cases c2 : a0_0 = 1
  · rw [if_pos c2] at H
    have c2b0 : (a0_0 == 1) = true := beq_iff_eq.mpr c2
    have c2b1 : (a0_0 != 1) = false := bne_eq_false_iff_eq.mpr c2
    clear c2
    obtain rfl := Option.some.inj H
    go_enter Tryd.func8, Tryd.ntmps8
    go_wp2_with (first | ((with_reducible refine gate_dst (N := 1) rfl ?_); refine box_event ?hg (N := 1) ?hd (cs := #[.int .i64 a0_0, .string a0_1, .string a0_2, .slice A0_3 l0_3.length c0_3, .slice A0_4 l0_4.length c0_4]) (t := 25) ?hr ?_; (case hd => rfl); (case hg => rfl); (case hr => first | (go_simp; done) | (go_simp; rfl)); intro gb133 hg w3 hbox hb; have n0_ := Aside0.mk (below_step (by repeat (first | (with_reducible first | exact HB.out | apply below_alloc | apply pw_below_drewN | apply below_drew1) | exact HB.out)) hb); have n1_ := Aside0.mk (hbox); have n2_ := Aside0.mk ((by rw [hg]; exact (below_size (by repeat (first | (with_reducible first | exact HB.out | apply below_alloc | apply pw_below_drewN | apply below_drew1) | exact HB.out))) : w.heap.size ≤ gb133)); have n3_ := Aside0.mk ((by rw [hg]; exact (below_size (by repeat (first | (with_reducible first | exact HB.out | apply below_alloc | apply pw_below_drewN | apply below_drew1) | exact HB.out))) : w.heap.size ≤ gb133)); clear HB; have HB := n0_; have BK133 := n1_; have GW133 := n2_; have GE133 := n3_; clear n0_ n1_ n2_ n3_; clear hb hbox hg; have hcz4_0 : w3.cell? ⟨gb133, 0, none⟩ = some (.int .i64 a0_0) := (blk_cell BK133.out 0).trans rfl; have hcz4_1 : w3.cell? ⟨gb133, 1, none⟩ = some (.string a0_1) := (blk_cell BK133.out 1).trans rfl; have hcz4_2 : w3.cell? ⟨gb133, 2, none⟩ = some (.string a0_2) := (blk_cell BK133.out 2).trans rfl; have hcz4_3 : w3.cell? ⟨gb133, 3, none⟩ = some (.slice A0_3 l0_3.length c0_3) := (blk_cell BK133.out 3).trans rfl; have hcz4_4 : w3.cell? ⟨gb133, 4, none⟩ = some (.slice A0_4 l0_4.length c0_4) := (blk_cell BK133.out 4).trans rfl; have hfz4_0 := blk_frozen BK133.out 0; have hfz4_1 := blk_frozen BK133.out 1; have hfz4_2 := blk_frozen BK133.out 2; have hfz4_3 := blk_frozen BK133.out 3; have hfz4_4 := blk_frozen BK133.out 4))
    go_ret
    exact ⟨by first | rfl | (simp [errW_none, errW_some] <;> rfl) | (simp [*, errW_none, errW_some] <;> rfl), by repeat (first | (with_reducible first | exact HB.out | apply below_alloc | apply pw_below_drewN | apply below_drew1 | refine below_set ?_ GE133.out) | exact HB.out)⟩
  · rw [if_neg c2] at H
    have c2b0 : (a0_0 == 1) = false := beq_eq_false_iff_ne.mpr c2
    have c2b1 : (a0_0 != 1) = true := bne_iff_ne.mpr c2
    have H' := Aside0.mk H
    clear H
    go_enter Tryd.func8, Tryd.ntmps8
    go_wp2_with (first | ((with_reducible refine gate_dst (N := 1) rfl ?_); refine box_event ?hg (N := 1) ?hd (cs := #[.int .i64 a0_0, .string a0_1, .string a0_2, .slice A0_3 l0_3.length c0_3, .slice A0_4 l0_4.length c0_4]) (t := 25) ?hr ?_; (case hd => rfl); (case hg => rfl); (case hr => first | (go_simp; done) | (go_simp; rfl)); intro gb133 hg w5 hbox hb; have n0_ := Aside0.mk (below_step (by repeat (first | (with_reducible first | exact HB.out | apply below_alloc | apply pw_below_drewN | apply below_drew1) | exact HB.out)) hb); have n1_ := Aside0.mk (hbox); have n2_ := Aside0.mk ((by rw [hg]; exact (below_size (by repeat (first | (with_reducible first | exact HB.out | apply below_alloc | apply pw_below_drewN | apply below_drew1) | exact HB.out))) : w.heap.size ≤ gb133)); have n3_ := Aside0.mk ((by rw [hg]; exact (below_size (by repeat (first | (with_reducible first | exact HB.out | apply below_alloc | apply pw_below_drewN | apply below_drew1) | exact HB.out))) : w.heap.size ≤ gb133)); clear HB; have HB := n0_; have BK133 := n1_; have GW133 := n2_; have GE133 := n3_; clear n0_ n1_ n2_ n3_; clear hb hbox hg; have hcz6_0 : w5.cell? ⟨gb133, 0, none⟩ = some (.int .i64 a0_0) := (blk_cell BK133.out 0).trans rfl; have hcz6_1 : w5.cell? ⟨gb133, 1, none⟩ = some (.string a0_1) := (blk_cell BK133.out 1).trans rfl; have hcz6_2 : w5.cell? ⟨gb133, 2, none⟩ = some (.string a0_2) := (blk_cell BK133.out 2).trans rfl; have hcz6_3 : w5.cell? ⟨gb133, 3, none⟩ = some (.slice A0_3 l0_3.length c0_3) := (blk_cell BK133.out 3).trans rfl; have hcz6_4 : w5.cell? ⟨gb133, 4, none⟩ = some (.slice A0_4 l0_4.length c0_4) := (blk_cell BK133.out 4).trans rfl; have hfz6_0 := blk_frozen BK133.out 0; have hfz6_1 := blk_frozen BK133.out 1; have hfz6_2 := blk_frozen BK133.out 2; have hfz6_3 := blk_frozen BK133.out 3; have hfz6_4 := blk_frozen BK133.out 4))
    go_loopg [3, 14] k (fun kq v3 v14 w' => ∃ (x3_1 : ByteArray) (x14_1 : Int), v3 = .string x3_1 ∧ v14 = .int .i64 x14_1 ∧ Aside0 (spec_Text29.l0 kq x3_1 l0_4 (l0_4.length : Int) x14_1 = some r) ∧ Aside0 (kq ≤ k) ∧ Aside0 (w'.heap[gb133]? = some (.cells #[.int .i64 a0_0, .string a0_1, .string a0_2, (.slice A0_3 l0_3.length c0_3), (.slice A0_4 l0_4.length c0_4)] 25 (0, 0))) ∧ Aside0 (Below w.heap.size w w'))
    case atStart => exact ⟨((⟨#[]⟩ : ByteArray)), (0), (by first | rfl | (simp; done) | (simp [*]; done)), (by first | rfl | (simp; done) | (simp [*]; done)), H', ⟨Nat.le_refl _⟩, ⟨by (with_reducible repeat (first | refine blk_drewN ?_ _ | refine blk_drew ?_ | refine blk_alloc ?_ _)); exact BK133.out⟩, ⟨by repeat (first | (with_reducible first | exact HB.out | apply below_alloc | apply pw_below_drewN | apply below_drew1 | refine below_set ?_ GE133.out) | exact HB.out)⟩⟩
    case round =>
      clear H'
      try clear c2
      try clear c2b0
      try clear c2b1
      try clear p2
      try clear hcz4_0
      try clear hcz4_1
      try clear hcz4_2
      try clear hcz4_3
      try clear hcz4_4
      try clear hcz6_0
      try clear hcz6_1
      try clear hcz6_2
      try clear hcz6_3
      try clear hcz6_4
      try clear hfz4_0
      try clear hfz4_1
      try clear hfz4_2
      try clear hfz4_3
      try clear hfz4_4
      try clear hfz6_0
      try clear hfz6_1
      try clear hfz6_2
      try clear hfz6_3
      try clear hfz6_4
      obtain ⟨x3_1, x14_1, rfl, rfl, HA, HK1, BK133, HB⟩ := hrel
      cases gk with
      | zero => exact absurd HA.out (by simp [spec_Text29.l0])
      | succ k1 =>
        have H := HA.out
        clear HA
        simp only [spec_Text29.l0] at H
        by_cases c7 : x14_1 < (l0_4.length : Int)
        · rw [if_pos c7] at H
          have c7b0 : decide (x14_1 < (l0_4.length : Int)) = true := decide_eq_true c7
          clear c7
          by_cases c8 : 0 ≤ x14_1
          · rw [if_pos c8] at H
            have c8b0 : decide (0 ≤ x14_1) = true := decide_eq_true c8
            clear c8
            by_cases c9 : x14_1 < (l0_4.length : Int)
            · rw [if_pos c9] at H
              have c9b0 : decide (x14_1 < (l0_4.length : Int)) = true := decide_eq_true c9
              clear c9
              replace H := Option.bind_eq_some_iff.mp H
              obtain ⟨t136, A100, H⟩ := H
              replace H : (if x3_1.size + t136.size ≤ 9223372036854775807 then (spec_Text29.l0 k1 (x3_1 ++ t136) l0_4 (l0_4.length : Int) (wrap64 (x14_1 + 1))) else (none)) = some r := H
              have A10 := Aside0.mk A100
              clear A100
              by_cases c11 : x3_1.size + t136.size ≤ 9223372036854775807
              · rw [if_pos c11] at H
                have c11b0 := eq_true c11
                have c11b1 : decide (x3_1.size + t136.size ≤ 9223372036854775807) = true := decide_eq_true c11
                try have c11b2 : (9223372036854775807 < x3_1.size + t136.size) = False := eq_false (Nat.not_lt.2 c11)
                have H' := Aside0.mk H
                clear H
                have p134 : 0 ≤ (x14_1 : Int) := of_decide_eq_true (by first | (with_reducible assumption) | assumption)
                have q134 : x14_1 < (l0_4.length : Int) := of_decide_eq_true (by first | (with_reducible assumption) | assumption)
                obtain ⟨ad134, A134_3, c134_3, A134_4, c134_4, e134, hx134_0, hx134_1, hx134_2, hx134_3, hx134_4, hl134_3, hi134_3, hl134_4, hi134_4⟩ := at_T25 HR0_4.out x14_1 p134 q134
                cases e134
                replace hx134_0 := (HB.out.cell (World.block_lt_of_cell? w _ hx134_0)).trans hx134_0
                replace hx134_1 := (HB.out.cell (World.block_lt_of_cell? w _ hx134_1)).trans hx134_1
                replace hx134_2 := (HB.out.cell (World.block_lt_of_cell? w _ hx134_2)).trans hx134_2
                replace hx134_3 := (HB.out.cell (World.block_lt_of_cell? w _ hx134_3)).trans hx134_3
                replace hx134_4 := (HB.out.cell (World.block_lt_of_cell? w _ hx134_4)).trans hx134_4
                have HR134_3 := Aside0.mk hi134_3
                have HC134_3 := Aside0.mk hl134_3
                clear hi134_3 hl134_3
                have HR134_4 := Aside0.mk hi134_4
                have HC134_4 := Aside0.mk hl134_4
                clear hi134_4 hl134_4
                replace p134 := eq_true p134
                replace q134 := eq_true q134
                go_wp2_with (first | ((with_reducible refine gate_dst (N := 5) rfl ?_); refine box_event ?hg (N := 5) ?hd (cs := #[.int .i64 0, .string (⟨#[]⟩ : ByteArray), .string (⟨#[]⟩ : ByteArray), .slice none 0 0, .slice none 0 0]) (t := 25) ?hr ?_; (case hd => rfl); (case hg => rfl); (case hr => first | (go_simp; done) | (go_simp; rfl)); intro gb135 hg w12 hbox hb; have n0_ := Aside0.mk (blk_below (g := gb133) (o := .cells #[.int .i64 a0_0, .string a0_1, .string a0_2, .slice A0_3 l0_3.length c0_3, .slice (some ad134) l0_4.length c0_4] 25 (0, 0)) (by (with_reducible repeat (first | refine blk_drewN ?_ _ | refine blk_drew ?_ | refine blk_alloc ?_ _)); exact BK133.out) hb); have n1_ := Aside0.mk (below_step (by repeat (first | (with_reducible first | exact HB.out | apply below_alloc | apply pw_below_drewN | apply below_drew1 | refine below_set ?_ GE133.out) | exact HB.out)) hb); have n2_ := Aside0.mk (hbox); have n3_ := Aside0.mk ((by rw [hg]; exact (below_size (by repeat (first | (with_reducible first | exact HB.out | apply below_alloc | apply pw_below_drewN | apply below_drew1 | refine below_set ?_ GE133.out) | exact HB.out))) : w.heap.size ≤ gb135)); have n4_ := Aside0.mk ((by rw [hg]; exact (below_size (by repeat (first | (with_reducible first | exact HB.out | apply below_alloc | apply pw_below_drewN | apply below_drew1 | refine below_set ?_ GE133.out) | exact HB.out))) : w.heap.size ≤ gb135)); have n5_ := Aside0.mk ((by rw [hg]; exact Nat.ne_of_lt (blk_lt (g := gb133) (o := .cells #[.int .i64 a0_0, .string a0_1, .string a0_2, .slice A0_3 l0_3.length c0_3, .slice (some ad134) l0_4.length c0_4] 25 (0, 0)) (by (with_reducible repeat (first | refine blk_drewN ?_ _ | refine blk_drew ?_ | refine blk_alloc ?_ _)); exact BK133.out)) : gb133 ≠ gb135)); have n6_ := Aside0.mk ((by rw [hg]; exact Nat.ne_of_gt (blk_lt (g := gb133) (o := .cells #[.int .i64 a0_0, .string a0_1, .string a0_2, .slice A0_3 l0_3.length c0_3, .slice (some ad134) l0_4.length c0_4] 25 (0, 0)) (by (with_reducible repeat (first | refine blk_drewN ?_ _ | refine blk_drew ?_ | refine blk_alloc ?_ _)); exact BK133.out)) : gb135 ≠ gb133)); clear BK133; clear HB; have BK133 := n0_; have HB := n1_; have BK135 := n2_; have GW135 := n3_; have GE135 := n4_; have NB133_135 := n5_; have NB135_133 := n6_; clear n0_ n1_ n2_ n3_ n4_ n5_ n6_; clear hb hbox hg; have hnb13 := NB135_133.out; have hnc13 := NB133_135.out; have hcz14_0 : w12.cell? ⟨gb135, 0, none⟩ = some (.int .i64 0) := (blk_cell BK135.out 0).trans rfl; have hcz14_1 : w12.cell? ⟨gb135, 1, none⟩ = some (.string (⟨#[]⟩ : ByteArray)) := (blk_cell BK135.out 1).trans rfl; have hcz14_2 : w12.cell? ⟨gb135, 2, none⟩ = some (.string (⟨#[]⟩ : ByteArray)) := (blk_cell BK135.out 2).trans rfl; have hcz14_3 : w12.cell? ⟨gb135, 3, none⟩ = some (.slice none 0 0) := (blk_cell BK135.out 3).trans rfl; have hcz14_4 : w12.cell? ⟨gb135, 4, none⟩ = some (.slice none 0 0) := (blk_cell BK135.out 4).trans rfl; have hfz14_0 := blk_frozen BK135.out 0; have hfz14_1 := blk_frozen BK135.out 1; have hfz14_2 := blk_frozen BK135.out 2; have hfz14_3 := blk_frozen BK135.out 3; have hfz14_4 := blk_frozen BK135.out 4) | ((with_reducible refine gate_callee (f := 8) rfl ?_); refine goesL_ (some 20) rfl rfl Tryd.func8 (by kernel_rfl) rfl #[.agg #[.int .i64 ((rd_T25 l0_4 x14_1).f0), .string ((rd_T25 l0_4 x14_1).f1), .string ((rd_T25 l0_4 x14_1).f2), .slice A134_3 ((rd_T25 l0_4 x14_1).f3).length c134_3, .slice A134_4 ((rd_T25 l0_4 x14_1).f4).length c134_4]] rfl (by (try simp only [List.map_toArray, List.map_cons, List.map_nil]); first | done | rfl | (simp only [List.length_drop, List.length_take]; rfl)) ?_; (with_reducible refine (ih k1 (by have := HK1.out; omega) ((rd_T25 l0_4 x14_1).f0) ((rd_T25 l0_4 x14_1).f1) ((rd_T25 l0_4 x14_1).f2) _ _ ((rd_T25 l0_4 x14_1).f3) _ _ ((rd_T25 l0_4 x14_1).f4) t136 _ ?side1 ?side2 ?side3 ?side4 A10.out).mono ?_); (case side1 => exact Kd.C_below HR134_3.out (by repeat (first | (with_reducible first | exact HB.out | apply below_alloc | apply pw_below_drewN | apply below_drew1 | refine below_set ?_ GE133.out | refine below_set ?_ GE135.out) | exact HB.out))); (case side2 => exact HC134_3.out); (case side3 => exact Kd.C_below HR134_4.out (by repeat (first | (with_reducible first | exact HB.out | apply below_alloc | apply pw_below_drewN | apply below_drew1 | refine below_set ?_ GE133.out | refine below_set ?_ GE135.out) | exact HB.out))); (case side4 => exact HC134_4.out); rintro e w15 ⟨rfl, hb⟩; refine ⟨_, rfl, ?_⟩; have n0_ := Aside0.mk (blk_below (g := gb133) (o := .cells #[.int .i64 a0_0, .string a0_1, .string a0_2, .slice A0_3 l0_3.length c0_3, .slice (some ad134) l0_4.length c0_4] 25 (0, 0)) (by (with_reducible repeat (first | refine blk_drewN ?_ _ | refine blk_drew ?_ | refine blk_alloc ?_ _)); refine blk_far ?_ NB133_135.out _; (with_reducible repeat (first | refine blk_drewN ?_ _ | refine blk_drew ?_ | refine blk_alloc ?_ _)); refine blk_far ?_ NB133_135.out _; (with_reducible repeat (first | refine blk_drewN ?_ _ | refine blk_drew ?_ | refine blk_alloc ?_ _)); refine blk_far ?_ NB133_135.out _; (with_reducible repeat (first | refine blk_drewN ?_ _ | refine blk_drew ?_ | refine blk_alloc ?_ _)); refine blk_far ?_ NB133_135.out _; (with_reducible repeat (first | refine blk_drewN ?_ _ | refine blk_drew ?_ | refine blk_alloc ?_ _)); refine blk_far ?_ NB133_135.out _; (with_reducible repeat (first | refine blk_drewN ?_ _ | refine blk_drew ?_ | refine blk_alloc ?_ _)); exact BK133.out) hb); have n1_ := Aside0.mk (blk_below (g := gb135) (o := .cells #[.int .i64 ((rd_T25 l0_4 x14_1).f0), .string ((rd_T25 l0_4 x14_1).f1), .string ((rd_T25 l0_4 x14_1).f2), .slice A134_3 ((rd_T25 l0_4 x14_1).f3).length c134_3, .slice A134_4 ((rd_T25 l0_4 x14_1).f4).length c134_4] 25 (0, 0)) (by (with_reducible repeat (first | refine blk_drewN ?_ _ | refine blk_drew ?_ | refine blk_alloc ?_ _)); refine blk_put (cs := #[.int .i64 ((rd_T25 l0_4 x14_1).f0), .string ((rd_T25 l0_4 x14_1).f1), .string ((rd_T25 l0_4 x14_1).f2), .slice A134_3 ((rd_T25 l0_4 x14_1).f3).length c134_3, .slice none 0 0]) ?_ 4 _ rfl; (with_reducible repeat (first | refine blk_drewN ?_ _ | refine blk_drew ?_ | refine blk_alloc ?_ _)); refine blk_put (cs := #[.int .i64 ((rd_T25 l0_4 x14_1).f0), .string ((rd_T25 l0_4 x14_1).f1), .string ((rd_T25 l0_4 x14_1).f2), .slice none 0 0, .slice none 0 0]) ?_ 3 _ rfl; (with_reducible repeat (first | refine blk_drewN ?_ _ | refine blk_drew ?_ | refine blk_alloc ?_ _)); refine blk_put (cs := #[.int .i64 ((rd_T25 l0_4 x14_1).f0), .string ((rd_T25 l0_4 x14_1).f1), .string (⟨#[]⟩ : ByteArray), .slice none 0 0, .slice none 0 0]) ?_ 2 _ rfl; (with_reducible repeat (first | refine blk_drewN ?_ _ | refine blk_drew ?_ | refine blk_alloc ?_ _)); refine blk_put (cs := #[.int .i64 ((rd_T25 l0_4 x14_1).f0), .string (⟨#[]⟩ : ByteArray), .string (⟨#[]⟩ : ByteArray), .slice none 0 0, .slice none 0 0]) ?_ 1 _ rfl; (with_reducible repeat (first | refine blk_drewN ?_ _ | refine blk_drew ?_ | refine blk_alloc ?_ _)); refine blk_put (cs := #[.int .i64 0, .string (⟨#[]⟩ : ByteArray), .string (⟨#[]⟩ : ByteArray), .slice none 0 0, .slice none 0 0]) ?_ 0 _ rfl; (with_reducible repeat (first | refine blk_drewN ?_ _ | refine blk_drew ?_ | refine blk_alloc ?_ _)); exact BK135.out) hb); have n2_ := Aside0.mk (below_step (by repeat (first | (with_reducible first | exact HB.out | apply below_alloc | apply pw_below_drewN | apply below_drew1 | refine below_set ?_ GE133.out | refine below_set ?_ GE135.out) | exact HB.out)) hb); clear BK133; clear BK135; clear HB; have BK133 := n0_; have BK135 := n1_; have HB := n2_; clear n0_ n1_ n2_; (try clear hb); (try clear hb2); (try clear hk); (try clear hi)))
                go_roundg k1
                case measure => have := HK1.out; omega
                case rel => exact ⟨(x3_1 ++ t136), (wrap64 (x14_1 + 1)), (by first | rfl | (simp; done) | (simp [*]; done)), (by first | rfl | (simp; done) | (simp [*]; done)), H', ⟨by have := HK1.out; omega⟩, ⟨by (with_reducible repeat (first | refine blk_drewN ?_ _ | refine blk_drew ?_ | refine blk_alloc ?_ _)); exact BK133.out⟩, ⟨by repeat (first | (with_reducible first | exact HB.out | apply below_alloc | apply pw_below_drewN | apply below_drew1 | refine below_set ?_ GE133.out | refine below_set ?_ GE135.out) | exact HB.out)⟩⟩
              · rw [if_neg c11] at H
                exact absurd H (by simp)
            · rw [if_neg c9] at H
              exact absurd H (by simp)
          · rw [if_neg c8] at H
            exact absurd H (by simp)
        · rw [if_neg c7] at H
          have c7b0 : decide (x14_1 < (l0_4.length : Int)) = false := decide_eq_false c7
          clear c7
          obtain rfl := Option.some.inj H
          go_wp2
          go_ret
          exact ⟨by first | rfl | (simp [errW_none, errW_some] <;> rfl) | (simp [*, errW_none, errW_some] <;> rfl), by repeat (first | (with_reducible first | exact HB.out | apply below_alloc | apply pw_below_drewN | apply below_drew1 | refine below_set ?_ GE133.out) | exact HB.out)⟩
/-! ### laws_tag29: function 19 -/
def laws_tag29.f (a0 : ByteArray) (l1 : List (S25)) : Option (Int × ByteArray × ByteArray × (List (S31)) × (List (S25))) := some (0, a0, (⟨#[]⟩ : ByteArray), ([] : List (S31)), l1)
set_option maxHeartbeats 8000000 in
set_option maxRecDepth 100000 in
theorem laws_tag29.calls (a0 : ByteArray) (P1_ : Nat → Prop) (A1 : Option Addr) (c1 : Nat) (l1 : List (S25)) (r1 : Int) (r2 : ByteArray) (r3 : ByteArray) (r4 : List (S31)) (r5 : List (S25)) (w : World) (hs1 : Kd.V k25 25 w w.heap.size (fun k_ => P1_ k_) (.slice A1 l1.length c1) l1) (h : laws_tag29.f a0 l1 = some (r1, r2, r3, r4, r5)) :
    Calls Tryd.prog 19 #[.string a0, .slice A1 l1.length c1] w fun e w' => ∃ v3_ v4_ : Value, e = .returned (.agg #[.int .i64 r1, .string r2, .string r3, v3_, v4_]) ∧ Kd.R k31 31 w' w.heap.size (fun k_ => (w.heap.size ≤ k_)) v3_ r4 ∧ Kd.V k25 25 w' w.heap.size (fun k_ => (P1_ k_ ∨ w.heap.size ≤ k_) ∧ some k_ ≠ (v3_ : Value).ownBlock) v4_ r5 ∧ Below w.heap.size w w' := by
  have hu25 := Tryd.underlying25
  have HO1 := Aside0.mk (show Kd.V k25 25 w w.heap.size (fun k_ => (P1_ k_ ∨ w.heap.size ≤ k_)) (.slice A1 l1.length c1) l1 from Kd.V_mono hs1 (fun k_ hk => .inl hk))
  have HB := Aside0.mk (Below.refl w.heap.size w)
  have H : (some (0, a0, (⟨#[]⟩ : ByteArray), ([] : List (S31)), l1)) = some (r1, r2, r3, r4, r5) := h
  clear h
  simp only [Option.some.injEq, Prod.mk.injEq] at H
  obtain ⟨rfl, rfl, rfl, rfl, rfl⟩ := H
  go_enter Tryd.func19, Tryd.ntmps19
  go_wp2_with (first | ((with_reducible refine gate_dst (N := 4) rfl ?_); refine box_event ?hg (N := 4) ?hd (cs := #[.int .i64 0, .string (⟨#[]⟩ : ByteArray), .string (⟨#[]⟩ : ByteArray), .slice none 0 0, .slice none 0 0]) (t := 25) ?hr ?_; (case hd => rfl); (case hg => rfl); (case hr => first | (go_simp; done) | (go_simp; rfl)); intro gb137 hg w3 hbox hb; have n0_ := Aside0.mk (Kd.V_below (Kd.V_elderB (by (with_reducible repeat (first | apply Kd.V_alloc | apply Kd.V_drewN | apply Kd.V_drew)); exact HO1.out) gb137 (Nat.le_of_eq hg.symm)) hb); have n1_ := Aside0.mk (below_step (by repeat (first | (with_reducible first | exact HB.out | apply below_alloc | apply pw_below_drewN | apply below_drew1) | exact HB.out)) hb); have n2_ := Aside0.mk (hbox); have n3_ := Aside0.mk ((by rw [hg]; exact (below_size (by repeat (first | (with_reducible first | exact HB.out | apply below_alloc | apply pw_below_drewN | apply below_drew1) | exact HB.out))) : w.heap.size ≤ gb137)); have n4_ := Aside0.mk ((by rw [hg]; exact (below_size (by repeat (first | (with_reducible first | exact HB.out | apply below_alloc | apply pw_below_drewN | apply below_drew1) | exact HB.out))) : w.heap.size ≤ gb137)); clear HO1; clear HB; have HO1 := n0_; have HB := n1_; have BK137 := n2_; have GW137 := n3_; have GE137 := n4_; clear n0_ n1_ n2_ n3_ n4_; clear hb hbox hg; have hcz4_0 : w3.cell? ⟨gb137, 0, none⟩ = some (.int .i64 0) := (blk_cell BK137.out 0).trans rfl; have hcz4_1 : w3.cell? ⟨gb137, 1, none⟩ = some (.string (⟨#[]⟩ : ByteArray)) := (blk_cell BK137.out 1).trans rfl; have hcz4_2 : w3.cell? ⟨gb137, 2, none⟩ = some (.string (⟨#[]⟩ : ByteArray)) := (blk_cell BK137.out 2).trans rfl; have hcz4_3 : w3.cell? ⟨gb137, 3, none⟩ = some (.slice none 0 0) := (blk_cell BK137.out 3).trans rfl; have hcz4_4 : w3.cell? ⟨gb137, 4, none⟩ = some (.slice none 0 0) := (blk_cell BK137.out 4).trans rfl; have hfz4_0 := blk_frozen BK137.out 0; have hfz4_1 := blk_frozen BK137.out 1; have hfz4_2 := blk_frozen BK137.out 2; have hfz4_3 := blk_frozen BK137.out 3; have hfz4_4 := blk_frozen BK137.out 4))
  refine bodyPost_ret (results_cell_row rfl _ _ gb137 25 #[.int .i64 0, .string a0, .string (⟨#[]⟩ : ByteArray), .slice none 0 0, .slice A1 l1.length c1] (0, 0) _ rfl (by (with_reducible repeat (first | refine blk_drewN ?_ _ | refine blk_drew ?_ | refine blk_alloc ?_ _)); refine blk_put (cs := #[.int .i64 0, .string a0, .string (⟨#[]⟩ : ByteArray), .slice none 0 0, .slice none 0 0]) ?_ 4 _ rfl; (with_reducible repeat (first | refine blk_drewN ?_ _ | refine blk_drew ?_ | refine blk_alloc ?_ _)); refine blk_put (cs := #[.int .i64 0, .string a0, .string (⟨#[]⟩ : ByteArray), .slice none 0 0, .slice none 0 0]) ?_ 3 _ rfl; (with_reducible repeat (first | refine blk_drewN ?_ _ | refine blk_drew ?_ | refine blk_alloc ?_ _)); refine blk_put (cs := #[.int .i64 0, .string a0, .string (⟨#[]⟩ : ByteArray), .slice none 0 0, .slice none 0 0]) ?_ 2 _ rfl; (with_reducible repeat (first | refine blk_drewN ?_ _ | refine blk_drew ?_ | refine blk_alloc ?_ _)); refine blk_put (cs := #[.int .i64 0, .string (⟨#[]⟩ : ByteArray), .string (⟨#[]⟩ : ByteArray), .slice none 0 0, .slice none 0 0]) ?_ 1 _ rfl; (with_reducible repeat (first | refine blk_drewN ?_ _ | refine blk_drew ?_ | refine blk_alloc ?_ _)); refine blk_put (cs := #[.int .i64 0, .string (⟨#[]⟩ : ByteArray), .string (⟨#[]⟩ : ByteArray), .slice none 0 0, .slice none 0 0]) ?_ 0 _ rfl; (with_reducible repeat (first | refine blk_drewN ?_ _ | refine blk_drew ?_ | refine blk_alloc ?_ _)); exact BK137.out) Tryd.underlying25 rfl (by kernel_rfl)) rfl ?_
  exact ⟨_, _, by first | rfl | (simp [errW_none, errW_some] <;> rfl) | (simp [*, errW_none, errW_some] <;> rfl), by first | exact Kd.R_nil _ _ _ _ _ | exact Kd.N_nil _ _ _ _ _ | exact Kd.V_nil _ _ _ _ _ | exact Kd.Q_nil _ _ _ _ _ | exact Kd.S_nil _ _ _ _ _, by (with_reducible repeat (first | apply Kd.V_alloc | apply Kd.V_drewN | apply Kd.V_drew)); exact Kd.V_mono (Kd.V_far (p := ⟨gb137, 4, none⟩) (Kd.V_far (p := ⟨gb137, 3, none⟩) (Kd.V_far (p := ⟨gb137, 2, none⟩) (Kd.V_far (p := ⟨gb137, 1, none⟩) (Kd.V_far (p := ⟨gb137, 0, none⟩) (Kd.V_mono HO1.out (fun k_ hk => (⟨hk, hk.2⟩ : _ ∧ k_ ≠ gb137))) (fun _ hk => hk.2) (.int .i64 0)) (fun _ hk => hk.2) (.string a0)) (fun _ hk => hk.2) (.string (⟨#[]⟩ : ByteArray))) (fun _ hk => hk.2) (.slice none 0 0)) (fun _ hk => hk.2) (.slice A1 l1.length c1)) (fun _ hk => ⟨hk.1.1, (by simp [Value.ownBlock])⟩), by repeat (first | (with_reducible first | exact HB.out | apply below_alloc | apply pw_below_drewN | apply below_drew1 | refine below_set ?_ GE137.out) | exact HB.out)⟩
/-! ### laws_text29: function 20 -/
def laws_text29.f (a0 : ByteArray) : Option (Int × ByteArray × ByteArray × (List (S31)) × (List (S25))) := some (1, (⟨#[]⟩ : ByteArray), a0, ([] : List (S31)), ([] : List (S25)))
set_option maxHeartbeats 8000000 in
set_option maxRecDepth 100000 in
theorem laws_text29.calls (a0 : ByteArray) (r1 : Int) (r2 : ByteArray) (r3 : ByteArray) (r4 : List (S31)) (r5 : List (S25)) (w : World) (h : laws_text29.f a0 = some (r1, r2, r3, r4, r5)) :
    Calls Tryd.prog 20 #[.string a0] w fun e w' => ∃ v3_ v4_ : Value, e = .returned (.agg #[.int .i64 r1, .string r2, .string r3, v3_, v4_]) ∧ Kd.R k31 31 w' w.heap.size (fun _ => True) v3_ r4 ∧ Kd.R k25 25 w' w.heap.size (fun k_ => some k_ ≠ (v3_ : Value).ownBlock) v4_ r5 ∧ Below w.heap.size w w' := by
  have hu25 := Tryd.underlying25
  have HB := Aside0.mk (Below.refl w.heap.size w)
  have H : (some (1, (⟨#[]⟩ : ByteArray), a0, ([] : List (S31)), ([] : List (S25)))) = some (r1, r2, r3, r4, r5) := h
  clear h
  simp only [Option.some.injEq, Prod.mk.injEq] at H
  obtain ⟨rfl, rfl, rfl, rfl, rfl⟩ := H
  go_enter Tryd.func20, Tryd.ntmps20
  go_wp2_with (first | ((with_reducible refine gate_dst (N := 2) rfl ?_); refine box_event ?hg (N := 2) ?hd (cs := #[.int .i64 0, .string (⟨#[]⟩ : ByteArray), .string (⟨#[]⟩ : ByteArray), .slice none 0 0, .slice none 0 0]) (t := 25) ?hr ?_; (case hd => rfl); (case hg => rfl); (case hr => first | (go_simp; done) | (go_simp; rfl)); intro gb138 hg w2 hbox hb; have n0_ := Aside0.mk (below_step (by repeat (first | (with_reducible first | exact HB.out | apply below_alloc | apply pw_below_drewN | apply below_drew1) | exact HB.out)) hb); have n1_ := Aside0.mk (hbox); have n2_ := Aside0.mk ((by rw [hg]; exact (below_size (by repeat (first | (with_reducible first | exact HB.out | apply below_alloc | apply pw_below_drewN | apply below_drew1) | exact HB.out))) : w.heap.size ≤ gb138)); have n3_ := Aside0.mk ((by rw [hg]; exact (below_size (by repeat (first | (with_reducible first | exact HB.out | apply below_alloc | apply pw_below_drewN | apply below_drew1) | exact HB.out))) : w.heap.size ≤ gb138)); clear HB; have HB := n0_; have BK138 := n1_; have GW138 := n2_; have GE138 := n3_; clear n0_ n1_ n2_ n3_; clear hb hbox hg; have hcz3_0 : w2.cell? ⟨gb138, 0, none⟩ = some (.int .i64 0) := (blk_cell BK138.out 0).trans rfl; have hcz3_1 : w2.cell? ⟨gb138, 1, none⟩ = some (.string (⟨#[]⟩ : ByteArray)) := (blk_cell BK138.out 1).trans rfl; have hcz3_2 : w2.cell? ⟨gb138, 2, none⟩ = some (.string (⟨#[]⟩ : ByteArray)) := (blk_cell BK138.out 2).trans rfl; have hcz3_3 : w2.cell? ⟨gb138, 3, none⟩ = some (.slice none 0 0) := (blk_cell BK138.out 3).trans rfl; have hcz3_4 : w2.cell? ⟨gb138, 4, none⟩ = some (.slice none 0 0) := (blk_cell BK138.out 4).trans rfl; have hfz3_0 := blk_frozen BK138.out 0; have hfz3_1 := blk_frozen BK138.out 1; have hfz3_2 := blk_frozen BK138.out 2; have hfz3_3 := blk_frozen BK138.out 3; have hfz3_4 := blk_frozen BK138.out 4))
  refine bodyPost_ret (results_cell_row rfl _ _ gb138 25 #[.int .i64 1, .string (⟨#[]⟩ : ByteArray), .string a0, .slice none 0 0, .slice none 0 0] (0, 0) _ rfl (by (with_reducible repeat (first | refine blk_drewN ?_ _ | refine blk_drew ?_ | refine blk_alloc ?_ _)); refine blk_put (cs := #[.int .i64 1, .string (⟨#[]⟩ : ByteArray), .string a0, .slice none 0 0, .slice none 0 0]) ?_ 4 _ rfl; (with_reducible repeat (first | refine blk_drewN ?_ _ | refine blk_drew ?_ | refine blk_alloc ?_ _)); refine blk_put (cs := #[.int .i64 1, .string (⟨#[]⟩ : ByteArray), .string a0, .slice none 0 0, .slice none 0 0]) ?_ 3 _ rfl; (with_reducible repeat (first | refine blk_drewN ?_ _ | refine blk_drew ?_ | refine blk_alloc ?_ _)); refine blk_put (cs := #[.int .i64 1, .string (⟨#[]⟩ : ByteArray), .string (⟨#[]⟩ : ByteArray), .slice none 0 0, .slice none 0 0]) ?_ 2 _ rfl; (with_reducible repeat (first | refine blk_drewN ?_ _ | refine blk_drew ?_ | refine blk_alloc ?_ _)); refine blk_put (cs := #[.int .i64 1, .string (⟨#[]⟩ : ByteArray), .string (⟨#[]⟩ : ByteArray), .slice none 0 0, .slice none 0 0]) ?_ 1 _ rfl; (with_reducible repeat (first | refine blk_drewN ?_ _ | refine blk_drew ?_ | refine blk_alloc ?_ _)); refine blk_put (cs := #[.int .i64 0, .string (⟨#[]⟩ : ByteArray), .string (⟨#[]⟩ : ByteArray), .slice none 0 0, .slice none 0 0]) ?_ 0 _ rfl; (with_reducible repeat (first | refine blk_drewN ?_ _ | refine blk_drew ?_ | refine blk_alloc ?_ _)); exact BK138.out) Tryd.underlying25 rfl (by kernel_rfl)) rfl ?_
  exact ⟨_, _, by first | rfl | (simp [errW_none, errW_some] <;> rfl) | (simp [*, errW_none, errW_some] <;> rfl), by first | exact Kd.R_nil _ _ _ _ _ | exact Kd.N_nil _ _ _ _ _ | exact Kd.V_nil _ _ _ _ _ | exact Kd.Q_nil _ _ _ _ _ | exact Kd.S_nil _ _ _ _ _, by first | exact Kd.R_nil _ _ _ _ _ | exact Kd.N_nil _ _ _ _ _ | exact Kd.V_nil _ _ _ _ _ | exact Kd.Q_nil _ _ _ _ _ | exact Kd.S_nil _ _ _ _ _, by repeat (first | (with_reducible first | exact HB.out | apply below_alloc | apply pw_below_drewN | apply below_drew1 | refine below_set ?_ GE138.out) | exact HB.out)⟩

-- NOT PRINTED: function 31 (dom_NodeName)

-- NOT PRINTED: function 21 (impl_NameOf)

-- NOT PRINTED: function 32 (dom_AllNodes)

-- NOT PRINTED: function 33 (impl_pathOf)

-- NOT PRINTED: function 22 (impl_AllNodes)

-- NOT PRINTED: function 9 (laws_living29)

-- NOT PRINTED: function 3 (laws_FnDomText)
end Go.Proofs.YtibfoaahdbdogaaDoor.PDom

/- Tables side by side; a table that is a tree. Plain facts. -/
namespace Go.Proofs.YtibfoaahdbdogaaDoor.Dom
open Go.RowKit Go.Proofs.YtibfoaahdbdogaaDoorW.PrintWords Go.Proofs.YtibfoaahdbdogaaDoorW.PrintLast Go.Proofs.YtibfoaahdbdogaaDoorW.PrintMore Go.Proofs.YtibfoaahdbdogaaDoor.PDom
set_option linter.unusedVariables false
set_option linter.unusedSimpArgs false

theorem Dom.below {w w' : World} {D : Tab} (h : Dom w D) (hb : Below w.heap.size w w') : Dom w' D :=
  ⟨h.wf, fun hd => by
    obtain ⟨v, h1, h2⟩ := h.has hd
    exact ⟨v, h1.of_heap (hb.block _ h1.lt), h2.below hb⟩⟩
theorem Dom.lt {w : World} {D : Tab} (h : Dom w D) {b : Nat} (hb : D b ≠ none) : b < w.heap.size := by
  cases hd : D b with
  | none => exact absurd hd hb
  | some i =>
    obtain ⟨v, h1, _⟩ := h.has hd
    exact h1.lt

/-- One node alone. -/
def none_ : Tab := fun _ => none
theorem Dom.one {w : World} {b : Nat} {ty atom : Int} {data : ByteArray} {v : Value} {attrs : List (ByteArray × ByteArray)} (h : Has w b ⟨none, none, none, none, none, ty, atom, data, v⟩) (ha : AttrAt w v attrs) :
    Dom w (put none_ b ⟨none, [], ty, atom, data, attrs⟩) := by
  have hs : ∀ {x i}, put none_ b ⟨none, [], ty, atom, data, attrs⟩ x = some i → x = b ∧ i = ⟨none, [], ty, atom, data, attrs⟩ := by
    intro x i hx
    by_cases hxb : x = b
    · subst hxb
      rw [put_same] at hx
      exact ⟨rfl, (Option.some.inj hx).symm⟩
    · rw [put_other _ _ hxb] at hx
      cases hx
  refine ⟨⟨?_, ?_, ?_⟩, ?_⟩
  · intro x i p hx hp
    obtain ⟨_, rfl⟩ := hs hx
    cases hp
  · intro x i c hx hc
    obtain ⟨_, rfl⟩ := hs hx
    cases hc
  · intro x i hx
    obtain ⟨_, rfl⟩ := hs hx
    exact List.nodup_nil
  · intro x i hx
    obtain ⟨rfl, rfl⟩ := hs hx
    exact ⟨v, h, ha⟩

/-- Two tables side by side. -/
def uni (D D' : Tab) : Tab := fun x => match D x with
  | some i => some i
  | none => D' x
theorem uni_left {D D' : Tab} {x : Nat} {i : Info} (h : D x = some i) : uni D D' x = some i := by unfold uni; rw [h]
theorem uni_right {D D' : Tab} {x : Nat} (h : D x = none) : uni D D' x = D' x := by unfold uni; rw [h]
theorem uni_some {D D' : Tab} {x : Nat} {i : Info} (h : uni D D' x = some i) : D x = some i ∨ (D x = none ∧ D' x = some i) := by
  cases hd : D x with
  | some j => rw [uni_left hd] at h; exact .inl h
  | none => rw [uni_right hd] at h; exact .inr ⟨rfl, h⟩
theorem Dom.union {w : World} {D D' : Tab} (h : Dom w D) (h' : Dom w D') (hd : ∀ x, D x ≠ none → D' x = none) : Dom w (uni D D') := by
  have hr : ∀ {x i}, D' x = some i → uni D D' x = some i := by
    intro x i hx
    have : D x = none := by
      cases hD : D x with
      | none => rfl
      | some j => have := hd x (by rw [hD]; simp); rw [hx] at this; cases this
    rw [uni_right this]
    exact hx
  refine ⟨⟨?_, ?_, ?_⟩, ?_⟩
  · intro b i p hb hp
    rcases uni_some hb with hb | ⟨_, hb⟩
    · obtain ⟨ip, h1, h2⟩ := h.wf.up hb hp
      exact ⟨ip, uni_left h1, h2⟩
    · obtain ⟨ip, h1, h2⟩ := h'.wf.up hb hp
      exact ⟨ip, hr h1, h2⟩
  · intro b i c hb hc
    rcases uni_some hb with hb | ⟨_, hb⟩
    · obtain ⟨ip, h1, h2⟩ := h.wf.down hb hc
      exact ⟨ip, uni_left h1, h2⟩
    · obtain ⟨ip, h1, h2⟩ := h'.wf.down hb hc
      exact ⟨ip, hr h1, h2⟩
  · intro b i hb
    rcases uni_some hb with hb | ⟨_, hb⟩
    · exact h.wf.nodup hb
    · exact h'.wf.nodup hb
  · intro b i hb
    rcases uni_some hb with hb | ⟨_, hb⟩
    · obtain ⟨v, h1, h2⟩ := h.has hb
      refine ⟨v, ?_, h2⟩
      have hs : sibs (uni D D') i = sibs D i := by
        cases hp : i.parent with
        | none => rw [sibs_none hp, sibs_none hp]
        | some p =>
          obtain ⟨ip, h3, _⟩ := h.wf.up hb hp
          rw [sibs_some hp, sibs_some hp, kidsOf_some h3, kidsOf_some (uni_left h3)]
      unfold recOf at h1 ⊢
      rw [hs]
      exact h1
    · obtain ⟨v, h1, h2⟩ := h'.has hb
      refine ⟨v, ?_, h2⟩
      have hs : sibs (uni D D') i = sibs D' i := by
        cases hp : i.parent with
        | none => rw [sibs_none hp, sibs_none hp]
        | some p =>
          obtain ⟨ip, h3, _⟩ := h'.wf.up hb hp
          rw [sibs_some hp, sibs_some hp, kidsOf_some h3, kidsOf_some (hr h3)]
      unfold recOf at h1 ⊢
      rw [hs]
      exact h1

/-! ### A tree -/
abbrev T := S25
def tyOf (k : Int) : Int := if k = 0 then 3 else if k = 1 then 1 else if k = 2 then 4 else 2
def flat (t : T) : Prop := t.f0 = 1 ∨ t.f0 = 2
instance (t : T) : Decidable (flat t) := by unfold flat; exact inferInstance
def dataOf (t : T) : ByteArray := if t.f0 = 0 then t.f1 else if flat t then t.f2 else ⟨#[]⟩
def attrsOf (t : T) : List (ByteArray × ByteArray) := if t.f0 = 0 then t.f3.map fun a => (a.f0, a.f1) else []
def atomOf (t : T) : Int := if t.f0 = 0 then (atom_ZzAtom.f t.f1).getD 0 else 0
def kidsT (t : T) : List T := if flat t then [] else t.f4
structure Match (i : Info) (t : T) : Prop where
  ty : i.ty = tyOf t.f0
  atom : i.atom = atomOf t
  data : i.data = dataOf t
  attrs : i.attrs = attrsOf t
inductive IsT (D : Tab) : Nat → T → Prop
  | mk (b : Nat) (t : T) (i : Info) (h : D b = some i) (hm : Match i t) (hl : i.kids.length = (kidsT t).length) (hk : ∀ j (h1 : j < i.kids.length) (h2 : j < (kidsT t).length), IsT D i.kids[j] (kidsT t)[j]) : IsT D b t
/-- What is in the one table is in the other one, but for who the parent is. -/
def Sub (D D2 : Tab) : Prop := ∀ b i, D b = some i → ∃ p, D2 b = some { i with parent := p }
theorem IsT.mono {D D2 : Tab} (hs : Sub D D2) {b : Nat} {t : T} (h : IsT D b t) : IsT D2 b t := by
  induction h with
  | mk b t i h hm hl hk ih =>
    obtain ⟨p, h2⟩ := hs b i h
    exact IsT.mk b t { i with parent := p } h2 ⟨hm.ty, hm.atom, hm.data, hm.attrs⟩ hl ih
/-- The part of a table that lies above a block. -/
def above (n : Nat) (D : Tab) : Tab := fun x => if n < x then D x else none
theorem above_sub (n : Nat) (D : Tab) : Sub (above n D) D := by
  intro b i h
  unfold above at h
  split at h
  · exact ⟨i.parent, h⟩
  · cases h

/-- One more child. -/
theorem grow {D D' : Tab} {n c : Nat} {i ic : Info} (hn : D n = some i) (hc : D' c = some ic) (hd : ∀ x, D x ≠ none → D' x = none) (hlt : ∀ x, D' x ≠ none → n < x) :
    Sub (above n D) (above n (appended (uni D D') n c i ic)) ∧ Sub D' (above n (appended (uni D D') n c i ic)) := by
  have hcn : n < c := hlt c (by rw [hc]; simp)
  constructor
  · intro b ib hb
    unfold above at hb
    split at hb
    case isFalse => cases hb
    rename_i hnb
    have hbc : b ≠ c := fun e => by
      subst e
      have := hd b (by rw [hb]; simp)
      rw [hc] at this
      cases this
    refine ⟨ib.parent, ?_⟩
    unfold above
    rw [if_pos hnb]
    unfold appended
    rw [put_other _ _ hbc, put_other _ _ (by omega), uni_left hb]
  · intro b ib hb
    have hnb := hlt b (by rw [hb]; simp)
    have hD : D b = none := by
      cases hD : D b with
      | none => rfl
      | some j => have := hd b (by rw [hD]; simp); rw [hb] at this; cases this
    unfold above
    rw [if_pos hnb]
    unfold appended
    by_cases hbc : b = c
    · subst hbc
      rw [hc] at hb
      obtain rfl := Option.some.inj hb
      exact ⟨some n, put_same _ _ _⟩
    · exact ⟨ib.parent, by rw [put_other _ _ hbc, put_other _ _ (by omega), uni_right hD, hb]⟩
end Go.Proofs.YtibfoaahdbdogaaDoor.Dom

/- What impl.made rests on: leaves, one more attribute. Plain facts and one law. -/
namespace Go.Proofs.YtibfoaahdbdogaaDoor.Dom
open Go.RowKit Go.Proofs.YtibfoaahdbdogaaDoorW.PrintWords Go.Proofs.YtibfoaahdbdogaaDoorW.PrintLast Go.Proofs.YtibfoaahdbdogaaDoorW.PrintMore Go.Proofs.YtibfoaahdbdogaaDoor.PDom
set_option linter.unusedVariables false
set_option linter.unusedSimpArgs false

theorem kid_lt {t x : T} (h : x ∈ t.f4) : SizeOf.sizeOf x < SizeOf.sizeOf t := by
  have := List.sizeOf_lt_of_mem h
  cases t
  simp only [S25.mk.sizeOf_spec] at this ⊢
  omega
inductive Fit : T → Prop
  | mk (t : T) (ha : t.f3.length ≤ 4398046510976) (hk : t.f4.length ≤ 4398046510976) (h : ∀ y ∈ t.f4, Fit y) : Fit t

theorem atom_some (s : ByteArray) : atom_ZzAtom.f s = some ((atom_ZzAtom.f s).getD 0) := by
  unfold atom_ZzAtom.f
  repeat' split
  all_goals rfl

/-- One more attribute, as long as a row may come in. -/
theorem attr_step {P : Program} {ops : Array Oper} {o : Oper} {a : Act} {Q : Exit → Act → World → Prop} {K : Act → World → Prop} {E : Prop} {W : World} (hgd : o.guard = none) (s x : Operand) (t : TypeId) (z : Value)
    (ho : o.op = .call { callee := .builtin .append, args := #[s, x], argTypes := #[t, t] })
    (ht : P.underlying t = some (.slice 66)) (hinfo : (P.info? 66).map (fun i => (i.zero, i.size, i.bytes)) = some (some z, 3, 48)) (hz : z.cells.size = 3)
    (B : Nat) (hB : B ≤ W.heap.size) (v : Value) (l : List (ByteArray × ByteArray)) (k u : ByteArray) (bk : Nat) (hs : a.eval s = v) (hx : a.eval x = .slice (some ⟨bk, 0, none⟩) 1 1) (hnew : W.heap[bk]? = some (.cells #[.string ⟨#[]⟩, .string k, .string u] 66 (0, 0))) (HO : kA.R 66 W B (fun _ => True) v l) (hl : l.length ≤ 4398046510976)
    (h : ∀ v1 w1, kA.R 66 w1 B (fun _ => True) v1 (l ++ [(k, u)]) → W.grownBy w1 v.ownBlock → K (a.put o.dst v1) w1) :
    if Region.wanted o (yielded ops a.tmps) = true then Oper.wp P o a W K Q else E := by
  obtain ⟨i0, hi, hzz⟩ := Option.map_eq_some_iff.1 hinfo
  simp only [Prod.mk.injEq] at hzz
  obtain ⟨hz0, hz1, hz2⟩ := hzz
  rw [if_pos (show Region.wanted o (yielded ops a.tmps) = true by simp [Region.wanted, hgd])]
  obtain ⟨h0, inner, hown, hr⟩ := HO
  have hsz : kA.sz = 3 := rfl
  rw [hsz] at hown hr
  refine wp_append_own_wide _ s x t ho B 66 i0 z 3 48 ht hi hz0 hz1 hz2 hz (by omega) v l.length inner hs hown ⟨bk, 0, none⟩ 1 1 [.string ⟨#[]⟩, .string k, .string u] hx rfl
    (by simpa using World.news_of_block (cs := #[.string ⟨#[]⟩, .string k, .string u]) (t := 66) (fr := (0, 0)) hnew)
    (by intro y hy; rcases List.mem_cons.1 hy with rfl | hy; rfl; rcases List.mem_cons.1 hy with rfl | hy; rfl; rcases List.mem_cons.1 hy with rfl | hy; rfl; cases hy) (by simp only [maxLen]; omega) (by omega) hB ?_
  intro v1 w1 hown1 hg _
  refine h v1 w1 ⟨fun _ _ => trivial, inner ++ [.string ⟨#[]⟩, .string k, .string u], by rw [List.length_append, List.length_singleton]; exact hown1, ?_⟩ hg
  exact (hr.imp_ (fun _ _ hq => hq)).snoc ⟨[.string ⟨#[]⟩], [.string k, .string u], rfl, rfl, ⟨[.string k], [.string u], rfl, rfl, rfl⟩⟩ rfl
theorem kept {w8 w9 : World} {o : Obj} {r : Option Nat} (hg : (w8.alloc o).drew.grownBy w9 r) {g : Nat} {x : Obj} (h : w8.heap[g]? = some x) (hne : some g ≠ r) : w9.heap[g]? = some x := by
  have hlt := (Array.getElem?_eq_some_iff.1 h).1
  have h1 := hg.block g (by show g < (w8.heap.push o).size; rw [Array.size_push]; omega) hne
  exact h1.trans ((heap_alloc_old w8 o hlt).trans h)
theorem kept_below {w w8 w9 : World} {o : Obj} {B : Nat} {r : Option Nat} (hg : (w8.alloc o).drew.grownBy w9 r) (hb : Below B w (w8.alloc o)) (hB : B ≤ (w8.alloc o).drew.heap.size) (hr : ∀ k, r = some k → B ≤ k) : Below B w w9 :=
  (below_drew hb).grown hg hB hr
theorem attrR_set {w : World} {B : Nat} {v : Value} {l : List (ByteArray × ByteArray)} (h : kA.R 66 w B (fun _ => True) v l) {g : Nat} {r : Rec} (hg : Has w g r) (j : Nat) (u : Value) : kA.R 66 (w.setCell ⟨g, j, none⟩ u) B (fun _ => True) v l :=
  Kd.R_set h hg (fun q hq => by
    have : q = 66 := by simpa [kA, Kd.iso, Kd.pair, Kd.string, Kd.scalar] using hq
    rw [this]
    decide) j u
theorem Has.put9 {w : World} {b : Nat} {r : Rec} (h : Has w b r) (u : Value) : Has (w.setCell ⟨b, 9, none⟩ u) b { r with attr := u } := h.put 9 u { r with attr := u } rfl
/-- The end of a round: the node has one more attribute. -/
theorem attr_round {w w9 : World} {nb : Nat} {r : Rec} {box : Obj} {v1 : Value} {l : List (ByteArray × ByteArray)} (hnb : w.heap.size < nb) (hx : w9.heap[w.heap.size]? = some box) (hn : Has w9 nb r) (ho : kA.R 66 w9 w.heap.size (fun _ => True) v1 l) (hb : Below w.heap.size w w9) :
    (w9.setCell ⟨nb, 9, none⟩ v1).heap[w.heap.size]? = some box ∧ Has (w9.setCell ⟨nb, 9, none⟩ v1) nb { r with attr := v1 } ∧ kA.R 66 (w9.setCell ⟨nb, 9, none⟩ v1) w.heap.size (fun _ => True) v1 l ∧ Below w.heap.size w (w9.setCell ⟨nb, 9, none⟩ v1) :=
  ⟨(Below.heap_setCell w9 ⟨nb, 9, none⟩ v1 w.heap.size (by show w.heap.size ≠ nb; omega)).trans hx, hn.put9 v1, attrR_set ho hn 9 v1, hb.setCell (p := ⟨nb, 9, none⟩) (by show w.heap.size ≤ nb; omega) v1⟩
theorem wrap_same {x : Int} (h0 : -9223372036854775808 ≤ x) (h1 : x ≤ 9223372036854775807) : wrap64 x = x := by
  unfold wrap64
  omega
theorem wrap_succ (j : Nat) (h : j ≤ 4398046510976) : wrap64 ((j : Int) + 1) = ((j + 1 : Nat) : Int) := by
  rw [wrap_same (by omega) (by omega)]
  omega
theorem infoA : (Tryd.prog.info? 66).map (fun i => (i.zero, i.size, i.bytes)) = some (some (.agg #[.string ⟨#[]⟩, .string ⟨#[]⟩, .string ⟨#[]⟩]), 3, 48) := by kernel_rfl

structure Made (w w' : World) (b : Nat) (D : Tab) (t : T) : Prop where
  dom : Dom w' D
  tree : IsT D b t
  root : ∀ i, D b = some i → i.parent = none
  fresh : ∀ x, D x ≠ none → w.heap.size ≤ x
  below : Below w.heap.size w w'

theorem two_new (w : World) (o1 o2 : Obj) : ((w.alloc o1).alloc o2).heap[w.heap.size + 1]? = some o2 := by
  show ((w.heap.push o1).push o2)[w.heap.size + 1]? = some o2
  rw [Array.getElem?_push, Array.size_push, if_pos rfl]
theorem two_old (w : World) (o1 o2 : Obj) : ((w.alloc o1).alloc o2).heap[w.heap.size]? = some o1 := by
  show ((w.heap.push o1).push o2)[w.heap.size]? = some o1
  rw [Array.getElem?_push, Array.size_push, if_neg (by omega)]
  simp
theorem leaf (w : World) (o1 : Obj) (t : T) (ty : Int) (hf : flat t) (hty : ty = tyOf t.f0) :
    Made w ((w.alloc o1).alloc (.cells (Rec.cells ⟨none, none, none, none, none, ty, 0, t.f2, .slice none 0 0⟩) 64 (0, 0))) (w.heap.size + 1) (put none_ (w.heap.size + 1) ⟨none, [], ty, 0, t.f2, []⟩) t := by
  have h0 : ¬ t.f0 = 0 := fun e => by rcases hf with h | h <;> omega
  have hD : Dom ((w.alloc o1).alloc (.cells (Rec.cells ⟨none, none, none, none, none, ty, 0, t.f2, .slice none 0 0⟩) 64 (0, 0))) (put none_ (w.heap.size + 1) ⟨none, [], ty, 0, t.f2, []⟩) :=
    Dom.one (two_new w o1 _) (Kd.R_nil kA _ _ _ _)
  refine ⟨hD, ?_, ?_, ?_, below_alloc (below_alloc (Below.refl _ _) _) _⟩
  · refine IsT.mk _ t _ (put_same _ _ _) ⟨hty, ?_, ?_, ?_⟩ ?_ ?_
    · show (0 : Int) = atomOf t
      unfold atomOf
      rw [if_neg h0]
    · show t.f2 = dataOf t
      unfold dataOf
      rw [if_neg h0, if_pos hf]
    · show [] = attrsOf t
      unfold attrsOf
      rw [if_neg h0]
    · show 0 = (kidsT t).length
      unfold kidsT
      rw [if_pos hf]
      rfl
    · intro j h1
      exact absurd h1 (Nat.not_lt_zero _)
  · intro i hi
    rw [put_same] at hi
    obtain rfl := Option.some.inj hi
    rfl
  · intro x hx
    by_cases hxb : x = w.heap.size + 1
    · omega
    · rw [put_other _ _ hxb] at hx
      exact absurd rfl hx

end Go.Proofs.YtibfoaahdbdogaaDoor.Dom

/- What impl.made's loop over the children keeps. Plain facts on tables. -/
namespace Go.Proofs.YtibfoaahdbdogaaDoor.Dom
open Go.RowKit Go.Proofs.YtibfoaahdbdogaaDoorW.PrintWords Go.Proofs.YtibfoaahdbdogaaDoorW.PrintLast Go.Proofs.YtibfoaahdbdogaaDoorW.PrintMore Go.Proofs.YtibfoaahdbdogaaDoor.PDom
set_option linter.unusedVariables false
set_option linter.unusedSimpArgs false

structure Kept (w wr : World) (nb : Nat) (D : Tab) (i : Info) (t : T) (box : Obj) (j : Nat) : Prop where
  dom : Dom wr D
  node : D nb = some i
  root : i.parent = none
  mt : Match i t
  len : i.kids.length = j
  kids : ∀ k (h1 : k < i.kids.length) (h2 : k < t.f4.length), IsT (above nb D) i.kids[k] t.f4[k]
  fresh : ∀ x, D x ≠ none → nb ≤ x
  box : wr.heap[w.heap.size]? = some box
  below : Below w.heap.size w wr

/-- Ahead of the first child. -/
theorem Kept.start {w wr : World} {nb : Nat} {t : T} {box : Obj} {ty atom : Int} {data : ByteArray} {v : Value} {attrs : List (ByteArray × ByteArray)} (hn : Has wr nb ⟨none, none, none, none, none, ty, atom, data, v⟩) (ha : AttrAt wr v attrs)
    (hm : Match ⟨none, [], ty, atom, data, attrs⟩ t) (hx : wr.heap[w.heap.size]? = some box) (hb : Below w.heap.size w wr) : Kept w wr nb (put none_ nb ⟨none, [], ty, atom, data, attrs⟩) ⟨none, [], ty, atom, data, attrs⟩ t box 0 :=
  ⟨Dom.one hn ha, put_same _ _ _, rfl, hm, rfl, fun k h1 => absurd h1 (Nat.not_lt_zero _), fun x hx => by
    by_cases h : x = nb
    · omega
    · rw [put_other _ _ h] at hx
      exact absurd rfl hx, hx, hb⟩

/-- The tables side by side, ahead of AppendChild. -/
theorem Kept.ready {w wr w1 w2 : World} {nb b : Nat} {D D' : Tab} {i : Info} {t x : T} {box : Obj} {j : Nat} (h : Kept w wr nb D i t box j) (h1 : Below wr.heap.size wr w1) (hm : Made w1 w2 b D' x) :
    ∃ ic, D' b = some ic ∧ Dom w2 (uni D D') ∧ uni D D' nb = some i ∧ uni D D' b = some ic ∧ nb ≠ b ∧ ic.parent = none ∧ i.parent ≠ some nb ∧ (∀ y, D y ≠ none → D' y = none) ∧ (∀ y, D' y ≠ none → nb < y) := by
  have hlt : ∀ y, D y ≠ none → y < wr.heap.size := fun y hy => h.dom.lt hy
  have hge : ∀ y, D' y ≠ none → wr.heap.size ≤ y := fun y hy => Nat.le_trans h1.size (hm.fresh y hy)
  have hd : ∀ y, D y ≠ none → D' y = none := by
    intro y hy
    cases hc : D' y with
    | none => rfl
    | some q =>
      have := hge y (by rw [hc]; simp)
      have := hlt y hy
      omega
  have hnb : nb < wr.heap.size := hlt nb (by rw [h.node]; simp)
  obtain ⟨ic, hic⟩ : ∃ ic, D' b = some ic := by
    obtain ⟨_, _, ic, hic, _, _, _⟩ := hm.tree
    exact ⟨ic, hic⟩
  have hb : wr.heap.size ≤ b := hge b (by rw [hic]; simp)
  have hDb : D b = none := by
    cases hc : D b with
    | none => rfl
    | some q =>
      have := hlt b (by rw [hc]; simp)
      omega
  refine ⟨ic, hic, (h.dom.below (h1.trans ?_)).union hm.dom hd, uni_left h.node, by rw [uni_right hDb]; exact hic, by omega, hm.root ic hic, by rw [h.root]; simp, hd, fun y hy => by have := hge y hy; omega⟩
  exact ⟨hm.below.os, hm.below.tape, hm.below.output, hm.below.size, fun k hk => hm.below.block k (Nat.lt_of_lt_of_le hk h1.size)⟩

/-- Behind AppendChild. -/
theorem Kept.step {w wr w1 w2 w3 : World} {nb b : Nat} {D D' : Tab} {i ic : Info} {t : T} {box : Obj} {j : Nat} (h : Kept w wr nb D i t box j) (hnb : w.heap.size < nb) (hj : j < t.f4.length) (h1 : Below wr.heap.size wr w1) (hm : Made w1 w2 b D' t.f4[j])
    (hic : D' b = some ic) (hd : ∀ y, D y ≠ none → D' y = none) (hlt : ∀ y, D' y ≠ none → nb < y) (hdom : Dom w3 (appended (uni D D') nb b i ic)) (ho : Only (uni D D') w2 w3) :
    Kept w w3 nb (appended (uni D D') nb b i ic) { i with kids := i.kids ++ [b] } t box (j + 1) := by
  have hbn : b ≠ nb := by have := hlt b (by rw [hic]; simp); omega
  obtain ⟨g1, g2⟩ := grow (n := nb) (c := b) h.node hic hd hlt
  have hlen : ∀ y, uni D D' y ≠ none → nb ≤ y := by
    intro y hy
    cases hD : D y with
    | some q => exact h.fresh y (by rw [hD]; simp)
    | none =>
      rw [uni_right hD] at hy
      exact Nat.le_of_lt (hlt y hy)
  have hB2 : Below w.heap.size w w2 := by
    have a1 : Below w.heap.size w w1 := below_step h.below h1
    exact below_step a1 hm.below
  have hB3 : Below w.heap.size w2 w3 := ho.below hB2.size (fun k hk => by
    cases hc : uni D D' k with
    | none => rfl
    | some q => have := hlen k (by rw [hc]; simp); omega)
  have hwr : w.heap.size < wr.heap.size := (Array.getElem?_eq_some_iff.1 h.box).1
  refine ⟨hdom, ?_, h.root, ⟨h.mt.ty, h.mt.atom, h.mt.data, h.mt.attrs⟩, ?_, ?_, ?_, ?_, hB2.trans hB3⟩
  · unfold appended
    rw [put_other _ _ (Ne.symm hbn), put_same]
  · show (i.kids ++ [b]).length = j + 1
    rw [List.length_append, List.length_singleton, h.len]
  · intro k k1 k2
    by_cases hk : k < i.kids.length
    · have e : (i.kids ++ [b])[k]'(by simpa using k1) = i.kids[k] := List.getElem_append_left hk
      show IsT _ ((i.kids ++ [b])[k]'(by simpa using k1)) _
      rw [e]
      exact (h.kids k hk k2).mono g1
    · have hkj : k = j := by
        have : k < (i.kids ++ [b]).length := k1
        rw [List.length_append, List.length_singleton, h.len] at this
        have := h.len
        omega
      subst hkj
      have e : (i.kids ++ [b])[k]'(by simpa using k1) = b := by
        rw [List.getElem_append_right (by omega)]
        simp [h.len]
      show IsT _ ((i.kids ++ [b])[k]'(by simpa using k1)) _
      rw [e]
      exact hm.tree.mono g2
  · intro y hy
    by_cases hyb : y = b
    · subst hyb
      exact Nat.le_of_lt (hlt y (by rw [hic]; simp))
    · by_cases hyn : y = nb
      · omega
      · unfold appended at hy
        rw [put_other _ _ hyb, put_other _ _ hyn] at hy
        exact hlen y hy
  · have e1 : w1.heap[w.heap.size]? = some box := (h1.block _ hwr).trans h.box
    have e2 : w2.heap[w.heap.size]? = some box := (hm.below.block _ (Nat.lt_of_lt_of_le hwr h1.size)).trans e1
    have l2 : w.heap.size < w2.heap.size := (Array.getElem?_eq_some_iff.1 e2).1
    refine (ho.block _ l2 ?_).trans e2
    cases hc : uni D D' w.heap.size with
    | none => rfl
    | some q => have := hlen w.heap.size (by rw [hc]; simp); omega

/-- Behind the last child. -/
theorem Kept.done {w wr : World} {nb : Nat} {D : Tab} {i : Info} {t : T} {box : Obj} (h : Kept w wr nb D i t box t.f4.length) (hnb : w.heap.size < nb) (hf : ¬ flat t) : Made w wr nb D t := by
  have hk : kidsT t = t.f4 := if_neg hf
  refine ⟨h.dom, IsT.mk nb t i h.node h.mt (by rw [hk]; exact h.len) ?_, fun i' hi' => ?_, fun x hx => Nat.le_trans (Nat.le_of_lt hnb) (h.fresh x hx), h.below⟩
  · intro k k1 k2
    have k3 : k < t.f4.length := by rw [hk] at k2; exact k2
    have e : (kidsT t)[k] = t.f4[k] := by simp only [hk]
    rw [e]
    exact (h.kids k k1 k3).mono (above_sub nb D)
  · rw [h.node] at hi'
    obtain rfl := Option.some.inj hi'
    exact h.root
end Go.Proofs.YtibfoaahdbdogaaDoor.Dom

/- impl.made: a tree's nodes, as a table. -/
namespace Go.Proofs.YtibfoaahdbdogaaDoor.Dom
open Go.RowKit Go.Proofs.YtibfoaahdbdogaaDoorW.PrintWords Go.Proofs.YtibfoaahdbdogaaDoorW.PrintLast Go.Proofs.YtibfoaahdbdogaaDoorW.PrintMore Go.Proofs.YtibfoaahdbdogaaDoor.PDom
set_option linter.unusedVariables false
set_option linter.unusedSimpArgs false

set_option maxHeartbeats 4000000 in
set_option maxRecDepth 100000 in
theorem made_calls : ∀ (n : Nat) (t : T), SizeOf.sizeOf t ≤ n → Fit t → ∀ (w : World) (A3 : Option Addr) (c3 : Nat) (A4 : Option Addr) (c4 : Nat), k31.C w A3 t.f3.length t.f3 → t.f3.length ≤ c3 → k25.C w A4 t.f4.length t.f4 → t.f4.length ≤ c4 →
    Calls Tryd.prog 18 #[.agg #[.int .i64 t.f0, .string t.f1, .string t.f2, .slice A3 t.f3.length c3, .slice A4 t.f4.length c4]] w fun e w' => ∃ b D, e = .returned (ptr (some b)) ∧ Made w w' b D t := by
  intro n
  induction n with
  | zero =>
    intro t h
    cases t
    simp at h
  | succ n ih =>
    intro t hsz hfit w A3 c3 A4 c4 h3 l3 h4 l4
    obtain ⟨f0, f1, f2, f3, f4⟩ := t
    simp only at h3 l3 h4 l4 ⊢
    have HSZ := Aside0.mk hsz
    have HFIT := Aside0.mk hfit
    have H3 := Aside0.mk h3
    have H4 := Aside0.mk h4
    have L3 := Aside0.mk l3
    have L4 := Aside0.mk l4
    have IH := Aside0.mk ih
    clear hsz hfit h3 h4 l3 l4 ih
    by_cases k1 : f0 = 1
    · subst k1
      go_enter Tryd.func18, Tryd.ntmps18
      go_wp2
      go_ret
      exact ⟨_, _, rfl, leaf w _ ⟨1, f1, f2, f3, f4⟩ 1 (.inl rfl) rfl⟩
    · by_cases k2 : f0 = 2
      · subst k2
        go_enter Tryd.func18, Tryd.ntmps18
        go_wp2
        go_ret
        exact ⟨_, _, rfl, leaf w _ ⟨2, f1, f2, f3, f4⟩ 4 (.inr rfl) rfl⟩
      · by_cases k0 : f0 = 0
        · subst k0
          go_enter Tryd.func18, Tryd.ntmps18
          have ht := atom_some f1
          generalize (atom_ZzAtom.f f1).getD 0 = at_ at ht
          have HT := Aside0.mk ht
          clear ht
          go_wp2_with fail
          generalize hw1 : w.alloc (Obj.cells #[Value.int IntKind.i64 0, Value.string f1, Value.string f2, Value.slice A3 f3.length c3, Value.slice A4 f4.length c4] 25) = w1
          have hb1 : w1.cell? ⟨w.heap.size, 1, none⟩ = some (.string f1) := by rw [← hw1]; simp
          go_cut [3] (fun v3 wx => ∃ m : Nat, v3 = .pointer (some ⟨w1.heap.size, 0, none⟩) ∧ wx = (w1.drewN m).alloc (Obj.cells (Rec.cells ⟨none, none, none, none, none, 3, at_, f1, .slice none 0 0⟩) 64))
          case first =>
            go_region_with (go_at_call 29; refine (atom_ZzAtom.calls f1 _ _ HT.out).mono ?_; rintro e w' ⟨rfl, ⟨nd, rfl⟩⟩)
            all_goals (go_wp2_with fail; go_meet; exact ⟨_, rfl, rfl⟩)
          case rest =>
            obtain ⟨m, rfl, rfl⟩ := hcut
            have hs1 : w1.heap.size = w.heap.size + 1 := by rw [← hw1]; show (w.heap.push _).size = _; rw [Array.size_push]
            rw [hs1]
            have hbx : ((w1.drewN m).alloc (Obj.cells (Rec.cells ⟨none, none, none, none, none, 3, at_, f1, .slice none 0 0⟩) 64)).heap[w.heap.size]? = some (.cells #[Value.int IntKind.i64 0, Value.string f1, Value.string f2, Value.slice A3 f3.length c3, Value.slice A4 f4.length c4] 25 (0, 0)) := by
              rw [heap_alloc_old (w1.drewN m) _ (show w.heap.size < w1.heap.size by omega)]
              show w1.heap[w.heap.size]? = _
              rw [← hw1]
              exact heap_alloc_new w _
            have hnd : Has ((w1.drewN m).alloc (Obj.cells (Rec.cells ⟨none, none, none, none, none, 3, at_, f1, .slice none 0 0⟩) 64)) (w.heap.size + 1) ⟨none, none, none, none, none, 3, at_, f1, .slice none 0 0⟩ := by
              rw [← hs1]
              exact heap_alloc_new (w1.drewN m) _
            have hbl : Below w.heap.size w ((w1.drewN m).alloc (Obj.cells (Rec.cells ⟨none, none, none, none, none, 3, at_, f1, .slice none 0 0⟩) 64)) := by
              rw [← hw1]
              exact below_alloc (pw_below_drewN (below_alloc (Below.refl _ _) _) m) _
            generalize (w1.drewN m).alloc (Obj.cells (Rec.cells ⟨none, none, none, none, none, 3, at_, f1, .slice none 0 0⟩) 64) = W at *
            have x3 : W.cell? ⟨w.heap.size, 3, none⟩ = some (Value.slice A3 f3.length c3) := by rw [blk_cell hbx]; rfl
            have HBX := Aside0.mk hbx
            have HND := Aside0.mk hnd
            have HBL := Aside0.mk hbl
            clear hbx hnd hbl hs1 hb1 hw1
            go_wp2_with fail
            go_loopw [24] (fun i wr => ∃ (j : Nat) (v : Value), i = .int .i64 j ∧ j ≤ f3.length ∧ Aside0 (wr.heap[w.heap.size]? = some (.cells #[Value.int IntKind.i64 0, Value.string f1, Value.string f2, Value.slice A3 f3.length c3, Value.slice A4 f4.length c4] 25 (0, 0))) ∧ Aside0 (Has wr (w.heap.size + 1) ⟨none, none, none, none, none, 3, at_, f1, v⟩) ∧ Aside0 (kA.R 66 wr w.heap.size (fun _ => True) v ((f3.map fun a => (a.f0, a.f1)).take j)) ∧ Aside0 (Below w.heap.size w wr)) (fun i _ => f3.length - (intOf i).toNat)
            case atStart => exact ⟨0, _, rfl, Nat.zero_le _, HBX, HND, ⟨Kd.R_nil kA _ _ _ _⟩, HBL⟩
            case round =>
              obtain ⟨j, v, rfl, hj, HX, HN, HA, HB⟩ := hrel
              by_cases hlt : j < f3.length
              · obtain ⟨ad, rfl, hx0, hx1⟩ := at_T31 (Kd.C_below H3.out HB.out) (j : Int) (by omega) (by omega)
                simp only [Int.toNat_natCast] at hx0 hx1
                have he : rd_T31 f3 (j : Int) = f3[j] := by simp [rd_T31, List.getD_eq_getElem?_getD, List.getElem?_eq_getElem hlt]
                have hsn : (f3.map fun a => (a.f0, a.f1)).take (j + 1) = (f3.map fun a => (a.f0, a.f1)).take j ++ [(f3[j].f0, f3[j].f1)] := by
                  rw [List.take_succ_eq_append_getElem (by rw [List.length_map]; exact hlt), List.getElem_map]
                rw [he] at hx0 hx1
                generalize f3[j] = q at hx0 hx1 hsn
                obtain ⟨q0, q1⟩ := q
                simp only at hx0 hx1 hsn
                have HSN := Aside0.mk hsn
                clear he hsn
                go_wp2_with fail
                have hcp : (wr.alloc (Obj.cells #[Value.string q0, Value.string q1] 31)).heap[wr.heap.size]? = some (.cells #[Value.string q0, Value.string q1] 31 (0, 0)) := heap_alloc_new wr _
                have HB8 := Aside0.mk (below_alloc (Below.refl wr.heap.size wr) (Obj.cells #[Value.string q0, Value.string q1] 31))
                generalize wr.alloc (Obj.cells #[Value.string q0, Value.string q1] 31) = w8 at *
                have HN8 := Aside0.mk (HN.out.of_heap (HB8.out.block _ HN.out.lt))
                have n9' : w8.cell? ⟨w.heap.size + 1, 9, none⟩ = some v := HN8.out.cell 9
                have e0 : w8.cell? ⟨wr.heap.size, 0, none⟩ = some (.string q0) := by rw [blk_cell hcp]; rfl
                have e1 : w8.cell? ⟨wr.heap.size, 1, none⟩ = some (.string q1) := by rw [blk_cell hcp]; rfl
                have HA8 := Aside0.mk (Kd.R_below HA.out HB8.out)
                have f9' := HN8.out.frozen 9
                have hlj : ((f3.map fun a => (a.f0, a.f1)).take j).length ≤ 4398046510976 := by
                  obtain ⟨_, ha, _, _⟩ := HFIT.out
                  rw [List.length_take, List.length_map]
                  simp only at ha
                  omega
                have hnew : (w8.alloc (Obj.cells #[.string ⟨#[]⟩, .string q0, .string q1] 66)).heap[w8.heap.size]? = some (.cells #[.string ⟨#[]⟩, .string q0, .string q1] 66 (0, 0)) := heap_alloc_new w8 _
                have HNEW := Aside0.mk hnew
                have HA9 := Aside0.mk (Kd.R_below HA8.out (below_alloc (Below.refl w8.heap.size w8) (Obj.cells #[.string ⟨#[]⟩, .string q0, .string q1] 66)))
                clear hnew
                have hsz8 : w.heap.size ≤ (w8.alloc (Obj.cells #[.string ⟨#[]⟩, .string q0, .string q1] 66)).drew.heap.size := by
                  show w.heap.size ≤ (w8.heap.push _).size
                  rw [Array.size_push]
                  have := HB.out.size
                  have := HB8.out.size
                  omega
                have HSZ8 := Aside0.mk hsz8
                have HX8 := Aside0.mk ((HB8.out.block _ (Array.getElem?_eq_some_iff.1 HX.out).1).trans HX.out)
                have HB88 := Aside0.mk (below_alloc (below_step HB.out HB8.out) (Obj.cells #[.string ⟨#[]⟩, .string q0, .string q1] 66))
                have HNE := Aside0.mk (Kd.R_ne HA8.out HN8.out (by decide))
                have HNE2 := Aside0.mk (Kd.R_ne HA8.out HX8.out (by decide))
                have HBS := Aside0.mk (Kd.R_base HA8.out)
                clear hsz8
                have HLEN := Aside0.mk (show ((f3.map fun a => (a.f0, a.f1)).take j ++ [(q0, q1)]).length = j + 1 by rw [List.length_append, List.length_singleton, List.length_take, List.length_map]; omega)
                have HWJ := Aside0.mk (wrap_succ j (by obtain ⟨_, ha, _, _⟩ := HFIT.out; simp only at ha; omega))
                have n9s : (w8.alloc (Obj.cells #[.string ⟨#[]⟩, .string q0, .string q1] 66)).cell? ⟨w.heap.size + 1, 9, none⟩ = some v := by
                  have h := (heap_alloc_old w8 (Obj.cells #[.string ⟨#[]⟩, .string q0, .string q1] 66) HN8.out.lt).trans HN8.out
                  exact Has.cell h 9
                go_region_law (refine attr_step rfl (.tmp 32) (.tmp 38) 62 (.agg #[.string ⟨#[]⟩, .string ⟨#[]⟩, .string ⟨#[]⟩]) rfl Tryd.underlying62 infoA rfl w.heap.size HSZ8.out v ((f3.map fun a => (a.f0, a.f1)).take j) q0 q1 w8.heap.size (by simp [Act.eval, Act.put]) (by simp [Act.eval, Act.put]) HNEW.out (by exact HA9.out) hlj ?_; intro v1 w9 ho hg; obtain ⟨A9, c9, hv9⟩ := Kd.R_slice ho; rw [HLEN.out] at hv9; subst hv9; have HN9 := Aside0.mk (kept hg HN8.out HNE.out); have HX9 := Aside0.mk (kept hg HX8.out HNE2.out); have HB9 := Aside0.mk (kept_below hg HB88.out HSZ8.out HBS.out); have HO9 := Aside0.mk (attr_round (Nat.lt_succ_self _) HX9.out HN9.out ho HB9.out); clear ho hg; have n9x : w9.cell? ⟨w.heap.size + 1, 9, none⟩ = some v := Has.cell HN9.out 9; have f9x := Has.frozen HN9.out 9)
                all_goals (simp only [Exit.inBlock, Exit.then]; go_wp2_with fail; go_roundw)
                all_goals first
                  | exact ⟨j + 1, _, by rw [HWJ.out], by omega, ⟨HO9.out.1⟩, ⟨HO9.out.2.1⟩, ⟨by rw [HSN.out]; exact HO9.out.2.2.1⟩, ⟨HO9.out.2.2.2⟩⟩
                  | (rw [HWJ.out]; simp [intOf]; omega)
                  | trace_state
              · have hje : j = f3.length := by omega
                subst hje
                have HK := Aside0.mk (Kept.start (t := ⟨0, f1, f2, f3, f4⟩) HN.out (Kd.R_lower HA.out (Nat.zero_le _)) ⟨rfl, (by show at_ = atomOf _; unfold atomOf; rw [if_pos rfl, HT.out]; rfl), rfl, (by show _ = attrsOf _; unfold attrsOf; rw [if_pos rfl, List.take_of_length_le (by rw [List.length_map]; exact Nat.le_refl _)])⟩ HX.out HB.out)
                have x4 : wr.cell? ⟨w.heap.size, 4, none⟩ = some (.slice A4 f4.length c4) := by rw [blk_cell HX.out]; rfl
                clear HX HN HA HB
                go_wp2_with fail
                go_loopw [58] (fun i wr => ∃ (j : Nat) (D : Tab) (i0 : Info), i = .int .i64 j ∧ j ≤ f4.length ∧ Aside0 (Kept w wr (w.heap.size + 1) D i0 ⟨0, f1, f2, f3, f4⟩ (.cells #[Value.int IntKind.i64 0, Value.string f1, Value.string f2, Value.slice A3 f3.length c3, Value.slice A4 f4.length c4] 25 (0, 0)) j)) (fun i _ => f4.length - (intOf i).toNat)
                case atStart => exact ⟨0, _, _, rfl, Nat.zero_le _, HK⟩
                case round =>
                  obtain ⟨j, D, i0, rfl, hj, HK⟩ := hrel
                  by_cases hlt : j < f4.length
                  · obtain ⟨ad, A5, c5, A6, c6, rfl, y0, y1, y2, y3, y4, m3, g3, m4, g4⟩ := at_T25 (Kd.C_below H4.out HK.out.below) (j : Int) (by omega) (by omega)
                    have he : rd_T25 f4 (j : Int) = f4[j] := by simp [rd_T25, List.getD_eq_getElem?_getD, List.getElem?_eq_getElem hlt]
                    rw [he] at y0 y1 y2 y3 y4 m3 g3 m4 g4
                    simp only [Int.toNat_natCast] at y0 y1 y2 y3 y4
                    have hq : f4[j] ∈ f4 := List.getElem_mem _
                    have hfq : Fit f4[j] := by obtain ⟨_, _, _, hk⟩ := HFIT.out; exact hk _ hq
                    have hsq : SizeOf.sizeOf f4[j] ≤ n := by have h1 := kid_lt (t := ⟨0, f1, f2, f3, f4⟩) hq; have h2 := HSZ.out; omega
                    have hget : f4[j] = (⟨0, f1, f2, f3, f4⟩ : T).f4[j] := rfl
                    generalize hqe : f4[j] = q at *
                    have HQE := Aside0.mk hqe
                    obtain ⟨q0, q1, q2, q3, q4⟩ := q
                    simp only at y0 y1 y2 y3 y4 m3 g3 m4 g4
                    have HFQ := Aside0.mk hfq
                    have HSQ := Aside0.mk hsq
                    have G3 := Aside0.mk g3
                    have G4 := Aside0.mk g4
                    have M3 := Aside0.mk m3
                    have M4 := Aside0.mk m4
                    have HWJ := Aside0.mk (wrap_succ j (by obtain ⟨_, _, ha, _⟩ := HFIT.out; simp only at ha; omega))
                    clear he hq hfq hsq hqe m3 g3 m4 g4 hget
                    go_wp2_with fail
                    have HB1 := Aside0.mk (below_alloc (Below.refl wr.heap.size wr) (Obj.cells #[Value.int IntKind.i64 q0, Value.string q1, Value.string q2, Value.slice A5 q3.length c5, Value.slice A6 q4.length c6] 25))
                    refine (IH.out ⟨q0, q1, q2, q3, q4⟩ HSQ.out HFQ.out _ A5 c5 A6 c6 (Kd.C_below G3.out HB1.out) M3.out (Kd.C_below G4.out HB1.out) M4.out).mono ?_
                    rintro e w2 ⟨b, D', rfl, hm⟩
                    have HM := Aside0.mk hm
                    clear hm
                    obtain ⟨ic, hic, hu, hun, hub, hne, hroot, hself, hd, hlt2⟩ := HK.out.ready HB1.out HM.out
                    have RD := Aside0.mk (append_calls w2 (uni D D') (w.heap.size + 1) b i0 ic hu hun hub hne hroot hself)
                    have RS := Aside0.mk (fun w3 => Kept.step (w3 := w3) HK.out (Nat.lt_succ_self _) hlt HB1.out (by rw [← HQE.out] at HM; exact HM.out) hic hd hlt2)
                    clear hic hu hun hub hne hroot hself hd hlt2
                    simp only [ptr] at RD
                    go_wp2_with fail
                    refine RD.out.mono ?_
                    rintro e w3 ⟨rfl, hdom, ho⟩
                    have HK3 := Aside0.mk (RS.out w3 hdom ho)
                    clear hdom ho
                    go_wp2_with fail
                    go_roundw
                    case rel => exact ⟨j + 1, _, _, by rw [HWJ.out], by omega, HK3⟩
                    case measure => rw [HWJ.out]; simp [intOf]; omega
                  · have hje : j = f4.length := by omega
                    subst hje
                    go_wp2_with fail
                    go_ret
                    exact ⟨_, _, rfl, HK.out.done (Nat.lt_succ_self _) (by unfold flat; simp only; omega)⟩
        · have b0 : (f0 == 0) = false := by simp [k0]
          have b1 : (f0 == 1) = false := by simp [k1]
          have b2 : (f0 == 2) = false := by simp [k2]
          have hbx := two_old w (Obj.cells #[Value.int IntKind.i64 f0, Value.string f1, Value.string f2, Value.slice A3 f3.length c3, Value.slice A4 f4.length c4] 25) (Obj.cells #[Value.pointer none, Value.pointer none, Value.pointer none, Value.pointer none, Value.pointer none, Value.int IntKind.u32 2, Value.int IntKind.u32 0, Value.string ⟨#[]⟩, Value.string ⟨#[]⟩, Value.slice none 0 0] 64)
          have hnd : Has ((w.alloc (Obj.cells #[Value.int IntKind.i64 f0, Value.string f1, Value.string f2, Value.slice A3 f3.length c3, Value.slice A4 f4.length c4] 25)).alloc (Obj.cells #[Value.pointer none, Value.pointer none, Value.pointer none, Value.pointer none, Value.pointer none, Value.int IntKind.u32 2, Value.int IntKind.u32 0, Value.string ⟨#[]⟩, Value.string ⟨#[]⟩, Value.slice none 0 0] 64)) (w.heap.size + 1) ⟨none, none, none, none, none, 2, 0, ⟨#[]⟩, .slice none 0 0⟩ := two_new w (Obj.cells #[Value.int IntKind.i64 f0, Value.string f1, Value.string f2, Value.slice A3 f3.length c3, Value.slice A4 f4.length c4] 25) (Obj.cells #[Value.pointer none, Value.pointer none, Value.pointer none, Value.pointer none, Value.pointer none, Value.int IntKind.u32 2, Value.int IntKind.u32 0, Value.string ⟨#[]⟩, Value.string ⟨#[]⟩, Value.slice none 0 0] 64)
          have hbl : Below w.heap.size w ((w.alloc (Obj.cells #[Value.int IntKind.i64 f0, Value.string f1, Value.string f2, Value.slice A3 f3.length c3, Value.slice A4 f4.length c4] 25)).alloc (Obj.cells #[Value.pointer none, Value.pointer none, Value.pointer none, Value.pointer none, Value.pointer none, Value.int IntKind.u32 2, Value.int IntKind.u32 0, Value.string ⟨#[]⟩, Value.string ⟨#[]⟩, Value.slice none 0 0] 64)) := below_alloc (below_alloc (Below.refl _ _) _) _
          have hfl : ¬ flat (⟨f0, f1, f2, f3, f4⟩ : T) := by unfold flat; simp only; omega
          have HK := Aside0.mk (Kept.start (t := ⟨f0, f1, f2, f3, f4⟩) hnd (Kd.R_nil kA _ _ _ _) ⟨(by show (2 : Int) = tyOf f0; unfold tyOf; rw [if_neg k0, if_neg k1, if_neg k2]), (by show (0 : Int) = atomOf _; unfold atomOf; rw [if_neg k0]), (by show _ = dataOf _; unfold dataOf; rw [if_neg k0, if_neg hfl]), (by show _ = attrsOf _; unfold attrsOf; rw [if_neg k0])⟩ hbx hbl)
          clear hbx hnd hbl hfl
          go_enter Tryd.func18, Tryd.ntmps18
          go_wp2_with fail
          go_loopw [58] (fun i wr => ∃ (j : Nat) (D : Tab) (i0 : Info), i = .int .i64 j ∧ j ≤ f4.length ∧ Aside0 (Kept w wr (w.heap.size + 1) D i0 ⟨f0, f1, f2, f3, f4⟩ (.cells #[Value.int IntKind.i64 f0, Value.string f1, Value.string f2, Value.slice A3 f3.length c3, Value.slice A4 f4.length c4] 25 (0, 0)) j)) (fun i _ => f4.length - (intOf i).toNat)
          case atStart => exact ⟨0, _, _, rfl, Nat.zero_le _, HK⟩
          case round =>
            obtain ⟨j, D, i0, rfl, hj, HK⟩ := hrel
            by_cases hlt : j < f4.length
            · obtain ⟨ad, A5, c5, A6, c6, rfl, y0, y1, y2, y3, y4, m3, g3, m4, g4⟩ := at_T25 (Kd.C_below H4.out HK.out.below) (j : Int) (by omega) (by omega)
              have he : rd_T25 f4 (j : Int) = f4[j] := by simp [rd_T25, List.getD_eq_getElem?_getD, List.getElem?_eq_getElem hlt]
              rw [he] at y0 y1 y2 y3 y4 m3 g3 m4 g4
              simp only [Int.toNat_natCast] at y0 y1 y2 y3 y4
              have hq : f4[j] ∈ f4 := List.getElem_mem _
              have hfq : Fit f4[j] := by obtain ⟨_, _, _, hk⟩ := HFIT.out; exact hk _ hq
              have hsq : SizeOf.sizeOf f4[j] ≤ n := by have h1 := kid_lt (t := ⟨f0, f1, f2, f3, f4⟩) hq; have h2 := HSZ.out; omega
              have hget : f4[j] = (⟨f0, f1, f2, f3, f4⟩ : T).f4[j] := rfl
              generalize hqe : f4[j] = q at *
              have HQE := Aside0.mk hqe
              obtain ⟨q0, q1, q2, q3, q4⟩ := q
              simp only at y0 y1 y2 y3 y4 m3 g3 m4 g4
              have HFQ := Aside0.mk hfq
              have HSQ := Aside0.mk hsq
              have G3 := Aside0.mk g3
              have G4 := Aside0.mk g4
              have M3 := Aside0.mk m3
              have M4 := Aside0.mk m4
              have HWJ := Aside0.mk (wrap_succ j (by obtain ⟨_, _, ha, _⟩ := HFIT.out; simp only at ha; omega))
              clear he hq hfq hsq hqe m3 g3 m4 g4 hget
              go_wp2_with fail
              have HB1 := Aside0.mk (below_alloc (Below.refl wr.heap.size wr) (Obj.cells #[Value.int IntKind.i64 q0, Value.string q1, Value.string q2, Value.slice A5 q3.length c5, Value.slice A6 q4.length c6] 25))
              refine (IH.out ⟨q0, q1, q2, q3, q4⟩ HSQ.out HFQ.out _ A5 c5 A6 c6 (Kd.C_below G3.out HB1.out) M3.out (Kd.C_below G4.out HB1.out) M4.out).mono ?_
              rintro e w2 ⟨b, D', rfl, hm⟩
              have HM := Aside0.mk hm
              clear hm
              obtain ⟨ic, hic, hu, hun, hub, hne, hroot, hself, hd, hlt2⟩ := HK.out.ready HB1.out HM.out
              have RD := Aside0.mk (append_calls w2 (uni D D') (w.heap.size + 1) b i0 ic hu hun hub hne hroot hself)
              have RS := Aside0.mk (fun w3 => Kept.step (w3 := w3) HK.out (Nat.lt_succ_self _) hlt HB1.out (by rw [← HQE.out] at HM; exact HM.out) hic hd hlt2)
              clear hic hu hun hub hne hroot hself hd hlt2
              simp only [ptr] at RD
              go_wp2_with fail
              refine RD.out.mono ?_
              rintro e w3 ⟨rfl, hdom, ho⟩
              have HK3 := Aside0.mk (RS.out w3 hdom ho)
              clear hdom ho
              go_wp2_with fail
              go_roundw
              case rel => exact ⟨j + 1, _, _, by rw [HWJ.out], by omega, HK3⟩
              case measure => rw [HWJ.out]; simp [intOf]; omega
            · have hje : j = f4.length := by omega
              subst hje
              go_wp2_with fail
              go_ret
              exact ⟨_, _, rfl, HK.out.done (Nat.lt_succ_self _) (by unfold flat; simp only; omega)⟩
end Go.Proofs.YtibfoaahdbdogaaDoor.Dom

/- dom.NodeName of a node of a table. -/
namespace Go.Proofs.YtibfoaahdbdogaaDoor.Dom
open Go.RowKit Go.Proofs.YtibfoaahdbdogaaDoorW.PrintWords Go.Proofs.YtibfoaahdbdogaaDoorW.PrintLast Go.Proofs.YtibfoaahdbdogaaDoorW.PrintMore Go.Proofs.YtibfoaahdbdogaaDoor.PDom
set_option linter.unusedVariables false
set_option linter.unusedSimpArgs false

abbrev docName : ByteArray := ⟨#[35, 100, 111, 99, 117, 109, 101, 110, 116]⟩
abbrev textName : ByteArray := ⟨#[35, 116, 101, 120, 116]⟩
abbrev commentName : ByteArray := ⟨#[35, 99, 111, 109, 109, 101, 110, 116]⟩
abbrev errorName : ByteArray := ⟨#[35, 101, 114, 114, 111, 114]⟩
def nameOf (i : Info) : ByteArray := if i.ty = 0 then errorName else if i.ty = 1 then textName else if i.ty = 2 then docName else if i.ty = 4 then commentName else if i.ty = 5 then i.data else if i.ty = 3 then i.data else ⟨#[]⟩
theorem node_calls (w : World) (D : Tab) (b : Nat) (i : Info) (h : Dom w D) (hb : D b = some i) :
    Calls Tryd.prog 31 #[ptr (some b)] w fun e w' => e = .returned (.string (nameOf i)) ∧ w' = w := by
  obtain ⟨v, hH, _⟩ := h.has hb
  have c5 : w.cell? ⟨b, 5, none⟩ = some (.int .u32 i.ty) := hH.cell 5
  have c7 : w.cell? ⟨b, 7, none⟩ = some (.string i.data) := hH.cell 7
  unfold nameOf ptr
  clear hH h hb
  generalize i.data = d at *
  generalize i.ty = y at *
  by_cases h0 : y = 0
  · subst h0
    go_enter Tryd.func31, Tryd.ntmps31
    go_wp2; go_ret; exact ⟨rfl, rfl⟩
  · by_cases h1 : y = 1
    · subst h1
      go_enter Tryd.func31, Tryd.ntmps31
      go_wp2; go_ret; exact ⟨rfl, rfl⟩
    · by_cases h2 : y = 2
      · subst h2
        go_enter Tryd.func31, Tryd.ntmps31
        go_wp2; go_ret; exact ⟨rfl, rfl⟩
      · by_cases h4 : y = 4
        · subst h4
          go_enter Tryd.func31, Tryd.ntmps31
          go_wp2; go_ret; exact ⟨rfl, rfl⟩
        · by_cases h5 : y = 5
          · subst h5
            go_enter Tryd.func31, Tryd.ntmps31
            go_wp2; go_ret; exact ⟨rfl, rfl⟩
          · by_cases h3 : y = 3
            · subst h3
              go_enter Tryd.func31, Tryd.ntmps31
              go_wp2; go_ret; exact ⟨rfl, rfl⟩
            · have b0 : (y == 0) = false := by simp [h0]
              have b1 : (y == 1) = false := by simp [h1]
              have b2 : (y == 2) = false := by simp [h2]
              have b3 : (y == 3) = false := by simp [h3]
              have b4 : (y == 4) = false := by simp [h4]
              have b5 : (y == 5) = false := by simp [h5]
              rw [if_neg h0, if_neg h1, if_neg h2, if_neg h4, if_neg h5, if_neg h3]
              go_enter Tryd.func31, Tryd.ntmps31
              go_wp2; go_ret; exact ⟨rfl, rfl⟩
end Go.Proofs.YtibfoaahdbdogaaDoor.Dom

/- Trees of nodes, each with its block: what a table holds of one, its nodes in order, their places. Plain facts on tables. -/
namespace Go.Proofs.YtibfoaahdbdogaaDoor.Dom
open Go.RowKit Go.Proofs.YtibfoaahdbdogaaDoorW.PrintWords Go.Proofs.YtibfoaahdbdogaaDoorW.PrintLast Go.Proofs.YtibfoaahdbdogaaDoorW.PrintMore Go.Proofs.YtibfoaahdbdogaaDoor.PDom
set_option linter.unusedVariables false
set_option linter.unusedSimpArgs false

inductive RT where
  | node (id : Nat) (ty atom : Int) (data : ByteArray) (attrs : List (ByteArray × ByteArray)) (kids : List RT) : RT
namespace RT
def id : RT → Nat | node i _ _ _ _ _ => i
def ty : RT → Int | node _ t _ _ _ _ => t
def atom : RT → Int | node _ _ a _ _ _ => a
def data : RT → ByteArray | node _ _ _ d _ _ => d
def attrs : RT → List (ByteArray × ByteArray) | node _ _ _ _ a _ => a
def kids : RT → List RT | node _ _ _ _ _ k => k
def info (p : Option Nat) : RT → Info | node _ t a d at_ ks => ⟨p, ks.map RT.id, t, a, d, at_⟩
theorem induct {P : RT → Prop} (h : ∀ i t a d at_ ks, (∀ k ∈ ks, P k) → P (node i t a d at_ ks)) : ∀ r, P r := by
  intro r
  refine RT.rec (motive_1 := P) (motive_2 := fun l => ∀ k ∈ l, P k) ?_ ?_ ?_ r
  · intro i t a d at_ ks ih
    exact h i t a d at_ ks ih
  · intro k hk
    cases hk
  · intro x l hx hl k hk
    rcases List.mem_cons.1 hk with rfl | hk
    · exact hx
    · exact hl k hk
mutual
/-- The nodes of a tree, each ahead of those in it. -/
def pre : RT → List Nat
  | node i _ _ _ _ ks => i :: preL ks
def preL : List RT → List Nat
  | [] => []
  | k :: ks => pre k ++ preL ks
end
mutual
/-- The places of these. -/
def paths (p : List Int) : RT → List (List Int)
  | node _ _ _ _ _ ks => p :: pathsL p 0 ks
def pathsL (p : List Int) (j : Nat) : List RT → List (List Int)
  | [] => []
  | k :: ks => paths (p ++ [(j : Int)]) k ++ pathsL p (j + 1) ks
end
theorem preL_append (l m : List RT) : preL (l ++ m) = preL l ++ preL m := by
  induction l with
  | nil => rfl
  | cons k l ih => simp [preL, ih]
end RT

/-- The table holds the tree; its root's parent is told besides. -/
inductive Is (D : Tab) : Option Nat → RT → Prop
  | mk (p : Option Nat) (i : Nat) (t a : Int) (d : ByteArray) (at_ : List (ByteArray × ByteArray)) (ks : List RT) (h : D i = some ⟨p, ks.map RT.id, t, a, d, at_⟩) (hk : ∀ k ∈ ks, Is D (some i) k) : Is D p (.node i t a d at_ ks)
theorem Is.root {D : Tab} {p : Option Nat} {r : RT} (h : Is D p r) : D r.id = some (r.info p) := by
  cases h with
  | mk _ _ _ _ _ _ _ h _ => exact h
theorem Is.kid {D : Tab} {p : Option Nat} {r k : RT} (h : Is D p r) (hk : k ∈ r.kids) : Is D (some r.id) k := by
  cases h with
  | mk _ _ _ _ _ _ _ _ h => exact h k hk
/-- The tree as plain data. -/
inductive TellsT : T → RT → Prop
  | mk (t : T) (i : Nat) (a : Int) (ks : List RT) (ha : a = atomOf t) (hl : (kidsT t).length = ks.length) (hk : ∀ j (h1 : j < (kidsT t).length) (h2 : j < ks.length), TellsT (kidsT t)[j] ks[j]) : TellsT t (.node i (tyOf t.f0) a (dataOf t) (attrsOf t) ks)
theorem list_choose {α : Type} {n : Nat} {P : Nat → α → Prop} (h : ∀ j, j < n → ∃ a, P j a) : ∃ l : List α, l.length = n ∧ ∀ j (hj : j < l.length), P j l[j] := by
  induction n with
  | zero => exact ⟨[], rfl, fun j hj => absurd hj (Nat.not_lt_zero _)⟩
  | succ n ih =>
    obtain ⟨l, hl, hp⟩ := ih (fun j hj => h j (by omega))
    obtain ⟨a, ha⟩ := h n (by omega)
    refine ⟨l ++ [a], by simp [hl], fun j hj => ?_⟩
    by_cases hjn : j < l.length
    · rw [List.getElem_append_left hjn]
      exact hp j hjn
    · have : j = n := by simp at hj; omega
      subst this
      rw [List.getElem_append_right (by omega)]
      simpa [hl] using ha
theorem IsT.rt {D : Tab} (wf : WF D) {b : Nat} {t : T} (h : IsT D b t) : ∀ i, D b = some i → ∃ r : RT, r.id = b ∧ Is D i.parent r ∧ TellsT t r := by
  induction h with
  | mk b t i h hm hl hk ih =>
    intro i' hi'
    rw [h] at hi'
    obtain rfl := Option.some.inj hi'
    have key : ∀ j, j < i.kids.length → ∃ r : RT, ∃ (h1 : j < i.kids.length) (h2 : j < (kidsT t).length), r.id = i.kids[j] ∧ Is D (some b) r ∧ TellsT (kidsT t)[j] r := by
      intro j hj
      have h2 : j < (kidsT t).length := by omega
      obtain ⟨ic, hic, hp⟩ := wf.down h (List.getElem_mem hj)
      obtain ⟨r, h3, h4, h5⟩ := ih j hj h2 ic hic
      rw [hp] at h4
      exact ⟨r, hj, h2, h3, h4, h5⟩
    obtain ⟨ks, hks, hkp⟩ := list_choose key
    have hids : ks.map RT.id = i.kids := by
      apply List.ext_getElem (by simp [hks])
      intro j h1 h2
      obtain ⟨_, _, h3, _⟩ := hkp j (by simpa using h1)
      simpa using h3
    refine ⟨.node b i.ty i.atom i.data i.attrs ks, rfl, ?_, ?_⟩
    · refine Is.mk _ _ _ _ _ _ _ ?_ ?_
      · rw [h, hids]
      · intro k hk'
        obtain ⟨j, hj, rfl⟩ := List.getElem_of_mem hk'
        obtain ⟨_, _, _, h4, _⟩ := hkp j hj
        exact h4
    · rw [hm.ty, hm.data, hm.attrs]
      refine TellsT.mk t b i.atom ks hm.atom (by omega) ?_
      intro j h1 h2
      obtain ⟨_, _, _, _, h5⟩ := hkp j h2
      exact h5

/-! ### Places -/
inductive All2 {α β : Type} (R : α → β → Prop) : List α → List β → Prop
  | nil : All2 R [] []
  | cons {a b l m} (h : R a b) (t : All2 R l m) : All2 R (a :: l) (b :: m)
theorem All2.append {α β : Type} {R : α → β → Prop} {l l' : List α} {m m' : List β} (h : All2 R l m) (h' : All2 R l' m') : All2 R (l ++ l') (m ++ m') := by
  induction h with
  | nil => exact h'
  | cons h _ ih => exact .cons h ih
theorem All2.length {α β : Type} {R : α → β → Prop} {l : List α} {m : List β} (h : All2 R l m) : l.length = m.length := by
  induction h with
  | nil => rfl
  | cons _ _ ih => simp [ih]
theorem All2.imp {α β : Type} {R S : α → β → Prop} {l : List α} {m : List β} (h : All2 R l m) (hs : ∀ a ∈ l, ∀ b, R a b → S a b) : All2 S l m := by
  induction h with
  | nil => exact .nil
  | cons h _ ih => exact .cons (hs _ List.mem_cons_self _ h) (ih fun a ha b => hs a (List.mem_cons_of_mem _ ha) b)
theorem All2.get {α β : Type} {R : α → β → Prop} {l : List α} {m : List β} (h : All2 R l m) : ∀ j (h1 : j < l.length) (h2 : j < m.length), R l[j] m[j] := by
  induction h with
  | nil => intro j h1; exact absurd h1 (Nat.not_lt_zero _)
  | cons h _ ih =>
    intro j h1 h2
    cases j with
    | zero => exact h
    | succ j => exact ih j (by simpa using h1) (by simpa using h2)
/-- The node x stands at a place below the root. -/
inductive PathTo (D : Tab) (root : Nat) : Nat → List Int → Prop
  | root (i : Info) (h : D root = some i) (hp : i.parent = none) : PathTo D root root []
  | kid (p x j : Nat) (path : List Int) (ip ix : Info) (h : PathTo D root p path) (hp : D p = some ip) (hj : ip.kids[j]? = some x) (hx : D x = some ix) (hxp : ix.parent = some p) : PathTo D root x (path ++ [(j : Int)])
theorem Is.paths {D : Tab} {root : Nat} (r : RT) : ∀ (p : Option Nat) (path : List Int), Is D p r → PathTo D root r.id path → All2 (PathTo D root) r.pre (r.paths path) := by
  induction r using RT.induct with
  | h i t a d at_ ks ih =>
    intro p path h hp
    have hD : D i = some ⟨p, ks.map RT.id, t, a, d, at_⟩ := h.root
    show All2 _ (i :: RT.preL ks) (path :: RT.pathsL path 0 ks)
    refine .cons hp ?_
    have key : ∀ (l done : List RT), ks = done ++ l → All2 (PathTo D root) (RT.preL l) (RT.pathsL path done.length l) := by
      intro l
      induction l with
      | nil => exact fun _ _ => .nil
      | cons k l ihl =>
        intro done e
        have hk : k ∈ ks := by rw [e]; simp
        have hik := h.kid (k := k) hk
        have hpk : PathTo D root k.id (path ++ [(done.length : Int)]) := PathTo.kid i k.id done.length path _ _ hp hD (by simp [e]) hik.root (by cases k; rfl)
        have h2 := ihl (done ++ [k]) (by simp [e])
        rw [List.length_append, List.length_singleton] at h2
        exact (ih k hk (some i) _ hik hpk).append h2
    exact key ks [] rfl
end Go.Proofs.YtibfoaahdbdogaaDoor.Dom

/- impl.pathOf of a node of a table: the indices on the way from the root. -/
namespace Go.Proofs.YtibfoaahdbdogaaDoor.Dom
open Go.RowKit Go.Proofs.YtibfoaahdbdogaaDoorW.PrintWords Go.Proofs.YtibfoaahdbdogaaDoorW.PrintLast Go.Proofs.YtibfoaahdbdogaaDoorW.PrintMore Go.Proofs.YtibfoaahdbdogaaDoor.PDom
set_option linter.unusedVariables false
set_option linter.unusedSimpArgs false

theorem take_last {l : List Nat} {m : Nat} (h : m < l.length) : (l.take (m + 1)).getLast? = some l[m] := by
  rw [List.take_succ_eq_append_getElem h, List.getLast?_append]
  rfl
/-- The sibling ahead of the m-th child. -/
theorem prev_at {l : List Nat} (hnd : l.Nodup) {m : Nat} (h : m < l.length) : prevIn l l[m] = (l.take m).getLast? := by
  have e : l = l.take m ++ l[m] :: l.drop (m + 1) := by
    rw [← List.drop_eq_getElem_cons h, List.take_append_drop]
  have hnd2 : (l.take m ++ l[m] :: l.drop (m + 1)).Nodup := by rw [← e]; exact hnd
  have h2 := (nodup_split hnd2).2.1
  have h3 := prevIn_split (l1 := l.take m) (l2 := l.drop (m + 1)) (b := l[m]) h2
  rw [← e] at h3
  exact h3
theorem next_at {l : List Nat} (hnd : l.Nodup) {m : Nat} (h : m < l.length) : nextIn l l[m] = l[m + 1]? := by
  have e : l = l.take m ++ l[m] :: l.drop (m + 1) := by
    rw [← List.drop_eq_getElem_cons h, List.take_append_drop]
  have hnd2 : (l.take m ++ l[m] :: l.drop (m + 1)).Nodup := by rw [← e]; exact hnd
  have h3 := nextIn_split (l1 := l.take m) (l2 := l.drop (m + 1)) (b := l[m]) (nodup_split hnd2).1
  rw [← e] at h3
  rw [h3]
  simp [List.head?_drop]
/-- What a child's block tells of its place. -/
theorem kid_cells {w : World} {D : Tab} (h : Dom w D) {p : Nat} {ip : Info} (hp : D p = some ip) {m : Nat} (hm : m < ip.kids.length) :
    w.cell? ⟨ip.kids[m], 0, none⟩ = some (ptr (some p)) ∧ w.cell? ⟨ip.kids[m], 3, none⟩ = some (ptr (ip.kids.take m).getLast?) ∧ w.cell? ⟨ip.kids[m], 4, none⟩ = some (ptr ip.kids[m + 1]?) := by
  obtain ⟨ix, hx, hxp⟩ := h.wf.down hp (List.getElem_mem hm)
  obtain ⟨v, hv, _⟩ := h.has hx
  refine ⟨?_, ?_, ?_⟩
  · rw [hv.cells10.1]
    show some (ptr ix.parent) = _
    rw [hxp]
  · rw [hv.cells10.2.2.2.1]
    show some (ptr (prevIn (sibs D ix) ip.kids[m])) = _
    rw [sibs_some hxp, kidsOf_some hp, prev_at (h.wf.nodup hp) hm]
  · rw [hv.cells10.2.2.2.2.1]
    show some (ptr (nextIn (sibs D ix) ip.kids[m])) = _
    rw [sibs_some hxp, kidsOf_some hp, next_at (h.wf.nodup hp) hm]

theorem info3 : (Tryd.prog.info? 3).map (fun i => (i.zero, i.size, i.bytes)) = some (some (.int .i64 0), 1, 8) := by kernel_rfl
/-- A row of one number, newly made. -/
theorem one_row (W : World) (k : Int) : (Kd.int .i64).R 3 (W.alloc (.cells #[.int .i64 k] 3)) W.heap.size (fun _ => True) (.slice (some ⟨W.heap.size, 0, none⟩) 1 1) [k] := by
  refine ⟨fun _ _ => trivial, nums .i64 [k], ?_, ?_⟩
  · exact own_lit W W.heap.size 3 .i64 [k] (Nat.le_refl _) (by simp)
  · refine ⟨rfl, fun j p hp => ?_⟩
    cases j with
    | zero => obtain rfl : k = p := by simpa using hp
              rfl
    | succ j => simp at hp
/-- The inner loop and the outer one. -/
theorem path_calls (w : World) (D : Tab) (root x : Nat) (path : List Int) (h : Dom w D) (hp : PathTo D root x path) (hl : path.length ≤ 4398046510976) (hk : ∀ x ∈ path, x ≤ 4398046510976) :
    Calls Tryd.prog 33 #[ptr (some x)] w fun e w' => ∃ v, e = .returned v ∧ (Kd.int .i64).R 3 w' w.heap.size (fun _ => True) v path ∧ Below w.heap.size w w' := by
  unfold ptr
  have H := Aside0.mk h
  have HP := Aside0.mk hp
  have HKL := Aside0.mk hk
  have HL := Aside0.mk hl
  clear h hp hk hl
  go_enter Tryd.func33, Tryd.ntmps33
  go_wp2_with fail
  go_loopw [3, 4] (fun vo vx wr => ∃ (y : Nat) (pre suf : List Int) (A : Option Addr) (c : Nat), vx = .pointer (some ⟨y, 0, none⟩) ∧ vo = .slice A suf.length c ∧ Aside0 (PathTo D root y pre) ∧ Aside0 (path = pre ++ suf) ∧ Aside0 ((Kd.int .i64).R 3 wr w.heap.size (fun _ => True) (.slice A suf.length c) suf) ∧ Aside0 (Below w.heap.size w wr)) (fun vo _ _ => path.length - (match vo with | .slice _ n _ => n | _ => 0))
  case atStart => exact ⟨x, path, [], some ⟨w.heap.size, 0, none⟩, 0, rfl, rfl, HP, ⟨by simp⟩, ⟨by
    refine ⟨fun _ _ => trivial, [], ?_, Reps.none _ _⟩
    have := own_lit w w.heap.size 3 .i64 [] (Nat.le_refl _) (by simp)
    exact this⟩, ⟨below_alloc (Below.refl _ _) _⟩⟩
  case round =>
    obtain ⟨y, pre, suf, A, c, rfl, rfl, HY, HE, HO, HB⟩ := hrel
    have HD := Aside0.mk (H.out.below HB.out)
    cases HY.out with
    | root i hi hpn =>
      obtain ⟨v, hv, _⟩ := HD.out.has hi
      have c0 : wr.cell? ⟨root, 0, none⟩ = some (.pointer none) := by rw [hv.cells10.1]; show some (ptr i.parent) = _; rw [hpn]; rfl
      clear hv hi hpn
      go_wp2_with fail
      go_ret
      refine ⟨_, rfl, ?_, HB.out⟩
      rw [HE.out]
      exact HO.out
    | kid p _ j path2 ip ix hq hip hj hix hxp =>
      have hjl : j < ip.kids.length := (List.getElem?_eq_some_iff.1 hj).1
      have hy : ip.kids[j] = y := (List.getElem?_eq_some_iff.1 hj).2
      have hnl : (j : Int) ≤ 4398046510976 := HKL.out _ (by rw [HE.out]; simp)
      have HC := Aside0.mk (fun m (hm : m < ip.kids.length) => kid_cells HD.out hip hm)
      obtain ⟨c0, c3, _⟩ := HC.out j hjl
      rw [hy] at c0 c3
      simp only [ptr] at c0
      have HQ := Aside0.mk hq
      have HY1 := Aside0.mk (fun w1 (hb : Below w.heap.size w w1) => show w1.cell? ⟨y, 0, none⟩ = some (.pointer (some ⟨p, 0, none⟩)) by
        have h1 := (kid_cells (H.out.below hb) hip hjl).1
        rw [hy] at h1
        exact h1)
      generalize hpl : ip.kids = l at *
      clear hpl
      clear hq hip hj hix hxp hy
      go_wp2_with fail
      go_loop [5, 6] (fun vk vc => ∃ m : Nat, m ≤ j ∧ vk = .int .i64 ((j - m : Nat) : Int) ∧ vc = ptr (l.take m).getLast?) (fun vk _ => j - (intOf vk).toNat)
      case atStart => exact ⟨j, Nat.le_refl _, by simp, rfl⟩
      case round =>
        obtain ⟨m, hm, rfl, rfl⟩ := hrel
        cases m with
        | zero =>
          simp only [List.take_zero, List.getLast?_nil, ptr, Nat.sub_zero]
          have HOA := Aside0.mk (one_row wr j)
          have HBS := HB.out.size
          have hszA : w.heap.size ≤ (wr.alloc (Obj.cells #[.int .i64 (j : Int)] 3)).heap.size := by show _ ≤ (wr.heap.push _).size; rw [Array.size_push]; omega
          have hlA : ([(j : Int)].length + suf.length) * 8 ≤ 140737488355328 := by have h1 := HL.out; rw [HE.out] at h1; simp at h1 ⊢; omega
          have HO2 := Aside0.mk (Kd.R_reads' HO.out)
          go_wp2_with ((with_reducible refine gate_builtin (b := .append) (xs := #[.tmp 31, .tmp 32]) rfl ?_); at_builtin; go_must (refine Kd.R_append_row (Value.int .i64) 0 (h1 := fun _ => rfl) (w0 := w) w.heap.size rfl (.tmp 31) (.tmp 32) 70 3 (.int .i64 0) 8 rfl Tryd.underlying70 info3 rfl (by omega) (.slice (some ⟨wr.heap.size, 0, none⟩) 1 1) [(j : Int)] suf A suf.length c (fun _ => True) rfl rfl (fun _ _ => trivial) (Kd.R_lower HOA.out HBS) (Kd.C_alloc HO2.out.2.2 _) (below_alloc HB.out _) ?aS ?aL ?_); (case aS => exact hszA); (case aL => exact hlA); intro v1 w1 ho hb hg _; obtain ⟨A1, c1, hv1, hc1, hC1⟩ := Kd.R_reads ho; subst hv1; have HO1 := Aside0.mk ho; have HB1 := Aside0.mk hb; have c01 : w1.cell? ⟨y, 0, none⟩ = some (.pointer (some ⟨p, 0, none⟩)) := HY1.out w1 hb; clear ho hb hg hc1 hC1)
          go_roundw
          case rel => exact ⟨p, path2, (j : Int) :: suf, A1, c1, rfl, rfl, HQ, ⟨by rw [HE.out]; simp⟩, HO1, HB1⟩
          case measure => have := HE.out; rw [this]; simp; omega
        | succ m =>
          rw [take_last (by omega)]
          simp only [ptr]
          obtain ⟨_, d3, _⟩ := HC.out m (by omega)
          simp only [ptr] at d3
          generalize l[m] = s at *
          generalize hgl : (l.take m).getLast? = gl at *
          have hsucc : ((j - (m + 1) : Nat) : Int) + 1 = ((j - m : Nat) : Int) := by omega
          have HS := Aside0.mk hsucc
          clear hsucc
          have HGL := Aside0.mk hgl
          clear hgl
          cases gl
          all_goals
            go_wp2_with fail
            go_round
            case rel => exact ⟨m, by omega, by rw [HS.out], by rw [HGL.out]⟩
            case measure => simp [intOf]; omega
end Go.Proofs.YtibfoaahdbdogaaDoor.Dom

/- dom.AllNodes: the nodes of a tree, in order. -/
namespace Go.Proofs.YtibfoaahdbdogaaDoor.Dom
open Go.RowKit Go.Proofs.YtibfoaahdbdogaaDoorW.PrintWords Go.Proofs.YtibfoaahdbdogaaDoorW.PrintLast Go.Proofs.YtibfoaahdbdogaaDoorW.PrintMore Go.Proofs.YtibfoaahdbdogaaDoor.PDom
set_option linter.unusedVariables false
set_option linter.unusedSimpArgs false

theorem ptr_some (x : Nat) : ptr (some x) = .pointer (some ⟨x, 0, none⟩) := rfl
theorem ptr_none : ptr none = .pointer none := rfl
/-- A pointer to a node. -/
abbrev kP : Kd Nat := Kd.scalar (fun b => ptr (some b)) (fun _ => rfl)
theorem infoP : (Tryd.prog.info? 40).map (fun i => (i.zero, i.size, i.bytes)) = some (some (.pointer none), 1, 8) := by kernel_rfl
/-- What a node's block tells of its first child; what a child's block tells of the next one. -/
theorem Is.first {w : World} {D : Tab} (h : Dom w D) {p : Option Nat} {r : RT} (hr : Is D p r) : w.cell? ⟨r.id, 1, none⟩ = some (ptr (r.kids[0]?.map RT.id)) := by
  obtain ⟨v, hv, _⟩ := h.has hr.root
  rw [hv.cells10.2.1]
  show some (ptr ((r.info p).kids.head?)) = _
  cases r with
  | node i t a d at_ ks =>
    show some (ptr ((ks.map RT.id).head?)) = some (ptr (ks[0]?.map RT.id))
    cases ks <;> rfl
theorem Is.next {w : World} {D : Tab} (h : Dom w D) {p : Option Nat} {r : RT} (hr : Is D p r) {j : Nat} (hj : j < r.kids.length) : w.cell? ⟨r.kids[j].id, 4, none⟩ = some (ptr (r.kids[j + 1]?.map RT.id)) := by
  have hi := hr.root
  have hk : (r.info p).kids = r.kids.map RT.id := by cases r; rfl
  have hl : j < (r.info p).kids.length := by rw [hk, List.length_map]; exact hj
  have h1 := (kid_cells h hi hl).2.2
  simpa only [hk, List.getElem_map, List.getElem?_map] using h1
def funcAll (g f : Nat) : Value := .func (Fn.func 37) #[] #[.pointer (some ⟨g, 0, none⟩), .pointer (some ⟨f, 0, none⟩)]
/-- What the finder keeps: the row of nodes so far in the box g, itself in the box f; below these all is as it was. -/
structure AllI (w0 : World) (g f : Nat) (w : World) (acc : List Nat) : Prop where
  row : ∃ v, w.heap[g]? = some (.cells #[v] 68 (0, 0)) ∧ kP.R 40 w w0.heap.size (fun _ => True) v acc
  fn : w.heap[f]? = some (.cells #[funcAll g f] 67 (0, 0))
  below : Below w0.heap.size w0 w
theorem AllI.push {w0 w w1 : World} {g f i : Nat} {v v1 : Value} {acc : List Nat} (hgb : w0.heap.size ≤ g) (hv : w.heap[g]? = some (.cells #[v] 68 (0, 0))) (hr : kP.R 40 w w0.heap.size (fun _ => True) v acc)
    (hf : w.heap[f]? = some (.cells #[funcAll g f] 67 (0, 0))) (h1 : kP.R 40 w1 w0.heap.size (fun _ => True) v1 (acc ++ [i])) (hb : Below w0.heap.size w0 w1) (hg : w.grownBy w1 v.ownBlock) :
    w1.heap[g]? = some (.cells #[v] 68 (0, 0)) ∧ AllI w0 g f (w1.setCell ⟨g, 0, none⟩ v1) (acc ++ [i]) := by
  have hg1 := blk_grown hv hg (Kd.R_ne hr hv (by decide))
  have hf1 := blk_grown hf hg (Kd.R_ne hr hf (by decide))
  refine ⟨hg1, ⟨v1, blk_set hg1 0 v1, ?_⟩, ?_, ?_⟩
  · exact Kd.R_set h1 hg1 (fun q hq => by
      have : q = 40 := by simpa [kP, Kd.scalar] using hq
      rw [this]
      decide) 0 v1
  · refine blk_far hf1 (p := ⟨g, 0, none⟩) ?_ v1
    exact blk_ne hf1 hg1 (by decide)
  · exact hb.setCell (p := ⟨g, 0, none⟩) hgb v1
set_option maxHeartbeats 4000000 in
set_option maxRecDepth 100000 in
theorem finder_calls (w0 : World) (D : Tab) (hdom : Dom w0 D) (g f bound : Nat) (hbd : bound ≤ 4398046510976) (hgb : w0.heap.size ≤ g) (r : RT) : ∀ (p : Option Nat) (hr : Is D p r) (w : World) (acc : List Nat) (h : AllI w0 g f w acc) (hl : acc.length + r.pre.length ≤ bound),
    Calls Tryd.prog 37 #[ptr (some r.id), .pointer (some ⟨g, 0, none⟩), .pointer (some ⟨f, 0, none⟩)] w fun e w' => e = .returned (.tuple #[]) ∧ AllI w0 g f w' (acc ++ r.pre) := by
  induction r using RT.induct with
  | h i t a d at_ ks ih =>
    intro p hr w acc h hl
    have IH := Aside0.mk ih
    clear ih
    obtain ⟨v, hv, ho⟩ := h.row
    have HR := Aside0.mk hr
    have HD := Aside0.mk hdom
    have HO := Aside0.mk ho
    have HL := Aside0.mk hl
    have HV := Aside0.mk hv
    have HF := Aside0.mk h.fn
    have HB := Aside0.mk h.below
    have hszw := h.below.size
    have cg : w.cell? ⟨g, 0, none⟩ = some v := by rw [blk_cell hv]; rfl
    have hla : (acc.length + 1) * 8 ≤ 140737488355328 := by
      have : 0 < (RT.node i t a d at_ ks).pre.length := by simp [RT.pre]
      omega
    clear hr hdom ho hl hv h
    show Calls _ _ #[ptr (some i), _, _] _ _
    unfold ptr
    go_enter Tryd.func37, Tryd.ntmps37
    go_wp2_with ((with_reducible refine gate_builtin (b := .append) (xs := #[.tmp 5, .tmp 7]) rfl ?_); at_builtin; go_must (refine Kd.R_append kP (w0 := w0) w0.heap.size rfl (.tmp 5) (.tmp 7) 68 40 (.pointer none) 8 rfl Tryd.underlying68 infoP rfl (by decide) (by decide) v acc i [ptr (some i)] (fun _ => True) (fun _ => False) rfl rfl rfl (fun _ h => h.elim) (fun _ _ => trivial) HO.out HB.out ?aS ?aL ?_; (case aS => exact hszw); (case aL => exact hla); intro v1 w1 ho hb hg _; obtain ⟨A1, c1, hv1, hc1, hC1⟩ := Kd.R_reads ho; rw [List.length_append, List.length_singleton] at hv1; subst hv1; clear hc1 hC1; have HI := Aside0.mk (AllI.push hgb HV.out HO.out HF.out ho hb hg); have cg1 := blk_cell HI.out.1 0; have fg1 := blk_frozen HI.out.1 0; have cf : (w1.setCell ⟨g, 0, none⟩ (.slice A1 (acc.length + 1) c1)).cell? ⟨i, 1, none⟩ = some (ptr (ks[0]?.map RT.id)) := Is.first (HD.out.below HI.out.2.below) HR.out; clear ho hb hg))
    have hi0 := HI.out.2
    generalize hwg : w1.setCell ⟨g, 0, none⟩ (Value.slice A1 (acc.length + 1) c1) = wg at *
    clear hwg HI cg1 fg1
    have HI := Aside0.mk hi0
    clear hi0
    go_loopg [4] ks.length (fun n vc wr => ∃ j, n = ks.length - j ∧ j ≤ ks.length ∧ vc = ptr (ks[j]?.map RT.id) ∧ Aside0 (AllI w0 g f wr (acc ++ [i] ++ RT.preL (ks.take j))))
    case atStart => exact ⟨0, rfl, Nat.zero_le _, rfl, ⟨by simpa [RT.preL] using HI.out⟩⟩
    case round =>
      obtain ⟨j, rfl, hj, rfl, HI⟩ := hrel
      by_cases hlt : j < ks.length
      · rw [List.getElem?_eq_getElem hlt]
        have hkm := Aside0.mk (List.getElem_mem hlt)
        have hnx : ∀ wx, Below w0.heap.size w0 wx → wx.cell? ⟨ks[j].id, 4, none⟩ = some (ptr (ks[j + 1]?.map RT.id)) := fun wx hb => Is.next (HD.out.below hb) HR.out (j := j) hlt
        have HNX := Aside0.mk hnx
        clear hnx
        have cf0 : wr.cell? ⟨f, 0, none⟩ = some (funcAll g f) := by rw [blk_cell HI.out.fn]; rfl
        have hpl : (RT.preL (ks.take (j + 1))) = RT.preL (ks.take j) ++ ks[j].pre := by rw [List.take_succ_eq_append_getElem hlt, RT.preL_append]; simp [RT.preL]
        have HPL := Aside0.mk hpl
        clear hpl
        have hlen : (acc ++ [i] ++ RT.preL (ks.take j)).length + ks[j].pre.length ≤ bound := by
          have h1 := HL.out
          have h2 : RT.preL ks = RT.preL (ks.take (j + 1)) ++ RT.preL (ks.drop (j + 1)) := by rw [← RT.preL_append, List.take_append_drop]
          have h3 := congrArg List.length h2
          rw [HPL.out] at h3
          simp only [RT.pre, List.length_append, List.length_cons, List.length_nil] at h1 h3 ⊢
          omega
        have HC := Aside0.mk (IH.out ks[j] hkm.out (some i) (HR.out.kid hkm.out) wr _ HI.out hlen)
        have HE := Aside0.mk (congrArg RT.id (Eq.refl ks[j]))
        clear hlen
        simp only [Option.map_some, ptr_some, funcAll] at HC cf0 ⊢
        clear cf
        generalize ks[j].id = x at *
        go_wp2_with (go_at_call 37; refine HC.out.mono ?_; rintro e w2 ⟨rfl, hi2⟩; have HI2 := Aside0.mk hi2; have nx2 := HNX.out w2 hi2.below; clear hi2)
        go_roundg (ks.length - (j + 1))
        case rel => exact ⟨j + 1, rfl, by omega, rfl, ⟨by rw [HPL.out, ← List.append_assoc]; exact HI2.out⟩⟩
        case measure => omega
      · have hje : j = ks.length := by omega
        subst hje
        rw [List.getElem?_eq_none (Nat.le_refl _)]
        simp only [Option.map_none, ptr_none]
        go_wp2_with fail
        go_end0
        refine ⟨rfl, ?_⟩
        have := HI.out
        rw [List.take_length] at this
        simpa [RT.pre] using this
theorem all_calls (w : World) (D : Tab) (hdom : Dom w D) (p : Option Nat) (r : RT) (hr : Is D p r) (bound : Nat) (hbd : bound ≤ 4398046510976) (hl : r.pre.length ≤ bound) :
    Calls Tryd.prog 32 #[ptr (some r.id)] w fun e w' => ∃ v, e = .returned v ∧ kP.R 40 w' w.heap.size (fun _ => True) v r.pre ∧ Below w.heap.size w w' := by
  have h0 : AllI w w.heap.size (w.heap.size + 1) (((w.alloc (.cells #[.slice none 0 0] 68)).alloc (.cells #[funcAll w.heap.size (w.heap.size + 1)] 67))) [] := by
    refine ⟨⟨_, two_old w _ _, Kd.R_nil _ _ _ _ _⟩, two_new w _ _, below_alloc (below_alloc (Below.refl _ _) _) _⟩
  have HC := Aside0.mk (finder_calls w D hdom w.heap.size (w.heap.size + 1) bound hbd (Nat.le_refl _) r p hr _ [] h0 (by simpa using hl))
  clear h0 hl hr
  generalize r.id = x at *
  simp only [ptr_some, funcAll] at HC ⊢
  have hmf : ∀ (fn : Fn) (first cap : Array Value) (w : World), (Instr.makeFunc fn first cap).run Tryd.prog w = .ok (.func fn first cap) w := fun _ _ _ _ => rfl
  go_enter Tryd.func32, Tryd.ntmps32
  go_wp2_with (go_at_call 37; go_must (refine HC.out.mono ?_; rintro e w2 ⟨rfl, hi2⟩; obtain ⟨v2, hv2, ho2⟩ := hi2.row; obtain ⟨A2, c2, rfl, hc2, hC2⟩ := Kd.R_reads ho2; have cg2 := blk_cell hv2 0; have fg2 := blk_frozen hv2 0; have HI2 := Aside0.mk hi2; have HO2 := Aside0.mk ho2; have HV2 := Aside0.mk hv2; clear hi2 hv2 ho2 hc2 hC2))
  have hs := blk_set HV2.out 0 (Value.slice A2 r.pre.length c2)
  have hx : (w2.setCell ⟨w.heap.size, 0, none⟩ (Value.slice A2 r.pre.length c2)).cell? ⟨w.heap.size, 0, none⟩ = some (Value.slice A2 r.pre.length c2) := by rw [blk_cell hs]; rfl
  refine bodyPost_ret (v := .slice A2 r.pre.length c2) (by simp [results, Tryd.results32, go_sem, hx]) rfl ⟨_, rfl, ?_, ?_⟩
  · have := HO2.out
    rw [List.nil_append] at this
    exact Kd.R_set this HV2.out (fun q hq => by
      have : q = 40 := by simpa [kP, Kd.scalar] using hq
      rw [this]
      decide) 0 _
  · exact HI2.out.below.setCell (p := ⟨w.heap.size, 0, none⟩) (Nat.le_refl _) _
end Go.Proofs.YtibfoaahdbdogaaDoor.Dom

/- impl.NameOf of a tree. -/
namespace Go.Proofs.YtibfoaahdbdogaaDoor.PDom
open Go.RowKit Go.Proofs.YtibfoaahdbdogaaDoorW.PrintWords Go.Proofs.YtibfoaahdbdogaaDoorW.PrintLast Go.Proofs.YtibfoaahdbdogaaDoorW.PrintMore Go.Proofs.YtibfoaahdbdogaaDoor.Dom
set_option linter.unusedVariables false
set_option linter.unusedSimpArgs false

/-- A tree of rows that fit, told within so many steps. -/
def fitB : Nat → T → Bool
  | 0, _ => false
  | n + 1, t => decide (t.f3.length ≤ 4398046510976) && (decide (t.f4.length ≤ 4398046510976) && t.f4.all (fitB n))
theorem fitB_fit : ∀ (n : Nat) (t : T), fitB n t = true → Fit t
  | 0, _, h => by cases h
  | n + 1, t, h => by
    simp only [fitB, Bool.and_eq_true, decide_eq_true_eq, List.all_eq_true] at h
    exact Fit.mk t h.1 h.2.1 (fun y hy => fitB_fit n y (h.2.2 y hy))
theorem fitB_mono : ∀ (n : Nat) (t : T), fitB n t = true → fitB (n + 1) t = true
  | 0, _, h => by cases h
  | n + 1, t, h => by
    simp only [fitB, Bool.and_eq_true, decide_eq_true_eq, List.all_eq_true] at h ⊢
    refine ⟨h.1, h.2.1, fun y hy => ?_⟩
    have := fitB_mono n y (h.2.2 y hy)
    simpa only [fitB, Bool.and_eq_true, decide_eq_true_eq, List.all_eq_true] using this
theorem fitB_le {n m : Nat} (h : n ≤ m) {t : T} (hn : fitB n t = true) : fitB m t = true := by
  induction h with
  | refl => exact hn
  | step _ ih => exact fitB_mono _ _ ih
theorem fit_fitB {t : T} (h : Fit t) : ∃ n, fitB n t = true := by
  induction h with
  | mk t ha hk h ih =>
    have key : ∀ l : List T, (∀ y ∈ l, ∃ n, fitB n y = true) → ∃ n, ∀ y ∈ l, fitB n y = true := by
      intro l
      induction l with
      | nil => exact fun _ => ⟨0, fun y hy => by cases hy⟩
      | cons x l ihl =>
        intro hl
        obtain ⟨n1, h1⟩ := hl x List.mem_cons_self
        obtain ⟨n2, h2⟩ := ihl (fun y hy => hl y (List.mem_cons_of_mem _ hy))
        refine ⟨n1 + n2, fun y hy => ?_⟩
        rcases List.mem_cons.1 hy with rfl | hy
        · exact fitB_le (by omega) h1
        · exact fitB_le (by omega) (h2 y hy)
    obtain ⟨n, hn⟩ := key t.f4 ih
    refine ⟨n + 1, ?_⟩
    simp only [fitB, Bool.and_eq_true, decide_eq_true_eq, List.all_eq_true]
    exact ⟨ha, hk, hn⟩

theorem tree_kind {k : Nat} {f0 : Int} {f1 f2 : ByteArray} {f3 : List S31} {f4 : List S25} (h : laws_tree29.f k f0 f1 f2 f3 f4 = some true) : f0 = 0 ∨ f0 = 3 := by
  unfold laws_tree29.f at h
  by_cases h0 : f0 = 0
  · exact .inl h0
  · by_cases h3 : f0 = 3
    · exact .inr h3
    · rw [if_neg h0, if_neg h3] at h
      cases h

def impl_NameOf.f (k : Nat) (a0_0 : Int) (a0_1 : ByteArray) (a0_2 : ByteArray) (l0_3 : List (S31)) (l0_4 : List (S25)) : Option ByteArray :=
  (laws_tree29.f k a0_0 a0_1 a0_2 l0_3 l0_4).bind fun b => if b = true then (if fitB k ⟨a0_0, a0_1, a0_2, l0_3, l0_4⟩ = true then some (if a0_0 = 3 then docName else a0_1) else none) else none
theorem impl_NameOf.mono : ∀ a0 a1 a2 a3 a4 k, LeO (impl_NameOf.f k a0 a1 a2 a3 a4) (impl_NameOf.f (k + 1) a0 a1 a2 a3 a4) := by
  intro a0 a1 a2 a3 a4 k
  unfold impl_NameOf.f
  refine LeO.bind (laws_tree29.mono _ _ _ _ _ _) (fun b => ?_)
  by_cases hb : b = true
  · rw [if_pos hb, if_pos hb]
    by_cases hf : fitB k ⟨a0, a1, a2, a3, a4⟩ = true
    · rw [if_pos hf, if_pos (fitB_mono _ _ hf)]
      exact LeO.refl _
    · rw [if_neg hf]
      exact LeO.none _
  · rw [if_neg hb]
    exact LeO.none _
theorem impl_NameOf.calls (k : Nat) (a0_0 : Int) (a0_1 : ByteArray) (a0_2 : ByteArray) (A0_3 : Option Addr) (c0_3 : Nat) (l0_3 : List (S31)) (A0_4 : Option Addr) (c0_4 : Nat) (l0_4 : List (S25)) (r : ByteArray) (w : World) (hr0_3 : Kd.C k31 w A0_3 l0_3.length l0_3) (hc0_3 : l0_3.length ≤ c0_3) (hr0_4 : Kd.C k25 w A0_4 l0_4.length l0_4) (hc0_4 : l0_4.length ≤ c0_4) (h : impl_NameOf.f k a0_0 a0_1 a0_2 l0_3 l0_4 = some r) :
    Calls Tryd.prog 21 #[.agg #[.int .i64 a0_0, .string a0_1, .string a0_2, .slice A0_3 l0_3.length c0_3, .slice A0_4 l0_4.length c0_4]] w fun e w' => e = .returned (.string r) ∧ Below w.heap.size w w' := by
  obtain ⟨hkind, hfit, hr⟩ : (a0_0 = 0 ∨ a0_0 = 3) ∧ fitB k ⟨a0_0, a0_1, a0_2, l0_3, l0_4⟩ = true ∧ (if a0_0 = 3 then docName else a0_1) = r := by
    unfold impl_NameOf.f at h
    obtain ⟨b, hb, h2⟩ := Option.bind_eq_some_iff.1 h
    split at h2
    case isFalse => cases h2
    rename_i hbt
    subst hbt
    split at h2
    case isFalse => cases h2
    rename_i hf
    exact ⟨tree_kind hb, hf, Option.some.inj h2⟩
  have HB0 := Aside0.mk (below_alloc (Below.refl w.heap.size w) (Obj.cells #[Value.int IntKind.i64 a0_0, Value.string a0_1, Value.string a0_2, Value.slice A0_3 l0_3.length c0_3, Value.slice A0_4 l0_4.length c0_4] 25))
  have HM := Aside0.mk (made_calls _ ⟨a0_0, a0_1, a0_2, l0_3, l0_4⟩ (Nat.le_refl _) (fitB_fit _ _ hfit) _ A0_3 c0_3 A0_4 c0_4 (Kd.C_below hr0_3 HB0.out) hc0_3 (Kd.C_below hr0_4 HB0.out) hc0_4)
  clear h hfit hr0_3 hc0_3 hr0_4 hc0_4
  go_enter Tryd.func21, Tryd.ntmps21
  go_wp2_with fail
  refine HM.out.mono ?_
  rintro e w1 ⟨b, D, rfl, hm⟩
  obtain ⟨_, _, i, hi, hma, _, _⟩ := hm.tree
  have hty : i.ty = 1 ∨ i.ty = 2 ∨ i.ty = 3 ∨ i.ty = 4 := by
    rw [hma.ty]
    show tyOf a0_0 = 1 ∨ tyOf a0_0 = 2 ∨ tyOf a0_0 = 3 ∨ tyOf a0_0 = 4
    rcases hkind with h | h <;> (rw [h]; decide)
  have hn : nameOf i = r := by
    rw [← hr]
    unfold nameOf
    rw [hma.ty, hma.data]
    rcases hkind with h | h <;> subst h
    · rfl
    · rfl
  have HN := Aside0.mk (node_calls w1 D b i hm.dom hi)
  have HB := Aside0.mk (below_step HB0.out hm.below)
  clear hm hi hma hty HM
  simp only [ptr] at HN
  go_wp2_with fail
  refine HN.out.mono ?_
  rintro e w2 ⟨rfl, rfl⟩
  go_wp2
  go_ret
  exact ⟨by rw [← hn]; rfl, HB.out⟩
end Go.Proofs.YtibfoaahdbdogaaDoor.PDom

/- The guards of the laws on trees always tell something: zzFits2, name29, size29 right29, tree29. Plain facts. -/
namespace Go.Proofs.YtibfoaahdbdogaaDoor.PDom
open Go.RowKit Go.Proofs.YtibfoaahdbdogaaDoorW.PrintWords Go.Proofs.YtibfoaahdbdogaaDoorW.PrintLast Go.Proofs.YtibfoaahdbdogaaDoorW.PrintMore Go.Proofs.YtibfoaahdbdogaaDoor.Dom
set_option linter.unusedVariables false
set_option linter.unusedSimpArgs false

theorem up {α : Type} {g : Nat → Option α} (hm : ∀ k, LeO (g k) (g (k + 1))) {k m : Nat} (h : k ≤ m) {r : α} (hk : g k = some r) : g m = some r := by
  induction h with
  | refl => exact hk
  | step _ ih => exact hm _ _ ih

theorem succ_wrap (j : Nat) (h : j ≤ 4611686018427387904) : wrap64 ((j : Int) + 1) = ((j + 1 : Nat) : Int) := by
  rw [wrap_same (by omega) (by omega)]
  omega

theorem fits3_loop (l : List S31) (hl : l.length ≤ 4611686018427387904) : ∀ (n j k : Nat), j + n = l.length → n < k → ∃ b, laws_zzFits3.l0 k l (l.length : Int) (j : Int) = some b
  | 0, j, k + 1, h, hk => by
    rw [laws_zzFits3.l0, if_neg (by omega)]
    exact ⟨_, rfl⟩
  | n + 1, j, k + 1, h, hk => by
    obtain ⟨b, hb⟩ := fits3_loop l hl n (j + 1) k (by omega) (by omega)
    rw [laws_zzFits3.l0, if_pos (by omega), if_pos (by omega), if_pos (by omega), succ_wrap j (by omega), hb]
    obtain ⟨c, hc⟩ : ∃ c, laws_zzFits4.f (rd_T31 l (j : Int)).f0 (rd_T31 l (j : Int)).f1 = some c := by
      unfold laws_zzFits4.f
      repeat' split
      all_goals exact ⟨_, rfl⟩
    rw [hc, Option.bind_some]
    split
    · exact ⟨_, rfl⟩
    · exact ⟨_, rfl⟩
  | n, j, 0, h, hk => absurd hk (Nat.not_lt_zero _)
theorem fits2_tot (f0 : Int) (f1 f2 : ByteArray) (f3 : List S31) (f4 : List S25) (hl : f3.length ≤ 4611686018427387904) (k : Nat) (hk : f3.length < k) : ∃ b, laws_zzFits2.f k f0 f1 f2 f3 f4 = some b := by
  obtain ⟨c, hc⟩ : ∃ c, laws_zzFits3.f k f3 = some c := by
    unfold laws_zzFits3.f
    split
    · exact ⟨_, rfl⟩
    · exact fits3_loop f3 hl f3.length 0 k (by omega) hk
  unfold laws_zzFits2.f
  rw [hc]
  simp only [Option.bind_some]
  repeat' split
  all_goals exact ⟨_, rfl⟩

theorem name_loop (a : ByteArray) (hl : a.size ≤ 4611686018427387904) : ∀ (n j k : Nat), j + n = a.size → n < k → ∃ b, laws_name29.l0 k a (a.size : Int) (j : Int) = some b
  | 0, j, k + 1, h, hk => by
    rw [laws_name29.l0, if_neg (by omega)]
    exact ⟨_, rfl⟩
  | n + 1, j, k + 1, h, hk => by
    obtain ⟨b, hb⟩ := name_loop a hl n (j + 1) k (by omega) (by omega)
    rw [laws_name29.l0, if_pos (by omega), if_pos (by omega), if_pos (by omega), succ_wrap j (by omega), hb]
    have good : ∀ (P : Option Bool → Prop) (q : Prop) (_ : Decidable q) (x y : Option Bool), (q → P x) → (¬ q → P y) → P (if q then x else y) := by
      intro P q _ x y h1 h2
      by_cases hq : q
      · rw [if_pos hq]; exact h1 hq
      · rw [if_neg hq]; exact h2 hq
    let G : Option Bool → Prop := fun o => ∃ b, o = some b
    have g1 : ∀ b, G (some b) := fun b => ⟨b, rfl⟩
    change G _
    clear_value G
    repeat' (refine good _ _ _ _ _ ?_ ?_ <;> intro _)
    all_goals exact g1 _
  | n, j, 0, h, hk => absurd hk (Nat.not_lt_zero _)

/-- size29 comes to an end: below a depth of 61 no call is made. -/
theorem size_tot (n : Nat) : ∀ (d : Int), 0 ≤ d → 61 - d ≤ n → ∀ (t : T), Fit t → ∃ k r, laws_size29.f k t.f0 t.f1 t.f2 t.f3 t.f4 d = some r := by
  induction n with
  | zero =>
    intro d hd0 hd t ht
    refine ⟨1, 301, ?_⟩
    rw [laws_size29.f, if_pos (by omega)]
  | succ n ih =>
    intro d hd0 hd t ht
    by_cases hdeep : d > 60
    · exact ⟨1, 301, by rw [laws_size29.f, if_pos hdeep]⟩
    · obtain ⟨_, _, hk4, hall⟩ := ht
      have loop : ∀ (m j : Nat) (x5 : Int), j + m = t.f4.length → ∃ k r, laws_size29.l0 k d x5 t.f4 (t.f4.length : Int) (j : Int) = some r := by
        intro m
        induction m with
        | zero =>
          intro j x5 hj
          exact ⟨1, x5, by rw [laws_size29.l0, if_neg (by omega)]⟩
        | succ m ihm =>
          intro j x5 hj
          have hjl : j < t.f4.length := by omega
          have he : rd_T25 t.f4 (j : Int) = t.f4[j] := by simp [rd_T25, List.getD_eq_getElem?_getD, List.getElem?_eq_getElem hjl]
          have hf : Fit t.f4[j] := hall _ (List.getElem_mem _)
          obtain ⟨k1, r1, h1⟩ := ih (d + 1) (by omega) (by omega) t.f4[j] hf
          obtain ⟨k2, r2, h2⟩ := ihm (j + 1) (wrap64 (x5 + r1)) (by omega)
          have u1 := up (fun k => (laws_size29.mono_l k).1 t.f4[j].f0 t.f4[j].f1 t.f4[j].f2 t.f4[j].f3 t.f4[j].f4 (d + 1)) (show k1 ≤ k1 + k2 by omega) h1
          have u2 := up (fun k => (laws_size29.mono_l k).2 d (wrap64 (x5 + r1)) t.f4 (t.f4.length : Int) ((j + 1 : Nat) : Int)) (show k2 ≤ k1 + k2 by omega) h2
          refine ⟨k1 + k2 + 1, ?_⟩
          rw [laws_size29.l0, if_pos (by omega), if_pos (by omega), if_pos (by omega), he, wrap_same (by omega) (by omega), u1, Option.bind_some, succ_wrap j (by omega), u2]
          split
          · exact ⟨_, rfl⟩
          · exact ⟨_, rfl⟩
      obtain ⟨k, r, h⟩ := loop t.f4.length 0 1 (by omega)
      refine ⟨k + 1, r, ?_⟩
      rw [laws_size29.f, if_neg hdeep]
      exact h

inductive FitS : T → Prop
  | mk (t : T) (hn : t.f1.size ≤ 140737488351232) (ha : t.f3.length ≤ 4398046510976) (hk : t.f4.length ≤ 4398046510976) (h : ∀ y ∈ t.f4, FitS y) : FitS t
theorem FitS.fit {t : T} (h : FitS t) : Fit t := by
  induction h with
  | mk t hn ha hk h ih => exact Fit.mk t ha hk ih

/-- right29 comes to an end. -/
theorem right_tot {t : T} (ht : FitS t) : ∀ (root : Bool), ∃ k r, laws_right29.f k t.f0 t.f1 t.f2 t.f3 t.f4 root = some r := by
  induction ht with
  | mk t hn ha hk hall ih =>
    have hl2 : ∀ (m j : Nat), j + m = t.f4.length → ∃ k r, laws_right29.l2 k t.f4 (t.f4.length : Int) (j : Int) = some r := by
      intro m
      induction m with
      | zero =>
        intro j hj
        exact ⟨1, true, by rw [laws_right29.l2, if_neg (by omega)]⟩
      | succ m ihm =>
        intro j hj
        have hjl : j < t.f4.length := by omega
        have he : rd_T25 t.f4 (j : Int) = t.f4[j] := by simp [rd_T25, List.getD_eq_getElem?_getD, List.getElem?_eq_getElem hjl]
        obtain ⟨k1, r1, h1⟩ := ih _ (List.getElem_mem hjl) false
        obtain ⟨k2, r2, h2⟩ := ihm (j + 1) (by omega)
        have u1 := up (fun k => (laws_right29.mono_l k).1 t.f4[j].f0 t.f4[j].f1 t.f4[j].f2 t.f4[j].f3 t.f4[j].f4 false) (show k1 ≤ k1 + k2 by omega) h1
        have u2 := up (fun k => (laws_right29.mono_l k).2.2.1 t.f4 (t.f4.length : Int) ((j + 1 : Nat) : Int)) (show k2 ≤ k1 + k2 by omega) h2
        refine ⟨k1 + k2 + 1, ?_⟩
        rw [laws_right29.l2, if_pos (by omega), if_pos (by omega), if_pos (by omega), he, u1, Option.bind_some, succ_wrap j (by omega), u2]
        split
        · exact ⟨_, rfl⟩
        · exact ⟨_, rfl⟩
    have hj4 : ∃ k r, laws_right29.j4 k t.f0 t.f1 t.f2 t.f3 t.f4 = some r := by
      obtain ⟨k, r, h⟩ := hl2 t.f4.length 0 (by omega)
      exact ⟨k + 1, r, by rw [laws_right29.j4]; exact h⟩
    have hl0 : ∀ (m j : Nat), j + m = t.f3.length → ∃ k r, laws_right29.l0 k t.f3 (t.f3.length : Int) (j : Int) t.f0 t.f1 t.f2 t.f3 t.f4 = some r := by
      intro m
      induction m with
      | zero =>
        intro j hj
        obtain ⟨k, r, h⟩ := hj4
        exact ⟨k + 1, r, by rw [laws_right29.l0, if_neg (by omega)]; exact h⟩
      | succ m ihm =>
        intro j hj
        obtain ⟨k0, r0, h0⟩ := ihm (j + 1) (by omega)
        have hl1 : ∀ (y : List S31) (s1 s2 : ByteArray), y.length ≤ t.f3.length → ∀ (m i : Nat), i + m = y.length → ∃ k r, laws_right29.l1 k t.f3 (t.f3.length : Int) (j : Int) y (y.length : Int) (i : Int) t.f0 t.f1 t.f2 t.f3 t.f4 s1 s2 = some r := by
          intro y s1 s2 hy m
          induction m with
          | zero =>
            intro i hi
            exact ⟨k0 + 1, r0, by rw [laws_right29.l1, if_neg (by omega), succ_wrap j (by omega)]; exact h0⟩
          | succ m ihi =>
            intro i hi
            obtain ⟨k, r, h⟩ := ihi (i + 1) (by omega)
            refine ⟨k + 1, ?_⟩
            rw [laws_right29.l1, if_pos (by omega), if_pos (by omega), if_pos (by omega), succ_wrap i (by omega), h]
            split
            · exact ⟨_, rfl⟩
            · exact ⟨_, rfl⟩
        have htl : (t.f3.take j).length ≤ t.f3.length := by rw [List.length_take]; omega
        obtain ⟨k, r, h⟩ := hl1 (t.f3.take j) (rd_T31 t.f3 (j : Int)).f0 (rd_T31 t.f3 (j : Int)).f1 htl (t.f3.take j).length 0 (by omega)
        refine ⟨k + 1, r, ?_⟩
        rw [laws_right29.l0, if_pos (by omega), if_pos (by omega), if_pos (by omega), if_pos (by omega), Option.bind_some]
        exact h
    have hj1 : ∀ x : Bool, ∃ k r, laws_right29.j1 k x t.f0 t.f1 t.f2 t.f3 t.f4 = some r := by
      intro x
      obtain ⟨k, r, h⟩ := hl0 t.f3.length 0 (by omega)
      refine ⟨k + 1, ?_⟩
      rw [laws_right29.j1]
      split
      · exact ⟨_, rfl⟩
      · exact ⟨r, h⟩
    have hj0 : ∀ (root x : Bool), ∃ k r, laws_right29.j0 k root t.f0 x t.f0 t.f1 t.f2 t.f3 t.f4 = some r := by
      intro root x
      obtain ⟨b, hb⟩ := name_loop t.f1 (by omega) t.f1.size 0 (t.f1.size + 1) (by omega) (by omega)
      obtain ⟨k4, r4, h4⟩ := hj4
      obtain ⟨k5, r5, h5⟩ := hj1 (t.f2.toList != ([] : List UInt8))
      obtain ⟨k6, r6, h6⟩ := hj1 true
      have ub := up (fun k => laws_name29.mono t.f1 k) (show t.f1.size + 1 ≤ t.f1.size + 1 + k4 + k5 + k6 by omega) hb
      have u4 := up (fun k => (laws_right29.mono_l k).2.1 t.f0 t.f1 t.f2 t.f3 t.f4) (show k4 ≤ t.f1.size + 1 + k4 + k5 + k6 by omega) h4
      have u5 := up (fun k => (laws_right29.mono_l k).2.2.2.2.1 (t.f2.toList != ([] : List UInt8)) t.f0 t.f1 t.f2 t.f3 t.f4) (show k5 ≤ t.f1.size + 1 + k4 + k5 + k6 by omega) h5
      have u6 := up (fun k => (laws_right29.mono_l k).2.2.2.2.1 true t.f0 t.f1 t.f2 t.f3 t.f4) (show k6 ≤ t.f1.size + 1 + k4 + k5 + k6 by omega) h6
      refine ⟨t.f1.size + 1 + k4 + k5 + k6 + 1, ?_⟩
      rw [laws_right29.j0, ub, u4]
      simp only [Option.bind_some, u5, u6]
      repeat' split
      all_goals exact ⟨_, rfl⟩
    intro root
    obtain ⟨k1, r1, h1⟩ := hj0 root (t.f0 == 1)
    obtain ⟨k2, r2, h2⟩ := hj0 root (t.f0 == 2)
    have u1 := up (fun k => (laws_right29.mono_l k).2.2.2.1 root t.f0 (t.f0 == 1) t.f0 t.f1 t.f2 t.f3 t.f4) (show k1 ≤ k1 + k2 by omega) h1
    have u2 := up (fun k => (laws_right29.mono_l k).2.2.2.1 root t.f0 (t.f0 == 2) t.f0 t.f1 t.f2 t.f3 t.f4) (show k2 ≤ k1 + k2 by omega) h2
    refine ⟨k1 + k2 + 1, ?_⟩
    rw [laws_right29.f, u1, u2]
    split
    · exact ⟨_, rfl⟩
    · exact ⟨_, rfl⟩

theorem tree_tot {t : T} (ht : FitS t) : ∃ k b, laws_tree29.f k t.f0 t.f1 t.f2 t.f3 t.f4 = some b := by
  obtain ⟨k1, r1, h1⟩ := size_tot 61 0 (by omega) (by omega) t ht.fit
  obtain ⟨k2, r2, h2⟩ := right_tot ht true
  have u1 := up (fun k => (laws_size29.mono_l k).1 t.f0 t.f1 t.f2 t.f3 t.f4 0) (show k1 ≤ k1 + k2 by omega) h1
  have u2 := up (fun k => (laws_right29.mono_l k).1 t.f0 t.f1 t.f2 t.f3 t.f4 true) (show k2 ≤ k1 + k2 by omega) h2
  refine ⟨k1 + k2, ?_⟩
  unfold laws_tree29.f
  rw [u1, u2]
  simp only [Option.bind_some]
  repeat' split
  all_goals exact ⟨_, rfl⟩
end Go.Proofs.YtibfoaahdbdogaaDoor.PDom

/- What the laws' guards on a tree tell: it is in normal form, of 300 nodes at most, as deep as that. Plain facts. -/
namespace Go.Proofs.YtibfoaahdbdogaaDoor.PDom
open Go.RowKit Go.Proofs.YtibfoaahdbdogaaDoorW.PrintWords Go.Proofs.YtibfoaahdbdogaaDoorW.PrintLast Go.Proofs.YtibfoaahdbdogaaDoorW.PrintMore Go.Proofs.YtibfoaahdbdogaaDoor.Dom
set_option linter.unusedVariables false
set_option linter.unusedSimpArgs false

theorem empty_of {a : ByteArray} (h : a.toList = ([] : List UInt8)) : a = ⟨#[]⟩ := by
  have h1 : a.toList = a.data.toList := ByteArray.toList_eq a
  rw [h1] at h
  cases a with
  | mk d =>
    have : d = #[] := by
      apply Array.ext'
      simpa using h
    rw [this]
theorem rd_at (l : List S25) {j : Nat} (h : j < l.length) : rd_T25 l (j : Int) = l[j] := by simp [rd_T25, List.getD_eq_getElem?_getD, List.getElem?_eq_getElem h]
def NodeOk (root : Bool) (t : T) : Prop :=
  ((t.f0 = 1 ∨ t.f0 = 2) ∧ t.f1 = ⟨#[]⟩ ∧ t.f3 = [] ∧ t.f4 = []) ∨ (t.f0 = 3 ∧ root = true ∧ t.f1 = ⟨#[]⟩ ∧ t.f2 = ⟨#[]⟩ ∧ t.f3 = []) ∨ (t.f0 = 0 ∧ t.f2 = ⟨#[]⟩)
inductive Norm : Bool → T → Prop
  | mk (root : Bool) (t : T) (h : NodeOk root t) (hk : ∀ y ∈ t.f4, Norm false y) : Norm root t
theorem right_l (k : Nat) : (∀ a0 a1 a2 a3 a4, laws_right29.j4 k a0 a1 a2 a3 a4 = some true → ∃ m, m < k ∧ laws_right29.l2 m a4 (a4.length : Int) 0 = some true)
    ∧ (∀ b0 b1 b2 a0 a1 a2 a3 a4, laws_right29.l0 k b0 b1 b2 a0 a1 a2 a3 a4 = some true → ∃ m, m < k ∧ laws_right29.l2 m a4 (a4.length : Int) 0 = some true)
    ∧ (∀ b0 b1 b2 b3 b4 b5 a0 a1 a2 a3 a4 c0 c1, laws_right29.l1 k b0 b1 b2 b3 b4 b5 a0 a1 a2 a3 a4 c0 c1 = some true → ∃ m, m < k ∧ laws_right29.l2 m a4 (a4.length : Int) 0 = some true) := by
  induction k with
  | zero => exact ⟨fun _ _ _ _ _ h => by simp [laws_right29.j4] at h, fun _ _ _ _ _ _ _ _ h => by simp [laws_right29.l0] at h, fun _ _ _ _ _ _ _ _ _ _ _ _ _ h => by simp [laws_right29.l1] at h⟩
  | succ k ih =>
    obtain ⟨i4, i0, i1⟩ := ih
    have up : ∀ {P : Nat → Prop}, (∃ m, m < k ∧ P m) → ∃ m, m < k + 1 ∧ P m := fun ⟨m, h1, h2⟩ => ⟨m, by omega, h2⟩
    refine ⟨?_, ?_, ?_⟩
    · intro a0 a1 a2 a3 a4 h
      rw [laws_right29.j4] at h
      exact ⟨k, by omega, h⟩
    · intro b0 b1 b2 a0 a1 a2 a3 a4 h
      rw [laws_right29.l0] at h
      by_cases c1 : b2 < b1
      · rw [if_pos c1] at h
        by_cases c2 : 0 ≤ b2
        · rw [if_pos c2] at h
          by_cases c3 : b2 < (b0.length : Int)
          · rw [if_pos c3] at h
            by_cases c4 : b2 ≤ (a3.length : Int)
            · rw [if_pos c4] at h
              exact up (i1 _ _ _ _ _ _ _ _ _ _ _ _ _ h)
            · rw [if_neg c4] at h; cases h
          · rw [if_neg c3] at h; cases h
        · rw [if_neg c2] at h; cases h
      · rw [if_neg c1] at h
        exact up (i4 _ _ _ _ _ h)
    · intro b0 b1 b2 b3 b4 b5 a0 a1 a2 a3 a4 c0 c1 h
      rw [laws_right29.l1] at h
      by_cases d1 : b5 < b4
      · rw [if_pos d1] at h
        by_cases d2 : 0 ≤ b5
        · rw [if_pos d2] at h
          by_cases d3 : b5 < (b3.length : Int)
          · rw [if_pos d3] at h
            by_cases d4 : c0.toList = ((rd_T31 b3 b5).f0).toList
            · rw [if_pos d4] at h; cases h
            · rw [if_neg d4] at h
              exact up (i1 _ _ _ _ _ _ _ _ _ _ _ _ _ h)
          · rw [if_neg d3] at h; cases h
        · rw [if_neg d2] at h; cases h
      · rw [if_neg d1] at h
        exact up (i0 _ _ _ _ _ _ _ _ h)
theorem right_l2 (l : List T) (hl : l.length ≤ 4398046510976) : ∀ (k j : Nat), laws_right29.l2 k l (l.length : Int) (j : Int) = some true → ∀ i (hi : i < l.length), j ≤ i → ∃ m, m < k ∧ laws_right29.f m l[i].f0 l[i].f1 l[i].f2 l[i].f3 l[i].f4 false = some true
  | 0, j, h => by simp [laws_right29.l2] at h
  | k + 1, j, h => by
    intro i hi hji
    rw [laws_right29.l2, if_pos (by omega), if_pos (by omega), if_pos (by omega), rd_at l (by omega)] at h
    obtain ⟨b, hb, h2⟩ := Option.bind_eq_some_iff.1 h
    cases b with
    | false => cases h2
    | true =>
      rw [if_pos rfl, succ_wrap j (by omega)] at h2
      by_cases e : i = j
      · subst e
        exact ⟨k, by omega, hb⟩
      · obtain ⟨m, hm, hf⟩ := right_l2 l hl k (j + 1) h2 i hi (by omega)
        exact ⟨m, by omega, hf⟩
theorem right_norm (n : Nat) : ∀ k, k < n → ∀ (t : T), Fit t → ∀ root, laws_right29.f k t.f0 t.f1 t.f2 t.f3 t.f4 root = some true → Norm root t := by
  induction n with
  | zero => exact fun k hk => absurd hk (Nat.not_lt_zero _)
  | succ n ih =>
    intro k hk t ht root h
    have hfit := ht
    obtain ⟨_, _, hl4, hall⟩ := ht
    cases k with
    | zero => simp [laws_right29.f] at h
    | succ k =>
      have hj : ∃ x13, (x13 = true ↔ (t.f0 = 1 ∨ t.f0 = 2)) ∧ laws_right29.j0 k root t.f0 x13 t.f0 t.f1 t.f2 t.f3 t.f4 = some true := by
        rw [laws_right29.f] at h
        by_cases c : t.f0 = 1
        · rw [if_pos c] at h
          exact ⟨_, by simp [c], h⟩
        · rw [if_neg c] at h
          exact ⟨_, by simp [c], h⟩
      obtain ⟨x13, hx, hj⟩ := hj
      cases k with
      | zero => simp [laws_right29.j0] at hj
      | succ k =>
        have kidsOk : ∀ m, m < k + 1 → laws_right29.l2 m t.f4 (t.f4.length : Int) 0 = some true → ∀ y ∈ t.f4, Norm false y := by
          intro m hm h2 y hy
          obtain ⟨i, hi, rfl⟩ := List.getElem_of_mem hy
          obtain ⟨m2, hm2, hf⟩ := right_l2 t.f4 hl4 m 0 h2 i hi (Nat.zero_le _)
          exact ih m2 (by omega) _ (hall _ hy) false hf
        rw [laws_right29.j0] at hj
        by_cases c1 : x13 = true
        · rw [if_pos c1] at hj
          by_cases c2 : (t.f4.length : Int) = 0
          · rw [if_pos c2] at hj
            by_cases c3 : t.f1.toList = ([] : List UInt8)
            · rw [if_pos c3] at hj
              have c4 : t.f4 = [] := List.length_eq_zero_iff.1 (by omega)
              have c5 : t.f3 = [] := by
                have h6 := Option.some.inj hj
                have h7 : (t.f3.length : Int) = 0 := by simpa using h6
                exact List.length_eq_zero_iff.1 (by omega)
              refine Norm.mk root t (.inl ⟨hx.1 c1, empty_of c3, c5, c4⟩) ?_
              rw [c4]
              exact fun y hy => by cases hy
            · rw [if_neg c3] at hj; cases hj
          · rw [if_neg c2] at hj; cases hj
        · rw [if_neg c1] at hj
          by_cases c2 : t.f0 = 3
          · rw [if_pos c2] at hj
            by_cases c3 : root = true
            · rw [if_pos c3] at hj
              by_cases c4 : t.f1.toList = ([] : List UInt8)
              · rw [if_pos c4] at hj
                by_cases c5 : t.f2.toList = ([] : List UInt8)
                · rw [if_pos c5] at hj
                  by_cases c6 : (t.f3.length : Int) > 0
                  · rw [if_pos c6] at hj; cases hj
                  · rw [if_neg c6] at hj
                    obtain ⟨m, hm, h2⟩ := (right_l k).1 _ _ _ _ _ hj
                    exact Norm.mk root t (.inr (.inl ⟨c2, c3, empty_of c4, empty_of c5, List.length_eq_zero_iff.1 (by omega)⟩)) (kidsOk m (by omega) h2)
                · rw [if_neg c5] at hj; cases hj
              · rw [if_neg c4] at hj; cases hj
            · rw [if_neg c3] at hj; cases hj
          · rw [if_neg c2] at hj
            by_cases c3 : t.f0 = 0
            · rw [if_pos c3] at hj
              obtain ⟨b, _, hj2⟩ := Option.bind_eq_some_iff.1 hj
              have key : ∀ x, laws_right29.j1 k x t.f0 t.f1 t.f2 t.f3 t.f4 = some true → x = false ∧ ∃ m, m < k ∧ laws_right29.l2 m t.f4 (t.f4.length : Int) 0 = some true := by
                intro x h6
                cases k with
                | zero => simp [laws_right29.j1] at h6
                | succ k =>
                  rw [laws_right29.j1] at h6
                  cases x with
                  | true => rw [if_pos rfl] at h6; cases h6
                  | false =>
                    rw [if_neg (by simp)] at h6
                    obtain ⟨m, hm, h7⟩ := (right_l k).2.1 _ _ _ _ _ _ _ _ h6
                    exact ⟨rfl, m, by omega, h7⟩
              cases b with
              | true =>
                rw [if_pos rfl] at hj2
                obtain ⟨e, m, hm, h7⟩ := key _ hj2
                refine Norm.mk root t (.inr (.inr ⟨c3, empty_of ?_⟩)) (kidsOk m (by omega) h7)
                simpa using e
              | false =>
                rw [if_neg (by simp)] at hj2
                obtain ⟨e, _⟩ := key _ hj2
                cases e
            · rw [if_neg c3] at hj; cases hj

/-! ### How many nodes -/
mutual
def countT : T → Nat
  | ⟨_, _, _, _, ks⟩ => 1 + countTL ks
def countTL : List T → Nat
  | [] => 0
  | k :: ks => countT k + countTL ks
end
theorem countT_eq (t : T) : countT t = 1 + countTL t.f4 := by cases t; rfl
theorem size_l (k : Nat) : (∀ (t : T), Fit t → ∀ (d n : Int), 0 ≤ d → d ≤ 61 → laws_size29.f k t.f0 t.f1 t.f2 t.f3 t.f4 d = some n → 1 ≤ n ∧ n ≤ 301 + 301 * (61 - d) ∧ (n ≤ 300 → (countT t : Int) = n))
    ∧ (∀ (l : List T), (∀ y ∈ l, Fit y) → l.length ≤ 4398046510976 → ∀ (d x5 n : Int) (j : Nat), 0 ≤ d → d ≤ 60 → 1 ≤ x5 → x5 ≤ 300 → j ≤ l.length → laws_size29.l0 k d x5 l (l.length : Int) (j : Int) = some n → 1 ≤ n ∧ n ≤ 301 + 301 * (61 - d) ∧ (n ≤ 300 → x5 + (countTL (l.drop j) : Int) = n)) := by
  induction k with
  | zero => exact ⟨fun _ _ _ _ _ _ h => by simp [laws_size29.f] at h, fun _ _ _ _ _ _ _ _ _ _ _ _ h => by simp [laws_size29.l0] at h⟩
  | succ k ih =>
    obtain ⟨ihf, ihl⟩ := ih
    refine ⟨?_, ?_⟩
    · intro t ht d n h0 h1 h
      rw [laws_size29.f] at h
      by_cases c : d > 60
      · rw [if_pos c] at h
        obtain rfl := Option.some.inj h
        omega
      · rw [if_neg c] at h
        obtain ⟨_, _, hl4, hall⟩ := ht
        have h2 := ihl t.f4 hall hl4 d 1 n 0 h0 (by omega) (by omega) (by omega) (Nat.zero_le _) h
        rw [countT_eq]
        simp only [List.drop_zero] at h2
        omega
    · intro l hall hl d x5 n j h0 h1 h2 h3 hj h
      rw [laws_size29.l0] at h
      by_cases c : j < l.length
      · rw [if_pos (by omega), if_pos (by omega), if_pos (by omega), rd_at l c, wrap_same (by omega) (by omega)] at h
        obtain ⟨r, hr, hb⟩ := Option.bind_eq_some_iff.1 h
        have hq := ihf l[j] (hall _ (List.getElem_mem c)) (d + 1) r (by omega) (by omega) hr
        rw [wrap_same (by omega) (by omega), succ_wrap j (by omega)] at hb
        have hd : countTL (l.drop j) = countT l[j] + countTL (l.drop (j + 1)) := by
          rw [List.drop_eq_getElem_cons c]
          rfl
        by_cases c2 : x5 + r > 300
        · rw [if_pos c2] at hb
          obtain rfl := Option.some.inj hb
          omega
        · rw [if_neg c2] at hb
          have h5 := ihl l hall hl d (x5 + r) n (j + 1) h0 h1 (by omega) (by omega) (by omega) hb
          rw [hd]
          omega
      · rw [if_neg (by omega)] at h
        obtain rfl := Option.some.inj h
        have : l.drop j = [] := List.drop_eq_nil_of_le (by omega)
        rw [this]
        simp only [countTL]
        omega
/-- What tree29 tells. -/
theorem tree_norm {k : Nat} {t : T} (ht : Fit t) (h : laws_tree29.f k t.f0 t.f1 t.f2 t.f3 t.f4 = some true) : Norm true t ∧ countT t ≤ 300 ∧ (t.f0 = 0 ∨ t.f0 = 3) := by
  have hk := tree_kind h
  have key : ∃ n, laws_size29.f k t.f0 t.f1 t.f2 t.f3 t.f4 0 = some n ∧ n ≤ 300 ∧ laws_right29.f k t.f0 t.f1 t.f2 t.f3 t.f4 true = some true := by
    unfold laws_tree29.f at h
    rcases hk with e | e
    · rw [if_pos e] at h
      obtain ⟨n, hn, h2⟩ := Option.bind_eq_some_iff.1 h
      by_cases c : n ≤ 300
      · rw [if_pos c] at h2
        obtain ⟨b, hb, h3⟩ := Option.bind_eq_some_iff.1 h2
        obtain rfl := Option.some.inj h3
        exact ⟨n, hn, c, hb⟩
      · rw [if_neg c] at h2; cases h2
    · rw [if_neg (by omega), if_pos e] at h
      obtain ⟨n, hn, h2⟩ := Option.bind_eq_some_iff.1 h
      by_cases c : n ≤ 300
      · rw [if_pos c] at h2
        obtain ⟨b, hb, h3⟩ := Option.bind_eq_some_iff.1 h2
        obtain rfl := Option.some.inj h3
        exact ⟨n, hn, c, hb⟩
      · rw [if_neg c] at h2; cases h2
  obtain ⟨n, hn, hle, hr⟩ := key
  have h1 := (size_l k).1 t ht 0 n (by omega) (by omega) hn
  exact ⟨right_norm (k + 1) k (by omega) t ht true hr, by omega, hk⟩
end Go.Proofs.YtibfoaahdbdogaaDoor.PDom

/- impl.AllNodes of a tree in normal form: the places of its nodes, in order. -/
namespace Go.Proofs.YtibfoaahdbdogaaDoor.PDom
open Go.RowKit Go.Proofs.YtibfoaahdbdogaaDoorW.PrintWords Go.Proofs.YtibfoaahdbdogaaDoorW.PrintLast Go.Proofs.YtibfoaahdbdogaaDoorW.PrintMore Go.Proofs.YtibfoaahdbdogaaDoor.Dom
set_option linter.unusedVariables false
set_option linter.unusedSimpArgs false

mutual
/-- The places of a tree's nodes, each ahead of those in it. -/
def pathsT (p : List Int) : T → List (List Int)
  | ⟨_, _, _, _, ks⟩ => p :: pathsTL p 0 ks
def pathsTL (p : List Int) (j : Nat) : List T → List (List Int)
  | [] => []
  | k :: ks => pathsT (p ++ [(j : Int)]) k ++ pathsTL p (j + 1) ks
end
theorem pathsT_eq (p : List Int) (t : T) : pathsT p t = p :: pathsTL p 0 t.f4 := by cases t; rfl
theorem kids_norm {root : Bool} {t : T} (h : Norm root t) : kidsT t = t.f4 := by
  obtain ⟨_, _, h1, _⟩ := h
  unfold kidsT
  by_cases hf : flat t
  · rw [if_pos hf]
    rcases h1 with ⟨_, _, _, h4⟩ | ⟨h3, _⟩ | ⟨h0, _⟩
    · exact h4.symm
    · unfold flat at hf; omega
    · unfold flat at hf; omega
  · rw [if_neg hf]
theorem Norm.kid {root : Bool} {t y : T} (h : Norm root t) (hy : y ∈ t.f4) : Norm false y := by
  obtain ⟨_, _, _, hk⟩ := h
  exact hk y hy
theorem told_open {t : T} {i : Nat} {ty a : Int} {d : ByteArray} {at_ : List (ByteArray × ByteArray)} {ks : List RT} (h : TellsT t (.node i ty a d at_ ks)) {root : Bool} (hn : Norm root t) :
    t.f4.length = ks.length ∧ ∀ j (h1 : j < t.f4.length) (h2 : j < ks.length), TellsT t.f4[j] ks[j] := by
  cases h with
  | mk _ _ _ _ ha hl hk =>
    have e := kids_norm hn
    simp only [e] at hl hk
    exact ⟨hl, hk⟩
theorem told_paths (r : RT) : ∀ (t : T) (root : Bool), Norm root t → TellsT t r → (∀ p, r.paths p = pathsT p t) ∧ r.pre.length = countT t := by
  induction r using RT.induct with
  | h i ty a d at_ ks ih =>
    intro t root hn ht
    obtain ⟨hl, hk⟩ := told_open ht hn
    have key : ∀ (n j : Nat), ks.length = j + n → (∀ p, RT.pathsL p j (ks.drop j) = pathsTL p j (t.f4.drop j)) ∧ (RT.preL (ks.drop j)).length = countTL (t.f4.drop j) := by
      intro n
      induction n with
      | zero =>
        intro j hj
        rw [List.drop_eq_nil_of_le (by omega), List.drop_eq_nil_of_le (by omega)]
        exact ⟨fun _ => rfl, rfl⟩
      | succ n ihn =>
        intro j hj
        have h1 : j < ks.length := by omega
        have h2 : j < t.f4.length := by omega
        obtain ⟨e1, e2⟩ := ihn (j + 1) (by omega)
        obtain ⟨e3, e4⟩ := ih ks[j] (List.getElem_mem h1) t.f4[j] false (hn.kid (List.getElem_mem h2)) (hk j h2 h1)
        rw [List.drop_eq_getElem_cons h1, List.drop_eq_getElem_cons h2]
        refine ⟨fun p => ?_, ?_⟩
        · simp only [RT.pathsL, pathsTL]
          rw [e1, e3]
        · simp only [RT.preL, countTL, List.length_append]
          rw [e2, e4]
    obtain ⟨e1, e2⟩ := key ks.length 0 (by omega)
    simp only [List.drop_zero] at e1 e2
    refine ⟨fun p => ?_, ?_⟩
    · rw [pathsT_eq]
      simp only [RT.paths]
      rw [e1]
    · rw [countT_eq]
      simp only [RT.pre, List.length_cons]
      omega
/-- How long a place is, and how great its numbers. -/
theorem paths_small (r : RT) : ∀ (p : List Int), ∀ q ∈ r.paths p, q.length + 1 ≤ p.length + r.pre.length ∧ ∀ x ∈ q, x ∈ p ∨ (0 ≤ x ∧ x < r.pre.length) := by
  induction r using RT.induct with
  | h i ty a d at_ ks ih =>
    intro p q hq
    simp only [RT.paths, List.mem_cons] at hq
    have hlen : (RT.node i ty a d at_ ks).pre.length = 1 + (RT.preL ks).length := by simp [RT.pre]; omega
    rw [hlen]
    rcases hq with rfl | hq
    · exact ⟨by omega, fun x hx => .inl hx⟩
    · have key : ∀ (l : List RT), (∀ k ∈ l, k ∈ ks) → ∀ (j : Nat), q ∈ RT.pathsL p j l → (q.length ≤ p.length + (RT.preL l).length) ∧ ∀ x ∈ q, x ∈ p ∨ (0 ≤ x ∧ x < j + (RT.preL l).length) := by
        intro l
        induction l with
        | nil => intro _ j h; simp [RT.pathsL] at h
        | cons k l ihl =>
          intro hk j h
          simp only [RT.pathsL, List.mem_append] at h
          have hpk : 0 < k.pre.length := by cases k; simp [RT.pre]
          simp only [RT.preL, List.length_append]
          rcases h with h | h
          · obtain ⟨h1, h2⟩ := ih k (hk k (by simp)) _ q h
            simp only [List.length_append, List.length_singleton] at h1
            refine ⟨by omega, fun x hx => ?_⟩
            rcases h2 x hx with h3 | h3
            · rcases List.mem_append.1 h3 with h4 | h4
              · exact .inl h4
              · have : x = (j : Int) := by simpa using h4
                exact .inr (by omega)
            · exact .inr (by omega)
          · obtain ⟨h1, h2⟩ := ihl (fun k hk' => hk k (by simp [hk'])) (j + 1) h
            refine ⟨by omega, fun x hx => ?_⟩
            rcases h2 x hx with h3 | h3
            · exact .inl h3
            · exact .inr (by omega)
      obtain ⟨h1, h2⟩ := key ks (fun _ h => h) 0 hq
      exact ⟨by omega, fun x hx => (h2 x hx).imp id (fun h => by omega)⟩
end Go.Proofs.YtibfoaahdbdogaaDoor.PDom

/- impl.AllNodes: its contract. -/
namespace Go.Proofs.YtibfoaahdbdogaaDoor.PDom
open Go.RowKit Go.Proofs.YtibfoaahdbdogaaDoorW.PrintWords Go.Proofs.YtibfoaahdbdogaaDoorW.PrintLast Go.Proofs.YtibfoaahdbdogaaDoorW.PrintMore Go.Proofs.YtibfoaahdbdogaaDoor.Dom
set_option linter.unusedVariables false
set_option linter.unusedSimpArgs false

abbrev kI : Kd (List Int) := Kd.slice 3 (Kd.int .i64)
theorem infoI : (Tryd.prog.info? 70).map (fun i => (i.zero, i.size, i.bytes)) = some (some (.slice none 0 0), 1, 24) := by kernel_rfl
theorem FK_of_R {w : World} {base : Nat} {v : Value} {xs : List Int} (h : (Kd.int .i64).R 3 w base (fun _ => True) v xs) : Kd.FK kI w (fun k => base ≤ k) xs [v] := by
  obtain ⟨_, inner, hown, hr⟩ := h
  have h2 : (Kd.int .i64).R 3 w base (fun k => base ≤ k) v xs := ⟨fun k hk => own_base hown k hk, inner, hown, hr.imp_ (fun _ _ h => h)⟩
  exact Kd.FK_of_M (Kd.M_row h2)
set_option maxHeartbeats 4000000 in
set_option maxRecDepth 100000 in
theorem allnodes_walk (t : T) (hn : Norm true t) (hc : countT t ≤ 300) (ht : Fit t) (w : World) (A3 : Option Addr) (c3 : Nat) (A4 : Option Addr) (c4 : Nat) (h3 : Kd.C k31 w A3 t.f3.length t.f3) (l3 : t.f3.length ≤ c3) (h4 : Kd.C k25 w A4 t.f4.length t.f4) (l4 : t.f4.length ≤ c4) :
    Calls Tryd.prog 22 #[.agg #[.int .i64 t.f0, .string t.f1, .string t.f2, .slice A3 t.f3.length c3, .slice A4 t.f4.length c4]] w fun e w' => ∃ v : Value, e = .returned v ∧ Kd.N kI 70 w' w.heap.size (fun k => w.heap.size ≤ k) v (pathsT [] t) ∧ Below w.heap.size w w' := by
  have HB0 := Aside0.mk (below_alloc (Below.refl w.heap.size w) (Obj.cells #[Value.int IntKind.i64 t.f0, Value.string t.f1, Value.string t.f2, Value.slice A3 t.f3.length c3, Value.slice A4 t.f4.length c4] 25))
  have HM := Aside0.mk (made_calls _ t (Nat.le_refl _) ht _ A3 c3 A4 c4 (Kd.C_below h3 HB0.out) l3 (Kd.C_below h4 HB0.out) l4)
  clear h3 l3 h4 l4
  have HN := Aside0.mk hn
  have HC := Aside0.mk hc
  clear hn hc ht
  go_enter Tryd.func22, Tryd.ntmps22
  go_wp2_with fail
  refine HM.out.mono ?_
  rintro e w1 ⟨b, D, rfl, hm⟩
  have hb1 := below_step HB0.out hm.below
  obtain ⟨i0, hi0⟩ : ∃ i, D b = some i := by
    obtain ⟨_, _, i, h, _⟩ := hm.tree
    exact ⟨i, h⟩
  obtain ⟨r, rfl, hr, hto⟩ := hm.tree.rt hm.dom.wf i0 hi0
  have hroot := hm.root i0 hi0
  rw [hroot] at hr
  obtain ⟨hpa, hpl⟩ := told_paths r t true HN.out hto
  have hall := Is.paths (root := r.id) r none [] hr (PathTo.root _ hr.root (by cases r; rfl))
  rw [hpa] at hall
  have hsm := paths_small r []
  rw [hpa, hpl] at hsm
  have HD := Aside0.mk hm.dom
  have HA := Aside0.mk (all_calls w1 D hm.dom none r hr 300 (by omega) (by rw [hpl]; exact HC.out))
  have HB1 := Aside0.mk hb1
  have HS := Aside0.mk hsm
  have HP := Aside0.mk hall
  have HLN := Aside0.mk (show (pathsT [] t).length ≤ 300 by rw [← HP.out.length, hpl]; exact HC.out)
  clear hsm hall hpa hpl hroot hto hr hi0 hm hb1 HM
  generalize r.id = root at *
  generalize r.pre = l at *
  generalize hpe : pathsT [] t = ps at *
  have HPE := Aside0.mk hpe
  clear hpe
  simp only [ptr_some] at HA ⊢
  go_wp2_with (go_at_call 32; go_must (refine HA.out.mono ?_; rintro e w2 ⟨v2, rfl, ho2, hb2⟩; obtain ⟨A2, c2, rfl, hc2, hC2⟩ := Kd.R_reads ho2; have HC2 := Aside0.mk hC2; have HB2 := Aside0.mk hb2; clear hc2 hC2 ho2 hb2))
  have HBN := Aside0.mk (below_step HB1.out HB2.out)
  have HD2 := Aside0.mk (HD.out.below HB2.out)
  clear HA
  have hlp : l.length ≤ 300 := by rw [HP.out.length]; exact HLN.out
  go_loopw [3, 10] (fun vo vi wr => ∃ j : Nat, j ≤ l.length ∧ vi = .int .i64 j ∧ Aside0 (Kd.N kI 70 wr w2.heap.size (fun k => w2.heap.size ≤ k) vo (ps.take j)) ∧ Aside0 (Below w2.heap.size w2 wr)) (fun _ i _ => l.length - (intOf i).toNat)
  case atStart => exact ⟨0, Nat.zero_le _, rfl, ⟨Kd.N_nil _ _ _ _ _⟩, ⟨Below.refl _ _⟩⟩
  case round =>
    obtain ⟨j, hj, rfl, HO, HB⟩ := hrel
    by_cases hlt : j < l.length
    · obtain ⟨ad, c, rfl, hcl, hK, hcc⟩ := Kd.C_get (Kd.C_below HC2.out HB.out) 0 (j : Int) (by omega) (by omega)
      have hx := hcc 0 (ptr (some (l.getD j 0))) (by rw [hK]; rfl)
      have hsz1 : kP.sz = 1 := rfl
      have he : l.getD j 0 = l[j] := by simp [List.getD_eq_getElem?_getD, List.getElem?_eq_getElem hlt]
      have hjp : j < ps.length := by rw [← HP.out.length]; exact hlt
      rw [he] at hx
      simp only [Int.toNat_natCast, hsz1, Nat.mul_one, Nat.add_zero] at hx
      have hpa := HP.out.get j hlt hjp
      have hq := HS.out ps[j] (List.getElem_mem hjp)
      have hcn := HC.out
      have hps : ps.take (j + 1) = ps.take j ++ [ps[j]] := List.take_succ_eq_append_getElem hjp
      have hlen : (ps.take j).length ≤ 300 := by rw [List.length_take]; omega
      generalize l[j] = x at *
      generalize ps[j] = q at *
      have HPC := Aside0.mk (path_calls wr D root x q (HD2.out.below HB.out) hpa (by have := hq.1; simp at this; omega) (fun y hy => by rcases hq.2 y hy with h | h; cases h; omega))
      have HPS := Aside0.mk hps
      have hlo := Kd.N_lt HO.out
      have HOL := Aside0.mk hlo
      have HSZ := Aside0.mk (show w2.heap.size ≤ wr.heap.size from HB.out.size)
      clear he hcl hK hcc hsz1 hpa hq hps hlo hcn hjp
      simp only [ptr_some] at hx HPC
      go_wp2_with fail
      refine HPC.out.mono ?_
      rintro e w3 ⟨v0, rfl, hR, hB⟩
      have HO1 := Aside0.mk (Kd.N_below HO.out hB)
      have HB3 := Aside0.mk (below_step HB.out hB)
      obtain ⟨A5, c5, rfl, _, _⟩ := Kd.R_reads hR
      have HF := Aside0.mk (FK_of_R hR)
      clear hR hB
      go_wp2_with ((with_reducible refine gate_builtin (b := .append) (xs := #[.tmp 14, .tmp 17]) rfl ?_); at_builtin; go_must (refine Kd.N_append kI (w0 := w2) w2.heap.size rfl (.tmp 14) (.tmp 17) 44 70 (.slice none 0 0) 24 rfl Tryd.underlying44 infoI rfl (by decide) (by omega) u3 (ps.take j) q [.slice A5 q.length c5] (fun k => w2.heap.size ≤ k) (fun k => wr.heap.size ≤ k) rfl (by go_simp) HF.out (fun k hk => ⟨Nat.le_trans HSZ.out hk, fun e => by have := HOL.out k e.symm; omega⟩) (fun k hk => Nat.le_trans HB3.out.size hk) HO1.out HB3.out HB3.out.size (by omega) ?_))
      intro v1 w4 ho hb hg hat
      have HO2 := Aside0.mk (show Kd.N kI 70 w4 w2.heap.size (fun k => w2.heap.size ≤ k) v1 (ps.take (j + 1)) by rw [HPS.out]; exact ho)
      have HB4 := Aside0.mk hb
      clear ho hb hg hat
      go_wp2
      go_roundw
      case rel => exact ⟨j + 1, by omega, by go_num, HO2, HB4⟩
      case measure => simp [intOf]; omega
    · have hje : j = l.length := by omega
      subst hje
      have hO := HO.out
      rw [List.take_of_length_le (by rw [← HP.out.length]; exact Nat.le_refl _)] at hO
      go_wp2
      go_ret
      exact ⟨_, rfl, by rw [HPE.out]; exact Kd.N_mono (Kd.N_lower hO HBN.out.size) (fun k hk => Nat.le_trans HBN.out.size hk), below_step HBN.out HB.out⟩

def impl_AllNodes.f (k : Nat) (a0_0 : Int) (a0_1 : ByteArray) (a0_2 : ByteArray) (l0_3 : List (S31)) (l0_4 : List (S25)) : Option (List (List Int)) :=
  (laws_tree29.f k a0_0 a0_1 a0_2 l0_3 l0_4).bind fun b => if b = true then (if fitB k ⟨a0_0, a0_1, a0_2, l0_3, l0_4⟩ = true then some (pathsT [] ⟨a0_0, a0_1, a0_2, l0_3, l0_4⟩) else none) else none
theorem impl_AllNodes.mono : ∀ a0 a1 a2 a3 a4 k, LeO (impl_AllNodes.f k a0 a1 a2 a3 a4) (impl_AllNodes.f (k + 1) a0 a1 a2 a3 a4) := by
  intro a0 a1 a2 a3 a4 k
  unfold impl_AllNodes.f
  refine LeO.bind (laws_tree29.mono _ _ _ _ _ _) (fun b => ?_)
  by_cases hb : b = true
  · rw [if_pos hb, if_pos hb]
    by_cases hf : fitB k ⟨a0, a1, a2, a3, a4⟩ = true
    · rw [if_pos hf, if_pos (fitB_mono _ _ hf)]
      exact LeO.refl _
    · rw [if_neg hf]
      exact LeO.none _
  · rw [if_neg hb]
    exact LeO.none _
theorem impl_AllNodes.calls (k : Nat) (a0_0 : Int) (a0_1 : ByteArray) (a0_2 : ByteArray) (A0_3 : Option Addr) (c0_3 : Nat) (l0_3 : List (S31)) (A0_4 : Option Addr) (c0_4 : Nat) (l0_4 : List (S25)) (r : List (List Int)) (w : World) (hr0_3 : Kd.C k31 w A0_3 l0_3.length l0_3) (hc0_3 : l0_3.length ≤ c0_3) (hr0_4 : Kd.C k25 w A0_4 l0_4.length l0_4) (hc0_4 : l0_4.length ≤ c0_4) (h : impl_AllNodes.f k a0_0 a0_1 a0_2 l0_3 l0_4 = some r) :
    Calls Tryd.prog 22 #[.agg #[.int .i64 a0_0, .string a0_1, .string a0_2, .slice A0_3 l0_3.length c0_3, .slice A0_4 l0_4.length c0_4]] w fun e w' => ∃ v0_ : Value, e = .returned (v0_) ∧ Kd.N (Kd.slice 3 (Kd.int .i64)) 70 w' w.heap.size (fun k_ => w.heap.size ≤ k_) v0_ r ∧ Below w.heap.size w w' := by
  obtain ⟨hb, hfit, hr⟩ : laws_tree29.f k a0_0 a0_1 a0_2 l0_3 l0_4 = some true ∧ fitB k ⟨a0_0, a0_1, a0_2, l0_3, l0_4⟩ = true ∧ pathsT [] ⟨a0_0, a0_1, a0_2, l0_3, l0_4⟩ = r := by
    unfold impl_AllNodes.f at h
    obtain ⟨b, hb, h2⟩ := Option.bind_eq_some_iff.1 h
    split at h2
    case isFalse => cases h2
    rename_i hbt
    subst hbt
    split at h2
    case isFalse => cases h2
    rename_i hf
    exact ⟨hb, hf, Option.some.inj h2⟩
  have ht := fitB_fit _ _ hfit
  obtain ⟨hn, hc, _⟩ := tree_norm (t := ⟨a0_0, a0_1, a0_2, l0_3, l0_4⟩) ht hb
  have hw := allnodes_walk ⟨a0_0, a0_1, a0_2, l0_3, l0_4⟩ hn hc ht w A0_3 c0_3 A0_4 c0_4 hr0_3 hc0_3 hr0_4 hc0_4
  rw [hr] at hw
  exact hw
end Go.Proofs.YtibfoaahdbdogaaDoor.PDom

/- Of Paths29 what needs no Walk29. -/
namespace Go.Proofs.YtibfoaahdbdogaaDoor.PDom
open Go.RowKit Go.Proofs.YtibfoaahdbdogaaDoorW.PrintWords Go.Proofs.YtibfoaahdbdogaaDoorW.PrintLast Go.Proofs.YtibfoaahdbdogaaDoorW.PrintMore Go.Proofs.YtibfoaahdbdogaaDoor.Dom
set_option linter.unusedVariables false
set_option linter.unusedSimpArgs false

mutual
theorem pathsT_len (p : List Int) : ∀ t : T, (pathsT p t).length = countT t
  | ⟨_, _, _, _, ks⟩ => by
    simp only [pathsT, countT, List.length_cons]
    have := pathsTL_len p 0 ks
    omega
theorem pathsTL_len (p : List Int) (j : Nat) : ∀ l : List T, (pathsTL p j l).length = countTL l
  | [] => rfl
  | k :: ks => by
    simp only [pathsTL, countTL, List.length_append]
    rw [pathsT_len, pathsTL_len]
end
theorem fits2_ev (t : T) (ht : Fit t) : ∃ b, Ev (fun k => laws_zzFits2.f k t.f0 t.f1 t.f2 t.f3 t.f4) b := by
  obtain ⟨_, ha, _, _⟩ := ht
  obtain ⟨b, hb⟩ := fits2_tot t.f0 t.f1 t.f2 t.f3 t.f4 (by omega) (t.f3.length + 1) (by omega)
  exact ⟨b, Ev.of (fun k => laws_zzFits2.mono _ _ _ _ _ k) hb⟩
theorem tree_ev (t : T) (ht : FitS t) : ∃ b, Ev (fun k => laws_tree29.f k t.f0 t.f1 t.f2 t.f3 t.f4) b := by
  obtain ⟨k, b, hb⟩ := tree_tot ht
  exact ⟨b, Ev.of (fun k => laws_tree29.mono _ _ _ _ _ k) hb⟩
theorem fitB_ev (t : T) (ht : Fit t) : ∃ K, ∀ k, K ≤ k → fitB k ⟨t.f0, t.f1, t.f2, t.f3, t.f4⟩ = true := by
  obtain ⟨n, h⟩ := fit_fitB ht
  exact ⟨n, fun k hk => by have := fitB_le hk h; cases t; exact this⟩
end Go.Proofs.YtibfoaahdbdogaaDoor.PDom

/- Printed by the program extprint.py of this session, out of the kit's print and contracts of this session's own; Lean checks it. -/
namespace Go.Proofs.YtibfoaahdbdogaaDoor.PDom
open Go.RowKit Go.Proofs.YtibfoaahdbdogaaDoorW.PrintWords Go.Proofs.YtibfoaahdbdogaaDoorW.PrintLast Go.Proofs.YtibfoaahdbdogaaDoorW.PrintMore
attribute [local go_sem] max2_int min2_int max_two min_two max_three min_three max_four min_four   -- for this text's walks alone
set_option linter.unusedVariables false
set_option linter.unusedSimpArgs false


end Go.Proofs.YtibfoaahdbdogaaDoor.PDom

/- dom.collectText over a tree's table: the text lands in a bytes.Buffer (the shelf's contracts). -/
namespace Go.Proofs.YtibfoaahdbdogaaDoor.Dom
open Go.RowKit Go.Proofs.YtibfoaahdbdogaaDoorW.PrintWords Go.Proofs.YtibfoaahdbdogaaDoorW.PrintLast Go.Proofs.YtibfoaahdbdogaaDoorW.PrintMore
set_option linter.unusedVariables false
set_option linter.unusedSimpArgs false

mutual
def RT.txt : RT → List UInt8
  | .node _ t _ d _ ks => (if t = 1 then d.data.toList else []) ++ RT.txtL ks
def RT.txtL : List RT → List UInt8
  | [] => []
  | k :: ks => k.txt ++ RT.txtL ks
end
theorem RT.txtL_append (l m : List RT) : RT.txtL (l ++ m) = RT.txtL l ++ RT.txtL m := by
  induction l with
  | nil => rfl
  | cons x l ih =>
    show x.txt ++ RT.txtL (l ++ m) = (x.txt ++ RT.txtL l) ++ RT.txtL m
    rw [ih, List.append_assoc]
/-- The buffer holds acc; what was there ahead of it is as it was. -/
structure BufI (w0 : World) (b : Nat) (w : World) (acc : List UInt8) : Prop where
  buf : Lib.IsBuffer 54 5 w0.heap.size b (Lib.byteCells acc) w
  below : Below w0.heap.size w0 w
theorem bytes_one (l : List UInt8) : ∀ v ∈ Lib.byteCells l, v.oneCell' = true := by
  intro v hv
  obtain ⟨n, _, rfl⟩ := List.mem_map.1 hv
  rfl
theorem bytes_len (l : List UInt8) : (Lib.byteCells l).length = l.length := by simp [Lib.byteCells]
theorem bytes_app (l m : List UInt8) : Lib.byteCells (l ++ m) = Lib.byteCells l ++ Lib.byteCells m := by simp [Lib.byteCells]
theorem write_calls (w0 : World) (b : Nat) (acc : List UInt8) (s : ByteArray) (w : World) (h : BufI w0 b w acc) (hl : acc.length + s.size ≤ 1099511627776) :
    Calls Tryd.prog 36 #[.pointer (some ⟨b, 0, none⟩), .string s] w fun e w' => (∃ v, e = .returned v) ∧ BufI w0 b w' (acc ++ s.data.toList) := by
  refine (Tryd.Buffer_WriteString_kept w0.heap.size b _ s w h.buf h.below.size (bytes_one acc) (by rw [bytes_len]; omega)).mono ?_
  rintro e w' ⟨rfl, h1, h2, _⟩
  exact ⟨⟨_, rfl⟩, by rw [bytes_app]; exact h1, h.below.trans h2⟩
set_option maxRecDepth 100000 in
theorem collect_calls (w0 : World) (D : Tab) (hdom : Dom w0 D) (b : Nat) (r : RT) : ∀ (p : Option Nat) (hr : Is D p r) (w : World) (acc : List UInt8) (h : BufI w0 b w acc) (hl : acc.length + r.txt.length ≤ 1099511627776),
    Calls Tryd.prog 27 #[ptr (some r.id), .pointer (some ⟨b, 0, none⟩)] w fun e w' => e = .returned (.tuple #[]) ∧ BufI w0 b w' (acc ++ r.txt) := by
  induction r using RT.induct with
  | h i t a d at_ ks ih =>
    intro p hr w acc h hl
    have IH := Aside0.mk ih
    clear ih
    have HR := Aside0.mk hr
    have HD := Aside0.mk hdom
    have HL := Aside0.mk hl
    have HB := Aside0.mk h
    have hd2 := hdom.below h.below
    obtain ⟨v, hv, _⟩ := hd2.has hr.root
    have c5 : w.cell? ⟨i, 5, none⟩ = some (.int .u32 t) := hv.cell 5
    have c7 : w.cell? ⟨i, 7, none⟩ = some (.string d) := hv.cell 7
    clear hr hl h hd2 hv hdom
    show Calls _ _ #[ptr (some i), _] _ _
    unfold ptr
    go_enter Tryd.func27, Tryd.ntmps27
    by_cases ht : t = 1
    · subst ht
      have HTX := Aside0.mk (show (RT.node i 1 a d at_ ks).txt = d.data.toList ++ RT.txtL ks by rw [RT.txt, if_pos rfl])
      rw [HTX.out, List.length_append] at HL
      have hds : d.data.toList.length = d.size := by rw [Array.length_toList]; rfl
      have HW := Aside0.mk (write_calls w0 b acc d w HB.out (by have := HL.out; omega))
      have HFI := Aside0.mk (fun (wx : World) (hb : Below w0.heap.size w0 wx) => Is.first (HD.out.below hb) HR.out)
      replace HFI : Aside0 (∀ wx, Below w0.heap.size w0 wx → wx.cell? ⟨i, 1, none⟩ = some (ptr (ks[0]?.map RT.id))) := HFI
      have HL2 := Aside0.mk (show acc.length + d.data.toList.length + (RT.txtL ks).length ≤ 1099511627776 by have := HL.out; omega)
      clear HL
      have HL : Aside0 ((acc ++ d.data.toList).length + (RT.txtL ks).length ≤ 1099511627776) := ⟨by rw [List.length_append]; exact HL2.out⟩
      clear HL2 hds
      go_wp2_with (go_at_call 36; go_must (refine HW.out.mono ?_; rintro e w1 ⟨⟨u, rfl⟩, hb⟩; clear HB c5 c7; have HB := Aside0.mk hb; have c1 := HFI.out w1 hb.below; clear hb))
      go_loopg [4] ks.length (fun n vc wr => ∃ j, n = ks.length - j ∧ j ≤ ks.length ∧ vc = ptr (ks[j]?.map RT.id) ∧ Aside0 (BufI w0 b wr ((acc ++ d.data.toList) ++ RT.txtL (ks.take j))))
      case atStart => exact ⟨0, rfl, Nat.zero_le _, rfl, ⟨by simpa [RT.txtL] using HB.out⟩⟩
      case round =>
        obtain ⟨j, rfl, hj, rfl, HI⟩ := hrel
        by_cases hlt : j < ks.length
        · rw [List.getElem?_eq_getElem hlt]
          have hkm := Aside0.mk (List.getElem_mem hlt)
          have HNX := Aside0.mk (fun (wx : World) (hb : Below w0.heap.size w0 wx) => Is.next (HD.out.below hb) HR.out (j := j) hlt)
          have HPL := Aside0.mk (show RT.txtL (ks.take (j + 1)) = RT.txtL (ks.take j) ++ ks[j].txt by rw [List.take_succ_eq_append_getElem hlt, RT.txtL_append]; simp [RT.txtL])
          have hlen : ((acc ++ d.data.toList) ++ RT.txtL (ks.take j)).length + ks[j].txt.length ≤ 1099511627776 := by
            have h1 := HL.out
            have h2 : RT.txtL ks = RT.txtL (ks.take (j + 1)) ++ RT.txtL (ks.drop (j + 1)) := by rw [← RT.txtL_append, List.take_append_drop]
            have h3 := congrArg List.length h2
            rw [HPL.out] at h3
            simp only [List.length_append] at h1 h3 ⊢
            omega
          have HC := Aside0.mk (IH.out ks[j] hkm.out (some i) (HR.out.kid hkm.out) wr _ HI.out hlen)
          clear hlen
          simp only [Option.map_some, ptr_some] at HC ⊢
          replace HNX : Aside0 (∀ wx, Below w0.heap.size w0 wx → wx.cell? ⟨ks[j].id, 4, none⟩ = some (ptr (ks[j + 1]?.map RT.id))) := HNX
          generalize ks[j].id = x at *
          go_wp2_with (go_at_call 27; go_must (refine HC.out.mono ?_; rintro e w2 ⟨rfl, hi2⟩; have HI2 := Aside0.mk hi2; have nx2 := HNX.out w2 hi2.below; clear hi2))
          go_roundg (ks.length - (j + 1))
          case rel => exact ⟨j + 1, rfl, by omega, rfl, ⟨by rw [HPL.out, ← List.append_assoc]; exact HI2.out⟩⟩
          case measure => omega
        · have hje : j = ks.length := by omega
          subst hje
          rw [List.getElem?_eq_none (Nat.le_refl _)]
          simp only [Option.map_none, ptr_none]
          go_wp2_with fail
          go_end0
          refine ⟨rfl, ?_⟩
          have := HI.out
          rw [List.take_length] at this
          rw [HTX.out, ← List.append_assoc]
          exact this
    · have HTX := Aside0.mk (show (RT.node i t a d at_ ks).txt = RT.txtL ks by rw [RT.txt, if_neg ht]; rfl)
      rw [HTX.out] at HL
      have htb : (t == 1) = false := beq_eq_false_iff_ne.2 ht
      have c1 : w.cell? ⟨i, 1, none⟩ = some (ptr (ks[0]?.map RT.id)) := Is.first (HD.out.below HB.out.below) HR.out
      go_wp2_with fail
      go_loopg [4] ks.length (fun n vc wr => ∃ j, n = ks.length - j ∧ j ≤ ks.length ∧ vc = ptr (ks[j]?.map RT.id) ∧ Aside0 (BufI w0 b wr (acc ++ RT.txtL (ks.take j))))
      case atStart => exact ⟨0, rfl, Nat.zero_le _, rfl, ⟨by simpa [RT.txtL] using HB.out⟩⟩
      case round =>
        obtain ⟨j, rfl, hj, rfl, HI⟩ := hrel
        by_cases hlt : j < ks.length
        · rw [List.getElem?_eq_getElem hlt]
          have hkm := Aside0.mk (List.getElem_mem hlt)
          have HNX := Aside0.mk (fun (wx : World) (hb : Below w0.heap.size w0 wx) => Is.next (HD.out.below hb) HR.out (j := j) hlt)
          have HPL := Aside0.mk (show RT.txtL (ks.take (j + 1)) = RT.txtL (ks.take j) ++ ks[j].txt by rw [List.take_succ_eq_append_getElem hlt, RT.txtL_append]; simp [RT.txtL])
          have hlen : (acc ++ RT.txtL (ks.take j)).length + ks[j].txt.length ≤ 1099511627776 := by
            have h1 := HL.out
            have h2 : RT.txtL ks = RT.txtL (ks.take (j + 1)) ++ RT.txtL (ks.drop (j + 1)) := by rw [← RT.txtL_append, List.take_append_drop]
            have h3 := congrArg List.length h2
            rw [HPL.out] at h3
            simp only [List.length_append] at h1 h3 ⊢
            omega
          have HC := Aside0.mk (IH.out ks[j] hkm.out (some i) (HR.out.kid hkm.out) wr _ HI.out hlen)
          clear hlen
          simp only [Option.map_some, ptr_some] at HC ⊢
          replace HNX : Aside0 (∀ wx, Below w0.heap.size w0 wx → wx.cell? ⟨ks[j].id, 4, none⟩ = some (ptr (ks[j + 1]?.map RT.id))) := HNX
          generalize ks[j].id = x at *
          go_wp2_with (go_at_call 27; go_must (refine HC.out.mono ?_; rintro e w2 ⟨rfl, hi2⟩; have HI2 := Aside0.mk hi2; have nx2 := HNX.out w2 hi2.below; clear hi2))
          go_roundg (ks.length - (j + 1))
          case rel => exact ⟨j + 1, rfl, by omega, rfl, ⟨by rw [HPL.out, ← List.append_assoc]; exact HI2.out⟩⟩
          case measure => omega
        · have hje : j = ks.length := by omega
          subst hje
          rw [List.getElem?_eq_none (Nat.le_refl _)]
          simp only [Option.map_none, ptr_none]
          go_wp2_with fail
          go_end0
          refine ⟨rfl, ?_⟩
          have := HI.out
          rw [List.take_length] at this
          rw [HTX.out]
          exact this
end Go.Proofs.YtibfoaahdbdogaaDoor.Dom

/- dom.CollectText. -/
namespace Go.Proofs.YtibfoaahdbdogaaDoor.Dom
open Go.RowKit Go.Proofs.YtibfoaahdbdogaaDoorW.PrintWords Go.Proofs.YtibfoaahdbdogaaDoorW.PrintLast Go.Proofs.YtibfoaahdbdogaaDoorW.PrintMore
set_option linter.unusedVariables false
set_option linter.unusedSimpArgs false

theorem text_calls (w : World) (D : Tab) (hdom : Dom w D) (p : Option Nat) (r : RT) (hr : Is D p r) (hl : r.txt.length ≤ 1099511627776) :
    Calls Tryd.prog 17 #[ptr (some r.id)] w fun e w' => e = .returned (.string ⟨r.txt.toArray⟩) ∧ Below w.heap.size w w' := by
  have HC := Aside0.mk (fun (wx : World) (h : BufI w w.heap.size wx []) => collect_calls w D hdom w.heap.size r p hr wx [] h (by simpa using hl))
  unfold ptr at HC ⊢
  clear hdom hr hl
  go_enter Tryd.func17, Tryd.ntmps17
  go_wp2_with fail
  refine (HC.out _ ⟨Lib.fresh_isBuffer _ _ _, below_alloc (Below.refl _ _) _⟩).mono ?_
  rintro e w1 ⟨rfl, hb⟩
  have HB := Aside0.mk hb
  clear hb
  go_wp2_with fail
  refine (Tryd.Buffer_String _ _ _ _ HB.out.buf).mono ?_
  rintro e w2 ⟨rfl, nd, rfl⟩
  go_wp2
  go_ret
  exact ⟨by simp, pw_below_drewN HB.out.below nd⟩
end Go.Proofs.YtibfoaahdbdogaaDoor.Dom

/- Plain facts on texts as lists of numbers: joined, cut, read back. No conditions. -/
namespace Go.Proofs.YtibfoaahdbdogaaDoor.Txt
open Go.RowKit Go.Proofs.YtibfoaahdbdogaaDoorW.PrintWords Go.Proofs.YtibfoaahdbdogaaDoorW.PrintLast Go.Proofs.YtibfoaahdbdogaaDoorW.PrintMore

/-- All numbers are bytes. -/
def Byt (l : List Int) : Prop := ∀ x ∈ l, 0 ≤ x ∧ x < 256
theorem Byt.nil : Byt [] := fun _ h => by cases h
theorem Byt.app {a b : List Int} (h : Byt a) (k : Byt b) : Byt (a ++ b) := fun x hx => by
  rcases List.mem_append.1 hx with h1 | h1
  · exact h x h1
  · exact k x h1
theorem Byt.one {x : Int} (h0 : 0 ≤ x) (h1 : x < 256) : Byt [x] := fun y hy => by
  obtain rfl : y = x := by simpa using hy
  exact ⟨h0, h1⟩
theorem Byt.cons {x : Int} {l : List Int} (h0 : 0 ≤ x) (h1 : x < 256) (h : Byt l) : Byt (x :: l) := (Byt.one h0 h1).app h
theorem Byt.take {l : List Int} (h : Byt l) (n : Nat) : Byt (l.take n) := fun x hx => h x (List.mem_of_mem_take hx)
theorem Byt.drop {l : List Int} (h : Byt l) (n : Nat) : Byt (l.drop n) := fun x hx => h x (List.mem_of_mem_drop hx)
theorem Byt.of (s : ByteArray) : Byt (bytesOf s) := fun x hx => by
  obtain ⟨b, _, rfl⟩ := List.mem_map.1 hx
  have := b.toNat_lt
  omega
theorem wrap_id {x : Int} (h0 : -9223372036854775808 ≤ x) (h1 : x ≤ 9223372036854775807) : wrap64 x = x := by
  unfold wrap64
  omega
end Go.Proofs.YtibfoaahdbdogaaDoor.Txt

/- impl.TextOf of a tree. -/
namespace Go.Proofs.YtibfoaahdbdogaaDoor.PDom
open Go.RowKit Go.Proofs.YtibfoaahdbdogaaDoorW.PrintWords Go.Proofs.YtibfoaahdbdogaaDoorW.PrintLast Go.Proofs.YtibfoaahdbdogaaDoorW.PrintMore Go.Proofs.YtibfoaahdbdogaaDoor.Dom Go.Proofs.YtibfoaahdbdogaaDoor.Txt
set_option linter.unusedVariables false
set_option linter.unusedSimpArgs false

mutual
/-- The text of a tree. -/
def txtT : T → List UInt8
  | ⟨k, _, x, _, ks⟩ => if k = 1 then x.data.toList else txtTL ks
def txtTL : List T → List UInt8
  | [] => []
  | k :: ks => txtT k ++ txtTL ks
end
theorem txtT_eq (t : T) : txtT t = if t.f0 = 1 then t.f2.data.toList else txtTL t.f4 := by cases t; rfl
theorem txtL_eq : ∀ (l : List T) (ks : List RT), l.length = ks.length → (∀ j (h1 : j < l.length) (h2 : j < ks.length), ks[j].txt = txtT l[j]) → RT.txtL ks = txtTL l
  | [], [], _, _ => rfl
  | [], _ :: _, h, _ => by cases h
  | _ :: _, [], h, _ => by cases h
  | x :: l, k :: ks, h, hj => by
    show k.txt ++ RT.txtL ks = txtT x ++ txtTL l
    rw [txtL_eq l ks (by simpa using h) (fun j h1 h2 => by have := hj (j + 1) (by simpa using h1) (by simpa using h2); simpa using this)]
    have := hj 0 (by simp) (by simp)
    simp only [List.getElem_cons_zero] at this
    rw [this]
theorem tells_txt {t : T} {r : RT} (h : TellsT t r) : ∀ root, Norm root t → r.txt = txtT t := by
  induction h with
  | mk t i a ks ha hl hk ih =>
    intro root hn
    obtain ⟨_, _, hok, hkn⟩ := hn
    rw [RT.txt, txtT_eq]
    rcases hok with ⟨hf, _, _, h4⟩ | ⟨hf, _, _, _, _⟩ | ⟨hf, _⟩
    · have hfl : flat t := hf
      have hk0 : ks = [] := by
        have : (kidsT t).length = 0 := by unfold kidsT; rw [if_pos hfl]; rfl
        exact List.eq_nil_of_length_eq_zero (by omega)
      subst hk0
      rcases hf with h1 | h2
      · have hd : dataOf t = t.f2 := by unfold dataOf; rw [if_neg (by omega), if_pos hfl]
        have ht : tyOf t.f0 = 1 := by rw [h1]; rfl
        rw [if_pos ht, if_pos h1, hd]
        show _ ++ [] = _
        rw [List.append_nil]
      · have ht : ¬ tyOf t.f0 = 1 := by rw [h2]; decide
        rw [if_neg ht, if_neg (by omega), h4]
        rfl
    · have ht : ¬ tyOf t.f0 = 1 := by rw [hf]; decide
      have hnf : ¬ flat t := fun h => by rcases h with h | h <;> omega
      have hks : kidsT t = t.f4 := by unfold kidsT; rw [if_neg hnf]
      rw [if_neg ht, if_neg (by omega), List.nil_append]
      refine txtL_eq t.f4 ks (by rw [← hks]; exact hl) (fun j h1 h2 => ?_)
      have h3 := ih j (by rw [hks]; exact h1) h2 false (by simp only [hks]; exact hkn _ (List.getElem_mem h1))
      simpa only [hks] using h3
    · have ht : ¬ tyOf t.f0 = 1 := by rw [hf]; decide
      have hnf : ¬ flat t := fun h => by rcases h with h | h <;> omega
      have hks : kidsT t = t.f4 := by unfold kidsT; rw [if_neg hnf]
      rw [if_neg ht, if_neg (by omega), List.nil_append]
      refine txtL_eq t.f4 ks (by rw [← hks]; exact hl) (fun j h1 h2 => ?_)
      have h3 := ih j (by rw [hks]; exact h1) h2 false (by simp only [hks]; exact hkn _ (List.getElem_mem h1))
      simpa only [hks] using h3
def gateT (k : Nat) (t : T) : Option Unit := (laws_tree29.f k t.f0 t.f1 t.f2 t.f3 t.f4).bind fun b => if b = true then (if fitB k t = true then (if (txtT t).length ≤ 1099511627776 then some () else none) else none) else none
theorem gateT_mono (k : Nat) (t : T) : LeO (gateT k t) (gateT (k + 1) t) := by
  unfold gateT
  refine LeO.bind (laws_tree29.mono _ _ _ _ _ _) (fun b => ?_)
  by_cases hb : b = true
  · rw [if_pos hb, if_pos hb]
    by_cases hf : fitB k t = true
    · rw [if_pos hf, if_pos (fitB_mono _ _ hf)]
      exact LeO.refl _
    · rw [if_neg hf]
      exact LeO.none _
  · rw [if_neg hb]
    exact LeO.none _
theorem gateT_some {k : Nat} {t : T} {u : Unit} (h : gateT k t = some u) : laws_tree29.f k t.f0 t.f1 t.f2 t.f3 t.f4 = some true ∧ fitB k t = true ∧ (txtT t).length ≤ 1099511627776 := by
  unfold gateT at h
  obtain ⟨b, hb, h2⟩ := Option.bind_eq_some_iff.1 h
  split at h2
  case isFalse => cases h2
  rename_i hbt
  subst hbt
  split at h2
  case isFalse => cases h2
  rename_i hf
  split at h2
  case isFalse => cases h2
  rename_i hc
  exact ⟨hb, hf, hc⟩
def impl_TextOf.f (k : Nat) (a0_0 : Int) (a0_1 : ByteArray) (a0_2 : ByteArray) (l0_3 : List (S31)) (l0_4 : List (S25)) : Option ByteArray := (gateT k ⟨a0_0, a0_1, a0_2, l0_3, l0_4⟩).bind fun _ => some ⟨(txtT ⟨a0_0, a0_1, a0_2, l0_3, l0_4⟩).toArray⟩
theorem impl_TextOf.mono : ∀ a0 a1 a2 a3 a4 k, LeO (impl_TextOf.f k a0 a1 a2 a3 a4) (impl_TextOf.f (k + 1) a0 a1 a2 a3 a4) := fun _ _ _ _ _ _ => LeO.bind (gateT_mono _ _) (fun _ => LeO.refl _)
theorem impl_TextOf.calls (k : Nat) (a0_0 : Int) (a0_1 : ByteArray) (a0_2 : ByteArray) (A0_3 : Option Addr) (c0_3 : Nat) (l0_3 : List (S31)) (A0_4 : Option Addr) (c0_4 : Nat) (l0_4 : List (S25)) (r : ByteArray) (w : World) (hr0_3 : Kd.C k31 w A0_3 l0_3.length l0_3) (hc0_3 : l0_3.length ≤ c0_3) (hr0_4 : Kd.C k25 w A0_4 l0_4.length l0_4) (hc0_4 : l0_4.length ≤ c0_4) (h : impl_TextOf.f k a0_0 a0_1 a0_2 l0_3 l0_4 = some r) :
    Calls Tryd.prog 7 #[.agg #[.int .i64 a0_0, .string a0_1, .string a0_2, .slice A0_3 l0_3.length c0_3, .slice A0_4 l0_4.length c0_4]] w fun e w' => e = .returned (.string r) ∧ Below w.heap.size w w' := by
  obtain ⟨u, hu, h2⟩ := Option.bind_eq_some_iff.1 h
  obtain rfl := Option.some.inj h2
  obtain ⟨htree, hfit, hlen⟩ := gateT_some hu
  obtain ⟨hn, _, _⟩ := tree_norm (fitB_fit _ _ hfit) htree
  have HN := Aside0.mk hn
  have HLN := Aside0.mk hlen
  have HB0 := Aside0.mk (below_alloc (Below.refl w.heap.size w) (Obj.cells #[Value.int IntKind.i64 a0_0, Value.string a0_1, Value.string a0_2, Value.slice A0_3 l0_3.length c0_3, Value.slice A0_4 l0_4.length c0_4] 25))
  have HM := Aside0.mk (made_calls _ ⟨a0_0, a0_1, a0_2, l0_3, l0_4⟩ (Nat.le_refl _) (fitB_fit _ _ hfit) _ A0_3 c0_3 A0_4 c0_4 (Kd.C_below hr0_3 HB0.out) hc0_3 (Kd.C_below hr0_4 HB0.out) hc0_4)
  clear h hfit hr0_3 hc0_3 hr0_4 hc0_4 hu h2 hlen hn htree
  go_enter Tryd.func7, Tryd.ntmps7
  go_wp2_with fail
  refine HM.out.mono ?_
  rintro e w1 ⟨b, D, rfl, hm⟩
  obtain ⟨i, hi⟩ : ∃ i, D b = some i := by obtain ⟨_, _, i, hi, _⟩ := hm.tree; exact ⟨i, hi⟩
  obtain ⟨rt, hid, hIs, hT⟩ := hm.tree.rt hm.dom.wf i hi
  have htx := tells_txt hT true HN.out
  have HB := Aside0.mk (below_step HB0.out hm.below)
  have HTX := Aside0.mk (text_calls w1 D hm.dom _ rt hIs (by rw [htx]; exact HLN.out))
  rw [htx, hid] at HTX
  clear hm hi hid hIs hT htx HM HN HLN
  generalize hX : txtT ⟨a0_0, a0_1, a0_2, l0_3, l0_4⟩ = X at *
  simp only [ptr] at HTX ⊢
  go_wp2_with fail
  refine HTX.out.mono ?_
  rintro e w2 ⟨rfl, hb2⟩
  have HB2 := Aside0.mk (below_step HB.out hb2)
  clear hb2
  go_wp2
  go_ret
  rw [hX]
  exact ⟨rfl, HB2.out⟩
end Go.Proofs.YtibfoaahdbdogaaDoor.PDom
