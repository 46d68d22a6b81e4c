/- A part of the proof of FnCollapse: EDomx8, StpS, StpL, StpW, StpX, RefP, RefW, one behind the other. -/
import Derived.Test.YtmfjbljdbkmkgaaMFnCollapse2
import Derived.Test.YtmfjbljdbkmkgaaMFnCollapse5
import Derived.Deep.RegionLaw
import Derived.Deep.DeepCutAuto
import Derived.BigRegion
import Derived.Deep.DeepMust
import Derived.Sort.AtCall
/- Printed by the program extprint.py of this session, out of the kit's print and contracts of this session's own; Lean checks it. -/
namespace Go.Proofs.Ytmfjbljdbkmkgaa.PDom
open Go.RowKit Go.Proofs.YtmfjbljdbkmkgaaW.PrintWords Go.Proofs.YtmfjbljdbkmkgaaW.PrintLast Go.Proofs.YtmfjbljdbkmkgaaW.PrintMore
attribute [local go_sem] max2_int min2_int max_two min_two max_three min_three max_four min_four   -- for this text's walks alone
set_option linter.unusedVariables false
set_option linter.unusedSimpArgs false


/-! ### spec_collapsed: function 50 -/
mutual
def spec_collapsed.l0 : Nat → Int → Bool → List ByteArray → List (S100) → Int → Int → Option (List ByteArray)
 | 0, _, _, _, _, _, _ => none
 | k + 1, x5, x6, x7, x15, x16, x17 => if x17 < x16 then (if 0 ≤ x17 then (if x17 < (x15.length : Int) then (if ((rd_T100 x15 x17).f0) = 0 then (if 0 ≤ ((rd_T100 x15 x17).f1) then (if ((rd_T100 x15 x17).f1) < (x7.length : Int) then ((spec_OneSpace.f k (rdOf ByteArray.empty x7 ((rd_T100 x15 x17).f1))).bind fun t316 => (if x5 < 0 then (spec_collapsed.j1 k x5 x6 x7 t316 true x15 x16 x17 ((rd_T100 x15 x17).f0) ((rd_T100 x15 x17).f1)) else (if 0 ≤ x5 then (if x5 < (x7.length : Int) then (if ((rdOf ByteArray.empty x7 x5).size : Int) > 0 then (if 0 ≤ (wrap64 (((rdOf ByteArray.empty x7 x5).size : Int) - 1)) then (if (wrap64 (((rdOf ByteArray.empty x7 x5).size : Int) - 1)) < ((rdOf ByteArray.empty x7 x5).size : Int) then (spec_collapsed.j1 k x5 x6 x7 t316 ((bt (rdOf ByteArray.empty x7 x5) (wrap64 (((rdOf ByteArray.empty x7 x5).size : Int) - 1))) == 32) x15 x16 x17 ((rd_T100 x15 x17).f0) ((rd_T100 x15 x17).f1)) else (none)) else (none)) else (spec_collapsed.j1 k x5 x6 x7 t316 false x15 x16 x17 ((rd_T100 x15 x17).f0) ((rd_T100 x15 x17).f1))) else (none)) else (none)))) else (none)) else (none)) else (if ((rd_T100 x15 x17).f0) = 1 then (if x5 ≥ 0 then (if 0 ≤ x5 then (if x5 < (x7.length : Int) then ((spec_cutBlank.f (rdOf ByteArray.empty x7 x5)).bind fun t323 => (spec_collapsed.l0 k (-1) false (x7.set (x5 : Int).toNat t323) x15 x16 (wrap64 (x17 + 1)))) else (none)) else (none)) else (spec_collapsed.l0 k (-1) false x7 x15 x16 (wrap64 (x17 + 1)))) else (if ((rd_T100 x15 x17).f0) = 2 then (spec_collapsed.l0 k (-1) true x7 x15 x16 (wrap64 (x17 + 1))) else (if x5 ≥ 0 then (spec_collapsed.l0 k x5 false x7 x15 x16 (wrap64 (x17 + 1))) else (spec_collapsed.l0 k x5 x6 x7 x15 x16 (wrap64 (x17 + 1))))))) else (none)) else (none)) else (if x5 ≥ 0 then (if 0 ≤ x5 then (if x5 < (x7.length : Int) then ((spec_cutBlank.f (rdOf ByteArray.empty x7 x5)).bind fun t311 => (some (x7.set (x5 : Int).toNat t311))) else (none)) else (none)) else (some x7))
def spec_collapsed.j1 : Nat → Int → Bool → List ByteArray → ByteArray → Bool → List (S100) → Int → Int → Int → Int → Option (List ByteArray)
 | 0, _, _, _, _, _, _, _, _, _, _ => none
 | k + 1, x5, x6, x7, x10, x11, x15, x16, x17, x315000, x315001 => if x11 = true then (if x6 = true then (spec_collapsed.j2 k x5 x6 x7 x10 x15 x16 x17 false x315000 x315001) else (if (x10.size : Int) > 0 then (if 0 < (x10.size : Int) then (spec_collapsed.j2 k x5 x6 x7 x10 x15 x16 x17 ((bt x10 0) == 32) x315000 x315001) else (none)) else (spec_collapsed.j2 k x5 x6 x7 x10 x15 x16 x17 false x315000 x315001))) else (spec_collapsed.j2 k x5 x6 x7 x10 x15 x16 x17 false x315000 x315001)
def spec_collapsed.j2 : Nat → Int → Bool → List ByteArray → ByteArray → List (S100) → Int → Int → Bool → Int → Int → Option (List ByteArray)
 | 0, _, _, _, _, _, _, _, _, _, _ => none
 | k + 1, x5, x6, x7, x10, x15, x16, x17, x71, x315000, x315001 => if x71 = true then (if 1 ≤ (x10.size : Int) then (if 0 ≤ x315001 then (if x315001 < (x7.length : Int) then ((some (x7.set (x315001 : Int).toNat (x10.extract 1 x10.size) : List ByteArray)).bind fun y320 => (if (x10.extract 1 x10.size).toList = ([] : List UInt8) then (spec_collapsed.l0 k x5 x6 y320 x15 x16 (wrap64 (x17 + 1))) else (spec_collapsed.l0 k x315001 x6 y320 x15 x16 (wrap64 (x17 + 1))))) else (none)) else (none)) else (none)) else (if 0 ≤ x315001 then (if x315001 < (x7.length : Int) then ((some (x7.set (x315001 : Int).toNat x10 : List ByteArray)).bind fun y321 => (if x10.toList = ([] : List UInt8) then (spec_collapsed.l0 k x5 x6 y321 x15 x16 (wrap64 (x17 + 1))) else (spec_collapsed.l0 k x315001 x6 y321 x15 x16 (wrap64 (x17 + 1))))) else (none)) else (none))
end
def spec_collapsed.f (k : Nat) (l0 : List (S100)) (l1 : List ByteArray) : Option (List ByteArray) := (some (([] : List ByteArray) : List ByteArray)).bind fun y304 => (if y304.length + l1.length < 8796093022208 then (spec_collapsed.l0 k (-1) false (y304 ++ l1) l0 (l0.length : Int) 0) else (none))
theorem spec_collapsed.mono_l : ∀ k, (∀ y0 y1 y2 y3 y4 y5, LeO (spec_collapsed.l0 k y0 y1 y2 y3 y4 y5) (spec_collapsed.l0 (k + 1) y0 y1 y2 y3 y4 y5)) ∧ (∀ y0 y1 y2 y3 y4 y5 y6 y7 y8 y9, LeO (spec_collapsed.j1 k y0 y1 y2 y3 y4 y5 y6 y7 y8 y9) (spec_collapsed.j1 (k + 1) y0 y1 y2 y3 y4 y5 y6 y7 y8 y9)) ∧ (∀ y0 y1 y2 y3 y4 y5 y6 y7 y8 y9, LeO (spec_collapsed.j2 k y0 y1 y2 y3 y4 y5 y6 y7 y8 y9) (spec_collapsed.j2 (k + 1) y0 y1 y2 y3 y4 y5 y6 y7 y8 y9))
 | 0 => ⟨fun _ _ _ _ _ _ r h => by simp [spec_collapsed.l0] at h, fun _ _ _ _ _ _ _ _ _ _ r h => by simp [spec_collapsed.j1] at h, fun _ _ _ _ _ _ _ _ _ _ r h => by simp [spec_collapsed.j2] at h⟩
 | k + 1 => by
  obtain ⟨ih0, ih1, ih2⟩ := spec_collapsed.mono_l k
  refine ⟨?_, ?_, ?_⟩
  ·intro y0 y1 y2 y3 y4 y5
   unfold spec_collapsed.l0
   repeat' first
   | (with_reducible exact ih0 _ _ _ _ _ _)
   | (with_reducible exact ih1 _ _ _ _ _ _ _ _ _ _)
   | (with_reducible exact ih2 _ _ _ _ _ _ _ _ _ _)
   | (with_reducible exact spec_OneSpace.mono _ _)
   | (with_reducible exact LeO.refl _)
   | (with_reducible exact LeO.none _)
   | (with_reducible refine LeO.ite ?_ ?_)
   | (with_reducible refine LeO.bind ?_ (fun _ => ?_))
   | exact ih0 _ _ _ _ _ _
   | exact ih1 _ _ _ _ _ _ _ _ _ _
   | exact ih2 _ _ _ _ _ _ _ _ _ _
   | exact spec_OneSpace.mono _ _
   | exact LeO.none _
   | refine LeO.ite ?_ ?_
   | refine LeO.bind ?_ (fun _ => ?_)
  ·intro y0 y1 y2 y3 y4 y5 y6 y7 y8 y9
   unfold spec_collapsed.j1
   repeat' first
   | (with_reducible exact ih0 _ _ _ _ _ _)
   | (with_reducible exact ih1 _ _ _ _ _ _ _ _ _ _)
   | (with_reducible exact ih2 _ _ _ _ _ _ _ _ _ _)
   | (with_reducible exact spec_OneSpace.mono _ _)
   | (with_reducible exact LeO.refl _)
   | (with_reducible exact LeO.none _)
   | (with_reducible refine LeO.ite ?_ ?_)
   | (with_reducible refine LeO.bind ?_ (fun _ => ?_))
   | exact ih0 _ _ _ _ _ _
   | exact ih1 _ _ _ _ _ _ _ _ _ _
   | exact ih2 _ _ _ _ _ _ _ _ _ _
   | exact spec_OneSpace.mono _ _
   | exact LeO.none _
   | refine LeO.ite ?_ ?_
   | refine LeO.bind ?_ (fun _ => ?_)
  ·intro y0 y1 y2 y3 y4 y5 y6 y7 y8 y9
   unfold spec_collapsed.j2
   repeat' first
   | (with_reducible exact ih0 _ _ _ _ _ _)
   | (with_reducible exact ih1 _ _ _ _ _ _ _ _ _ _)
   | (with_reducible exact ih2 _ _ _ _ _ _ _ _ _ _)
   | (with_reducible exact spec_OneSpace.mono _ _)
   | (with_reducible exact LeO.refl _)
   | (with_reducible exact LeO.none _)
   | (with_reducible refine LeO.ite ?_ ?_)
   | (with_reducible refine LeO.bind ?_ (fun _ => ?_))
   | exact ih0 _ _ _ _ _ _
   | exact ih1 _ _ _ _ _ _ _ _ _ _
   | exact ih2 _ _ _ _ _ _ _ _ _ _
   | exact spec_OneSpace.mono _ _
   | exact LeO.none _
   | refine LeO.ite ?_ ?_
   | refine LeO.bind ?_ (fun _ => ?_)
theorem spec_collapsed.mono : ∀ a0 a1 k, LeO (spec_collapsed.f k a0 a1) (spec_collapsed.f (k + 1) a0 a1) := by
 intro a0 a1 k
 obtain ⟨ih0, ih1, ih2⟩ := spec_collapsed.mono_l k
 unfold spec_collapsed.f
 repeat' first
   | (with_reducible exact ih0 _ _ _ _ _ _)
   | (with_reducible exact ih1 _ _ _ _ _ _ _ _ _ _)
   | (with_reducible exact ih2 _ _ _ _ _ _ _ _ _ _)
   | (with_reducible exact spec_OneSpace.mono _ _)
   | (with_reducible exact LeO.refl _)
   | (with_reducible exact LeO.none _)
   | (with_reducible refine LeO.ite ?_ ?_)
   | (with_reducible refine LeO.bind ?_ (fun _ => ?_))
   | exact ih0 _ _ _ _ _ _
   | exact ih1 _ _ _ _ _ _ _ _ _ _
   | exact ih2 _ _ _ _ _ _ _ _ _ _
   | exact spec_OneSpace.mono _ _
   | exact LeO.none _
   | refine LeO.ite ?_ ?_
   | refine LeO.bind ?_ (fun _ => ?_)
set_option maxHeartbeats 8000000 in
set_option maxRecDepth 100000 in
theorem spec_collapsed.calls (k : Nat) (A0 : Option Addr) (c0 : Nat) (l0 : List (S100)) (A1 : Option Addr) (c1 : Nat) (l1 : List ByteArray) (r : List ByteArray) (w : World) (hr0 : Kd.C k100 w A0 l0.length l0) (hc0 : l0.length ≤ c0) (hr1 : Kd.C Kd.string w A1 l1.length l1) (hc1 : l1.length ≤ c1) (h : spec_collapsed.f k l0 l1 = some r) :
  Calls Try.prog 50 #[.slice A0 l0.length c0, .slice A1 l1.length c1] w fun e w' => ∃ v0_ : Value, e = .returned (v0_) ∧ Kd.R Kd.string 9 w' w.heap.size (fun _ => True) v0_ r ∧ Below w.heap.size w w' := by
 have hu100 := Try.underlying100
 have HR0 := Aside0.mk hr0
 have HC0 := Aside0.mk hc0
 clear hr0 hc0
 have HR1 := Aside0.mk hr1
 have HC1 := Aside0.mk hc1
 clear hr1 hc1
 have HB := Aside0.mk (Below.refl w.heap.size w)
 have H : ((some (([] : List ByteArray) : List ByteArray)).bind fun y304 => (if y304.length + l1.length < 8796093022208 then (spec_collapsed.l0 k (-1) false (y304 ++ l1) l0 (l0.length : Int) 0) else (none))) = some r := h
 clear h
 obtain ⟨y304, hy304⟩ : ∃ y_ : List ByteArray, y_ = (([] : List ByteArray)) := ⟨_, rfl⟩
 replace H : (if y304.length + l1.length < 8796093022208 then (spec_collapsed.l0 k (-1) false (y304 ++ l1) l0 (l0.length : Int) 0) else (none)) = some r := by first | (rw [hy304]; with_reducible exact H) | (have H2_ := (Option.bind_some _ _).symm.trans H; rw [hy304]; with_reducible exact H2_) | (have H2_ := (Option.bind_some _ _).symm.trans H; with_reducible exact H2_) | with_reducible exact H | (rw [hy304]; exact H) | exact H
 have Ny304 := Aside0.mk hy304
 clear hy304
 by_cases c3 : y304.length + l1.length < 8796093022208
 ·rw [if_pos c3] at H
  have LMc3 := Aside0.mk c3
  clear c3
  obtain ⟨y307, hy307⟩ : ∃ y_ : List ByteArray, y_ = (y304 ++ l1) := ⟨_, rfl⟩
  replace H : (spec_collapsed.l0 k (-1) false y307 l0 (l0.length : Int) 0) = some r := by first | (rw [hy307]; with_reducible exact H) | (have H2_ := (Option.bind_some _ _).symm.trans H; rw [hy307]; with_reducible exact H2_) | (have H2_ := (Option.bind_some _ _).symm.trans H; with_reducible exact H2_) | with_reducible exact H | (rw [hy307]; exact H) | exact H
  have Ny307 := Aside0.mk hy307
  clear hy307
  have H' := Aside0.mk H
  clear H
  go_enter Try.func50, Try.ntmps50
  go_wp2_with (first | ((with_reducible refine gate_dst (N := 12) rfl ?_); (try (refine gate_guard (by rfl) ?_; dsimp only)); refine Kd.R_lit Kd.string _ 9 ?hg (N := 12) ?hd (xs := ([] : List ByteArray)) (inner := []) (ok := fun _ => True) (okp := fun _ => True) ?hr ?hp (fun _ hk => hk) trivial (Below.refl _ _) (Nat.le_refl _) (by simp) ?_; (case hd => rfl); (case hg => rfl); (case hr => first | (go_simp; done) | (go_simp; rfl)); (case hp => exact (Reps.none _ _)); intro v305 w4 ho5 hb hg_ hnew_; clear hg_ hnew_; (first | rw [← Ny304.out] at ho5 | (simp only [Int.reduceToNat] at ho5; rw [← Ny304.out] at ho5)); have n0_ := Aside0.mk (Kd.R_lower ho5 (below_size (by repeat (first | (with_reducible first | exact HB.out | apply below_alloc | apply pw_below_drewN | apply below_drew1) | exact HB.out)))); have n1_ := Aside0.mk (below_step (by repeat (first | (with_reducible first | exact HB.out | apply below_alloc | apply pw_below_drewN | apply below_drew1) | exact HB.out)) hb); clear HB; have HO306 := n0_; have HB := n1_; clear n0_ n1_; clear hb ho5) | ((with_reducible refine gate_builtin (b := .append) (xs := #[.tmp 12, .tmp 13]) rfl ?_); (try (refine gate_guard (by rfl) ?_; dsimp only)); at_builtin; refine Kd.R_append_rows Kd.string (w0 := w) w.heap.size rfl (.tmp 12) (.tmp 13) 28 9 (.string ⟨#[]⟩) 16 rfl Try.underlying28 info9 rfl (by decide) (by omega) v305 y304 l1 _ _ _ (fun _ => True) (fun _ => False) rfl rfl ?aO ?aR (fun _ _ h => h) (fun _ h => h.elim) ?aF ?aB ?aS ?aL ?_; (case aR => repeat (first | exact (Kd.C_below HR1.out HB.out) | (with_reducible refine Kd.C_alloc ?_ _) | (with_reducible refine Kd.C_drewN ?_ _) | (with_reducible refine Kd.C_drew ?_))); (case aB => exact (by repeat (first | (with_reducible first | exact HB.out | apply below_alloc | apply pw_below_drewN | apply below_drew1) | exact HB.out))); (case aF => exact (fun _ _ => trivial)); (case aO => exact (by (with_reducible repeat (first | apply Kd.R_alloc | apply Kd.R_drewN | apply Kd.R_drew)); exact HO306.out)); (case aS => exact (below_size (by repeat (first | (with_reducible first | exact HB.out | apply below_alloc | apply pw_below_drewN | apply below_drew1) | exact HB.out)))); (case aL => have := LMc3.out; omega); intro v308 w6 ho hb hg hat; rw [← Ny307.out] at ho; have n0_ := Aside0.mk (hb); have n1_ := Aside0.mk (ho); clear HB; clear HO306; have HB := n0_; have HO309 := n1_; clear n0_ n1_; clear ho hb hg hat))
  repeat (go_quiet (first | ((with_reducible refine gate_dst (N := 12) rfl ?_); (try (refine gate_guard (by rfl) ?_; dsimp only)); refine Kd.R_lit Kd.string _ 9 ?hg (N := 12) ?hd (xs := ([] : List ByteArray)) (inner := []) (ok := fun _ => True) (okp := fun _ => True) ?hr ?hp (fun _ hk => hk) trivial (Below.refl _ _) (Nat.le_refl _) (by simp) ?_; (case hd => rfl); (case hg => rfl); (case hr => first | (go_simp; done) | (go_simp; rfl)); (case hp => exact (Reps.none _ _)); intro v305 w4 ho5 hb hg_ hnew_; clear hg_ hnew_; (first | rw [← Ny304.out] at ho5 | (simp only [Int.reduceToNat] at ho5; rw [← Ny304.out] at ho5)); have n0_ := Aside0.mk (Kd.R_lower ho5 (below_size (by repeat (first | (with_reducible first | exact HB.out | apply below_alloc | apply pw_below_drewN | apply below_drew1) | exact HB.out)))); have n1_ := Aside0.mk (below_step (by repeat (first | (with_reducible first | exact HB.out | apply below_alloc | apply pw_below_drewN | apply below_drew1) | exact HB.out)) hb); clear HB; have HO306 := n0_; have HB := n1_; clear n0_ n1_; clear hb ho5) | ((with_reducible refine gate_builtin (b := .append) (xs := #[.tmp 12, .tmp 13]) rfl ?_); (try (refine gate_guard (by rfl) ?_; dsimp only)); at_builtin; refine Kd.R_append_rows Kd.string (w0 := w) w.heap.size rfl (.tmp 12) (.tmp 13) 28 9 (.string ⟨#[]⟩) 16 rfl Try.underlying28 info9 rfl (by decide) (by omega) v305 y304 l1 _ _ _ (fun _ => True) (fun _ => False) rfl rfl ?aO ?aR (fun _ _ h => h) (fun _ h => h.elim) ?aF ?aB ?aS ?aL ?_; (case aR => repeat (first | exact (Kd.C_below HR1.out HB.out) | (with_reducible refine Kd.C_alloc ?_ _) | (with_reducible refine Kd.C_drewN ?_ _) | (with_reducible refine Kd.C_drew ?_))); (case aB => exact (by repeat (first | (with_reducible first | exact HB.out | apply below_alloc | apply pw_below_drewN | apply below_drew1) | exact HB.out))); (case aF => exact (fun _ _ => trivial)); (case aO => exact (by (with_reducible repeat (first | apply Kd.R_alloc | apply Kd.R_drewN | apply Kd.R_drew)); exact HO306.out)); (case aS => exact (below_size (by repeat (first | (with_reducible first | exact HB.out | apply below_alloc | apply pw_below_drewN | apply below_drew1) | exact HB.out)))); (case aL => have := LMc3.out; omega); intro v308 w6 ho hb hg hat; rw [← Ny307.out] at ho; have n0_ := Aside0.mk (hb); have n1_ := Aside0.mk (ho); clear HB; clear HO306; have HB := n0_; have HO309 := n1_; clear n0_ n1_; clear ho hb hg hat)); try go_wp2_with (first | ((with_reducible refine gate_dst (N := 12) rfl ?_); (try (refine gate_guard (by rfl) ?_; dsimp only)); refine Kd.R_lit Kd.string _ 9 ?hg (N := 12) ?hd (xs := ([] : List ByteArray)) (inner := []) (ok := fun _ => True) (okp := fun _ => True) ?hr ?hp (fun _ hk => hk) trivial (Below.refl _ _) (Nat.le_refl _) (by simp) ?_; (case hd => rfl); (case hg => rfl); (case hr => first | (go_simp; done) | (go_simp; rfl)); (case hp => exact (Reps.none _ _)); intro v305 w4 ho5 hb hg_ hnew_; clear hg_ hnew_; (first | rw [← Ny304.out] at ho5 | (simp only [Int.reduceToNat] at ho5; rw [← Ny304.out] at ho5)); have n0_ := Aside0.mk (Kd.R_lower ho5 (below_size (by repeat (first | (with_reducible first | exact HB.out | apply below_alloc | apply pw_below_drewN | apply below_drew1) | exact HB.out)))); have n1_ := Aside0.mk (below_step (by repeat (first | (with_reducible first | exact HB.out | apply below_alloc | apply pw_below_drewN | apply below_drew1) | exact HB.out)) hb); clear HB; have HO306 := n0_; have HB := n1_; clear n0_ n1_; clear hb ho5) | ((with_reducible refine gate_builtin (b := .append) (xs := #[.tmp 12, .tmp 13]) rfl ?_); (try (refine gate_guard (by rfl) ?_; dsimp only)); at_builtin; refine Kd.R_append_rows Kd.string (w0 := w) w.heap.size rfl (.tmp 12) (.tmp 13) 28 9 (.string ⟨#[]⟩) 16 rfl Try.underlying28 info9 rfl (by decide) (by omega) v305 y304 l1 _ _ _ (fun _ => True) (fun _ => False) rfl rfl ?aO ?aR (fun _ _ h => h) (fun _ h => h.elim) ?aF ?aB ?aS ?aL ?_; (case aR => repeat (first | exact (Kd.C_below HR1.out HB.out) | (with_reducible refine Kd.C_alloc ?_ _) | (with_reducible refine Kd.C_drewN ?_ _) | (with_reducible refine Kd.C_drew ?_))); (case aB => exact (by repeat (first | (with_reducible first | exact HB.out | apply below_alloc | apply pw_below_drewN | apply below_drew1) | exact HB.out))); (case aF => exact (fun _ _ => trivial)); (case aO => exact (by (with_reducible repeat (first | apply Kd.R_alloc | apply Kd.R_drewN | apply Kd.R_drew)); exact HO306.out)); (case aS => exact (below_size (by repeat (first | (with_reducible first | exact HB.out | apply below_alloc | apply pw_below_drewN | apply below_drew1) | exact HB.out)))); (case aL => have := LMc3.out; omega); intro v308 w6 ho hb hg hat; rw [← Ny307.out] at ho; have n0_ := Aside0.mk (hb); have n1_ := Aside0.mk (ho); clear HB; clear HO306; have HB := n0_; have HO309 := n1_; clear n0_ n1_; clear ho hb hg hat)))
  go_loopg [5, 6, 17] k (fun kq v5 v6 v17 w' => ∃ (x5_1 : Int) (x6_1 : Bool) (x7_1 : List ByteArray) (x17_1 : Int), v5 = .int .i64 x5_1 ∧ v6 = .bool x6_1 ∧ v17 = .int .i64 x17_1 ∧ Aside0 (spec_collapsed.l0 kq x5_1 x6_1 x7_1 l0 (l0.length : Int) x17_1 = some r) ∧ Aside0 (kq ≤ k) ∧ Aside0 (Kd.R Kd.string 9 w' w.heap.size (fun _ => True) v308 x7_1) ∧ Aside0 (Below w.heap.size w w'))
  case atStart => exact ⟨((-1)), (false), (y307), (0), (by first | rfl | (simp; done) | (simp [*]; done)), (by first | rfl | (simp; done) | (simp [*]; done)), (by first | rfl | (simp; done) | (simp [*]; done)), H', ⟨Nat.le_refl _⟩, ⟨by (with_reducible repeat (first | apply Kd.R_alloc | apply Kd.R_drewN | apply Kd.R_drew)); exact HO309.out⟩, ⟨by repeat (first | (with_reducible first | exact HB.out | apply below_alloc | apply pw_below_drewN | apply below_drew1) | exact HB.out)⟩⟩
  case round =>
   clear H'
   try clear c1
   try clear p2
   try clear c3
   try clear c5
   obtain ⟨x5_1, x6_1, x7_1, x17_1, rfl, rfl, rfl, HA, HK1, HO_7, HB⟩ := hrel
   cases gk with
   | zero => exact absurd HA.out (by simp [spec_collapsed.l0])
   | succ k1 =>
    have H := HA.out
    clear HA
    simp only [spec_collapsed.l0] at H
    by_cases c7 : x17_1 < (l0.length : Int)
    ·rw [if_pos c7] at H
     have c7b0 : decide (x17_1 < (l0.length : Int)) = true := decide_eq_true c7
     clear c7
     by_cases c8 : 0 ≤ x17_1
     ·rw [if_pos c8] at H
      have c8b0 : decide (0 ≤ x17_1) = true := decide_eq_true c8
      clear c8
      by_cases c9 : x17_1 < (l0.length : Int)
      ·rw [if_pos c9] at H
       have c9b0 : decide (x17_1 < (l0.length : Int)) = true := decide_eq_true c9
       clear c9
       by_cases c10 : ((rd_T100 l0 x17_1).f0) = 0
       ·rw [if_pos c10] at H
        have c10b0 : (((rd_T100 l0 x17_1).f0) == 0) = true := beq_iff_eq.mpr c10
        have c10b1 : (((rd_T100 l0 x17_1).f0) != 0) = false := bne_eq_false_iff_eq.mpr c10
        clear c10
        by_cases c11 : 0 ≤ ((rd_T100 l0 x17_1).f1)
        ·rw [if_pos c11] at H
         have c11b0 : decide (0 ≤ ((rd_T100 l0 x17_1).f1)) = true := decide_eq_true c11
         clear c11
         by_cases c12 : ((rd_T100 l0 x17_1).f1) < (x7_1.length : Int)
         ·rw [if_pos c12] at H
          have c12b0 : decide (((rd_T100 l0 x17_1).f1) < (x7_1.length : Int)) = true := decide_eq_true c12
          clear c12
          replace H := Option.bind_eq_some_iff.mp H
          obtain ⟨t316, A130, H⟩ := H
          replace H : (if x5_1 < 0 then (spec_collapsed.j1 k1 x5_1 x6_1 x7_1 t316 true l0 (l0.length : Int) x17_1 ((rd_T100 l0 x17_1).f0) ((rd_T100 l0 x17_1).f1)) else (if 0 ≤ x5_1 then (if x5_1 < (x7_1.length : Int) then (if ((rdOf ByteArray.empty x7_1 x5_1).size : Int) > 0 then (if 0 ≤ (wrap64 (((rdOf ByteArray.empty x7_1 x5_1).size : Int) - 1)) then (if (wrap64 (((rdOf ByteArray.empty x7_1 x5_1).size : Int) - 1)) < ((rdOf ByteArray.empty x7_1 x5_1).size : Int) then (spec_collapsed.j1 k1 x5_1 x6_1 x7_1 t316 ((bt (rdOf ByteArray.empty x7_1 x5_1) (wrap64 (((rdOf ByteArray.empty x7_1 x5_1).size : Int) - 1))) == 32) l0 (l0.length : Int) x17_1 ((rd_T100 l0 x17_1).f0) ((rd_T100 l0 x17_1).f1)) else (none)) else (none)) else (spec_collapsed.j1 k1 x5_1 x6_1 x7_1 t316 false l0 (l0.length : Int) x17_1 ((rd_T100 l0 x17_1).f0) ((rd_T100 l0 x17_1).f1))) else (none)) else (none))) = some r := H
          have A13 := Aside0.mk A130
          clear A130
          have HC14 := Aside0.mk H
          clear H
          have p313 : 0 ≤ (x17_1 : Int) := of_decide_eq_true (by first | (with_reducible assumption) | assumption)
          have q313 : x17_1 < (l0.length : Int) := of_decide_eq_true (by first | (with_reducible assumption) | assumption)
          obtain ⟨ad313, e313, hx313_0, hx313_1⟩ := at_T100 HR0.out x17_1 p313 q313
          cases e313
          replace hx313_0 := (HB.out.cell (World.block_lt_of_cell? w _ hx313_0)).trans hx313_0
          replace hx313_1 := (HB.out.cell (World.block_lt_of_cell? w _ hx313_1)).trans hx313_1
          replace p313 := eq_true p313
          replace q313 := eq_true q313
          go_upto_region 11 with (first | ((with_reducible refine gate_dst (N := 9) rfl ?_); (try (refine gate_guard (by rfl) ?_; dsimp only)); refine box_event ?hg (N := 9) ?hd (cs := #[.int .i64 0, .int .i64 0]) (t := 100) ?hr ?_; (case hd => rfl); (case hg => rfl); (case hr => first | (go_simp; done) | (go_simp; rfl)); intro gb314 hg w15 hbox hb; have n0_ := Aside0.mk (Kd.R_below (by (with_reducible repeat (first | apply Kd.R_alloc | apply Kd.R_drewN | apply Kd.R_drew)); exact HO_7.out) hb); have n1_ := Aside0.mk (below_step (by repeat (first | (with_reducible first | exact HB.out | apply below_alloc | apply pw_below_drewN | apply below_drew1) | exact HB.out)) hb); have n2_ := Aside0.mk (hbox); have n3_ := Aside0.mk ((by rw [hg]; exact (below_size (by repeat (first | (with_reducible first | exact HB.out | apply below_alloc | apply pw_below_drewN | apply below_drew1) | exact HB.out))) : w.heap.size ≤ gb314)); have n4_ := Aside0.mk ((by rw [hg]; exact (below_size (by repeat (first | (with_reducible first | exact HB.out | apply below_alloc | apply pw_below_drewN | apply below_drew1) | exact HB.out))) : w.heap.size ≤ gb314)); clear HO_7; clear HB; have HO_7 := n0_; have HB := n1_; have BK314 := n2_; have GW314 := n3_; have GE314 := n4_; clear n0_ n1_ n2_ n3_ n4_; clear hb hbox hg; have hcz16_0 : w15.cell? ⟨gb314, 0, none⟩ = some (.int .i64 0) := (blk_cell BK314.out 0).trans rfl; have hcz16_1 : w15.cell? ⟨gb314, 1, none⟩ = some (.int .i64 0) := (blk_cell BK314.out 1).trans rfl; have hfz16_0 := blk_frozen BK314.out 0; have hfz16_1 := blk_frozen BK314.out 1; obtain ⟨Ao17, co17, eo17⟩ := Kd.R_slice HO_7.out; subst eo17; have p315 : 0 ≤ (((rd_T100 l0 x17_1).f1) : Int) := of_decide_eq_true (by first | (with_reducible assumption) | assumption); have q315 : ((rd_T100 l0 x17_1).f1) < (x7_1.length : Int) := of_decide_eq_true (by first | (with_reducible assumption) | assumption); obtain ⟨ad315, e315, hx315_0⟩ := Kd.at_string (Kd.R_reads' HO_7.out).2.2 ((rd_T100 l0 x17_1).f1) p315 q315; cases e315; have hn315_0 : ad315.block ≠ gb314 := Kd.own_blk (Kd.R_ne HO_7.out BK314.out (by decide)); have hn315_1 : ad315.block ≠ gb314 := Kd.own_blk (Kd.R_ne HO_7.out BK314.out (by decide)); replace hx315_0 := (cell_far (p := ⟨gb314, 0, none⟩) (by first | (rw [add_block]; exact hn315_0) | (show (Addr.add _ _).block ≠ _; rw [add_block]; exact hn315_0) | exact hn315_0) (.int .i64 ((rd_T100 l0 x17_1).f0))).trans hx315_0; replace hx315_0 := (cell_far (p := ⟨gb314, 1, none⟩) (by first | (rw [add_block]; exact hn315_1) | (show (Addr.add _ _).block ≠ _; rw [add_block]; exact hn315_1) | exact hn315_1) (.int .i64 ((rd_T100 l0 x17_1).f1))).trans hx315_0; (try have hy315_0 := fun (n_ : Nat) => (show ((((w15.drewN n_).setCell ⟨gb314, 0, none⟩ (.int .i64 ((rd_T100 l0 x17_1).f0))).setCell ⟨gb314, 1, none⟩ (.int .i64 ((rd_T100 l0 x17_1).f1)))).cell? _ = some _ from hx315_0)); clear hn315_0; clear hn315_1; replace p315 := eq_true p315; replace q315 := eq_true q315) | (go_at_call 85; (with_reducible refine (spec_OneSpace.calls k1 (rdOf ByteArray.empty x7_1 ((rd_T100 l0 x17_1).f1)) t316 _ A13.out).mono ?_); rintro e w18 ⟨rfl, hb⟩; have n0_ := Aside0.mk (Kd.R_below (by (with_reducible repeat (first | apply Kd.R_alloc | apply Kd.R_drewN | apply Kd.R_drew)); exact (Kd.R_mono (Kd.R_far (p := ⟨gb314, 1, none⟩) (Kd.R_far (p := ⟨gb314, 0, none⟩) (Kd.R_types HO_7.out BK314.out (by decide)) (fun _ hk => hk.2) (.int .i64 ((rd_T100 l0 x17_1).f0))) (fun _ hk => hk.2) (.int .i64 ((rd_T100 l0 x17_1).f1))) (fun _ h_ => h_.1))) hb); have n1_ := Aside0.mk (blk_below (g := gb314) (o := .cells #[.int .i64 ((rd_T100 l0 x17_1).f0), .int .i64 ((rd_T100 l0 x17_1).f1)] 100 (0, 0)) (by (with_reducible repeat (first | refine blk_drewN ?_ _ | refine blk_drew ?_ | refine blk_alloc ?_ _)); refine blk_put (cs := #[.int .i64 ((rd_T100 l0 x17_1).f0), .int .i64 0]) ?_ 1 _ rfl; (with_reducible repeat (first | refine blk_drewN ?_ _ | refine blk_drew ?_ | refine blk_alloc ?_ _)); refine blk_put (cs := #[.int .i64 0, .int .i64 0]) ?_ 0 _ rfl; (with_reducible repeat (first | refine blk_drewN ?_ _ | refine blk_drew ?_ | refine blk_alloc ?_ _)); exact BK314.out) hb); have n2_ := Aside0.mk (below_step (by repeat (first | (with_reducible first | exact HB.out | apply below_alloc | apply pw_below_drewN | apply below_drew1 | refine below_set ?_ GE314.out) | exact HB.out)) hb); clear HO_7; clear BK314; clear HB; have HO_7 := n0_; have BK314 := n1_; have HB := n2_; clear n0_ n1_ n2_; (try clear hb); (try clear hb2); (try clear hk); (try clear hi)))
          repeat (go_quiet (first | ((with_reducible refine gate_dst (N := 9) rfl ?_); (try (refine gate_guard (by rfl) ?_; dsimp only)); refine box_event ?hg (N := 9) ?hd (cs := #[.int .i64 0, .int .i64 0]) (t := 100) ?hr ?_; (case hd => rfl); (case hg => rfl); (case hr => first | (go_simp; done) | (go_simp; rfl)); intro gb314 hg w15 hbox hb; have n0_ := Aside0.mk (Kd.R_below (by (with_reducible repeat (first | apply Kd.R_alloc | apply Kd.R_drewN | apply Kd.R_drew)); exact HO_7.out) hb); have n1_ := Aside0.mk (below_step (by repeat (first | (with_reducible first | exact HB.out | apply below_alloc | apply pw_below_drewN | apply below_drew1) | exact HB.out)) hb); have n2_ := Aside0.mk (hbox); have n3_ := Aside0.mk ((by rw [hg]; exact (below_size (by repeat (first | (with_reducible first | exact HB.out | apply below_alloc | apply pw_below_drewN | apply below_drew1) | exact HB.out))) : w.heap.size ≤ gb314)); have n4_ := Aside0.mk ((by rw [hg]; exact (below_size (by repeat (first | (with_reducible first | exact HB.out | apply below_alloc | apply pw_below_drewN | apply below_drew1) | exact HB.out))) : w.heap.size ≤ gb314)); clear HO_7; clear HB; have HO_7 := n0_; have HB := n1_; have BK314 := n2_; have GW314 := n3_; have GE314 := n4_; clear n0_ n1_ n2_ n3_ n4_; clear hb hbox hg; have hcz16_0 : w15.cell? ⟨gb314, 0, none⟩ = some (.int .i64 0) := (blk_cell BK314.out 0).trans rfl; have hcz16_1 : w15.cell? ⟨gb314, 1, none⟩ = some (.int .i64 0) := (blk_cell BK314.out 1).trans rfl; have hfz16_0 := blk_frozen BK314.out 0; have hfz16_1 := blk_frozen BK314.out 1; obtain ⟨Ao17, co17, eo17⟩ := Kd.R_slice HO_7.out; subst eo17; have p315 : 0 ≤ (((rd_T100 l0 x17_1).f1) : Int) := of_decide_eq_true (by first | (with_reducible assumption) | assumption); have q315 : ((rd_T100 l0 x17_1).f1) < (x7_1.length : Int) := of_decide_eq_true (by first | (with_reducible assumption) | assumption); obtain ⟨ad315, e315, hx315_0⟩ := Kd.at_string (Kd.R_reads' HO_7.out).2.2 ((rd_T100 l0 x17_1).f1) p315 q315; cases e315; have hn315_0 : ad315.block ≠ gb314 := Kd.own_blk (Kd.R_ne HO_7.out BK314.out (by decide)); have hn315_1 : ad315.block ≠ gb314 := Kd.own_blk (Kd.R_ne HO_7.out BK314.out (by decide)); replace hx315_0 := (cell_far (p := ⟨gb314, 0, none⟩) (by first | (rw [add_block]; exact hn315_0) | (show (Addr.add _ _).block ≠ _; rw [add_block]; exact hn315_0) | exact hn315_0) (.int .i64 ((rd_T100 l0 x17_1).f0))).trans hx315_0; replace hx315_0 := (cell_far (p := ⟨gb314, 1, none⟩) (by first | (rw [add_block]; exact hn315_1) | (show (Addr.add _ _).block ≠ _; rw [add_block]; exact hn315_1) | exact hn315_1) (.int .i64 ((rd_T100 l0 x17_1).f1))).trans hx315_0; (try have hy315_0 := fun (n_ : Nat) => (show ((((w15.drewN n_).setCell ⟨gb314, 0, none⟩ (.int .i64 ((rd_T100 l0 x17_1).f0))).setCell ⟨gb314, 1, none⟩ (.int .i64 ((rd_T100 l0 x17_1).f1)))).cell? _ = some _ from hx315_0)); clear hn315_0; clear hn315_1; replace p315 := eq_true p315; replace q315 := eq_true q315) | (go_at_call 85; (with_reducible refine (spec_OneSpace.calls k1 (rdOf ByteArray.empty x7_1 ((rd_T100 l0 x17_1).f1)) t316 _ A13.out).mono ?_); rintro e w18 ⟨rfl, hb⟩; have n0_ := Aside0.mk (Kd.R_below (by (with_reducible repeat (first | apply Kd.R_alloc | apply Kd.R_drewN | apply Kd.R_drew)); exact (Kd.R_mono (Kd.R_far (p := ⟨gb314, 1, none⟩) (Kd.R_far (p := ⟨gb314, 0, none⟩) (Kd.R_types HO_7.out BK314.out (by decide)) (fun _ hk => hk.2) (.int .i64 ((rd_T100 l0 x17_1).f0))) (fun _ hk => hk.2) (.int .i64 ((rd_T100 l0 x17_1).f1))) (fun _ h_ => h_.1))) hb); have n1_ := Aside0.mk (blk_below (g := gb314) (o := .cells #[.int .i64 ((rd_T100 l0 x17_1).f0), .int .i64 ((rd_T100 l0 x17_1).f1)] 100 (0, 0)) (by (with_reducible repeat (first | refine blk_drewN ?_ _ | refine blk_drew ?_ | refine blk_alloc ?_ _)); refine blk_put (cs := #[.int .i64 ((rd_T100 l0 x17_1).f0), .int .i64 0]) ?_ 1 _ rfl; (with_reducible repeat (first | refine blk_drewN ?_ _ | refine blk_drew ?_ | refine blk_alloc ?_ _)); refine blk_put (cs := #[.int .i64 0, .int .i64 0]) ?_ 0 _ rfl; (with_reducible repeat (first | refine blk_drewN ?_ _ | refine blk_drew ?_ | refine blk_alloc ?_ _)); exact BK314.out) hb); have n2_ := Aside0.mk (below_step (by repeat (first | (with_reducible first | exact HB.out | apply below_alloc | apply pw_below_drewN | apply below_drew1 | refine below_set ?_ GE314.out) | exact HB.out)) hb); clear HO_7; clear BK314; clear HB; have HO_7 := n0_; have BK314 := n1_; have HB := n2_; clear n0_ n1_ n2_; (try clear hb); (try clear hb2); (try clear hk); (try clear hi))); go_upto_region 11 with (first | ((with_reducible refine gate_dst (N := 9) rfl ?_); (try (refine gate_guard (by rfl) ?_; dsimp only)); refine box_event ?hg (N := 9) ?hd (cs := #[.int .i64 0, .int .i64 0]) (t := 100) ?hr ?_; (case hd => rfl); (case hg => rfl); (case hr => first | (go_simp; done) | (go_simp; rfl)); intro gb314 hg w15 hbox hb; have n0_ := Aside0.mk (Kd.R_below (by (with_reducible repeat (first | apply Kd.R_alloc | apply Kd.R_drewN | apply Kd.R_drew)); exact HO_7.out) hb); have n1_ := Aside0.mk (below_step (by repeat (first | (with_reducible first | exact HB.out | apply below_alloc | apply pw_below_drewN | apply below_drew1) | exact HB.out)) hb); have n2_ := Aside0.mk (hbox); have n3_ := Aside0.mk ((by rw [hg]; exact (below_size (by repeat (first | (with_reducible first | exact HB.out | apply below_alloc | apply pw_below_drewN | apply below_drew1) | exact HB.out))) : w.heap.size ≤ gb314)); have n4_ := Aside0.mk ((by rw [hg]; exact (below_size (by repeat (first | (with_reducible first | exact HB.out | apply below_alloc | apply pw_below_drewN | apply below_drew1) | exact HB.out))) : w.heap.size ≤ gb314)); clear HO_7; clear HB; have HO_7 := n0_; have HB := n1_; have BK314 := n2_; have GW314 := n3_; have GE314 := n4_; clear n0_ n1_ n2_ n3_ n4_; clear hb hbox hg; have hcz16_0 : w15.cell? ⟨gb314, 0, none⟩ = some (.int .i64 0) := (blk_cell BK314.out 0).trans rfl; have hcz16_1 : w15.cell? ⟨gb314, 1, none⟩ = some (.int .i64 0) := (blk_cell BK314.out 1).trans rfl; have hfz16_0 := blk_frozen BK314.out 0; have hfz16_1 := blk_frozen BK314.out 1; obtain ⟨Ao17, co17, eo17⟩ := Kd.R_slice HO_7.out; subst eo17; have p315 : 0 ≤ (((rd_T100 l0 x17_1).f1) : Int) := of_decide_eq_true (by first | (with_reducible assumption) | assumption); have q315 : ((rd_T100 l0 x17_1).f1) < (x7_1.length : Int) := of_decide_eq_true (by first | (with_reducible assumption) | assumption); obtain ⟨ad315, e315, hx315_0⟩ := Kd.at_string (Kd.R_reads' HO_7.out).2.2 ((rd_T100 l0 x17_1).f1) p315 q315; cases e315; have hn315_0 : ad315.block ≠ gb314 := Kd.own_blk (Kd.R_ne HO_7.out BK314.out (by decide)); have hn315_1 : ad315.block ≠ gb314 := Kd.own_blk (Kd.R_ne HO_7.out BK314.out (by decide)); replace hx315_0 := (cell_far (p := ⟨gb314, 0, none⟩) (by first | (rw [add_block]; exact hn315_0) | (show (Addr.add _ _).block ≠ _; rw [add_block]; exact hn315_0) | exact hn315_0) (.int .i64 ((rd_T100 l0 x17_1).f0))).trans hx315_0; replace hx315_0 := (cell_far (p := ⟨gb314, 1, none⟩) (by first | (rw [add_block]; exact hn315_1) | (show (Addr.add _ _).block ≠ _; rw [add_block]; exact hn315_1) | exact hn315_1) (.int .i64 ((rd_T100 l0 x17_1).f1))).trans hx315_0; (try have hy315_0 := fun (n_ : Nat) => (show ((((w15.drewN n_).setCell ⟨gb314, 0, none⟩ (.int .i64 ((rd_T100 l0 x17_1).f0))).setCell ⟨gb314, 1, none⟩ (.int .i64 ((rd_T100 l0 x17_1).f1)))).cell? _ = some _ from hx315_0)); clear hn315_0; clear hn315_1; replace p315 := eq_true p315; replace q315 := eq_true q315) | (go_at_call 85; (with_reducible refine (spec_OneSpace.calls k1 (rdOf ByteArray.empty x7_1 ((rd_T100 l0 x17_1).f1)) t316 _ A13.out).mono ?_); rintro e w18 ⟨rfl, hb⟩; have n0_ := Aside0.mk (Kd.R_below (by (with_reducible repeat (first | apply Kd.R_alloc | apply Kd.R_drewN | apply Kd.R_drew)); exact (Kd.R_mono (Kd.R_far (p := ⟨gb314, 1, none⟩) (Kd.R_far (p := ⟨gb314, 0, none⟩) (Kd.R_types HO_7.out BK314.out (by decide)) (fun _ hk => hk.2) (.int .i64 ((rd_T100 l0 x17_1).f0))) (fun _ hk => hk.2) (.int .i64 ((rd_T100 l0 x17_1).f1))) (fun _ h_ => h_.1))) hb); have n1_ := Aside0.mk (blk_below (g := gb314) (o := .cells #[.int .i64 ((rd_T100 l0 x17_1).f0), .int .i64 ((rd_T100 l0 x17_1).f1)] 100 (0, 0)) (by (with_reducible repeat (first | refine blk_drewN ?_ _ | refine blk_drew ?_ | refine blk_alloc ?_ _)); refine blk_put (cs := #[.int .i64 ((rd_T100 l0 x17_1).f0), .int .i64 0]) ?_ 1 _ rfl; (with_reducible repeat (first | refine blk_drewN ?_ _ | refine blk_drew ?_ | refine blk_alloc ?_ _)); refine blk_put (cs := #[.int .i64 0, .int .i64 0]) ?_ 0 _ rfl; (with_reducible repeat (first | refine blk_drewN ?_ _ | refine blk_drew ?_ | refine blk_alloc ?_ _)); exact BK314.out) hb); have n2_ := Aside0.mk (below_step (by repeat (first | (with_reducible first | exact HB.out | apply below_alloc | apply pw_below_drewN | apply below_drew1 | refine below_set ?_ GE314.out) | exact HB.out)) hb); clear HO_7; clear BK314; clear HB; have HO_7 := n0_; have BK314 := n1_; have HB := n2_; clear n0_ n1_ n2_; (try clear hb); (try clear hb2); (try clear hk); (try clear hi))))
          (try simp only [Act.put, List.setIfInBounds_toArray, List.set_cons_zero, List.set_cons_succ])
          go_cut [11] (fun v11 wc => ∃ (kq : Nat) (x11_13 : Bool), v11 = .bool x11_13 ∧ Aside0 (spec_collapsed.j1 kq x5_1 x6_1 x7_1 t316 x11_13 l0 (l0.length : Int) x17_1 ((rd_T100 l0 x17_1).f0) ((rd_T100 l0 x17_1).f1) = some r) ∧ Aside0 (kq ≤ k1) ∧ Aside0 (Kd.R Kd.string 9 wc w.heap.size (fun _ => True) (.slice (some ad315) x7_1.length co17) x7_1) ∧ Aside0 (wc.heap[gb314]? = some (.cells #[.int .i64 ((rd_T100 l0 x17_1).f0), .int .i64 ((rd_T100 l0 x17_1).f1)] 100 (0, 0))) ∧ Aside0 (Below w.heap.size w wc))
          case first =>
           have H := HC14.out
           clear HC14
           by_cases c19 : x5_1 < 0
           ·rw [if_pos c19] at H
            have c19b0 : decide (x5_1 < 0) = true := decide_eq_true c19
            clear c19
            (first | rw [c19b0] | (simp only [i64_w, i32_w]; rw [c19b0]) | skip)
            have H' := Aside0.mk H
            clear H
            go_wp2
            repeat (go_quiet (fail); try go_wp2)
            go_meet
            case rel => exact ⟨_, (true), (by first | rfl | (simp; done) | (simp [*]; done)), H', ⟨by have := HK1.out; first | omega | exact Nat.le_refl _⟩, ⟨by (with_reducible repeat (first | apply Kd.R_alloc | apply Kd.R_drewN | apply Kd.R_drew)); exact HO_7.out⟩, ⟨by (with_reducible repeat (first | refine blk_drewN ?_ _ | refine blk_drew ?_ | refine blk_alloc ?_ _)); exact BK314.out⟩, ⟨by repeat (first | (with_reducible first | exact HB.out | apply below_alloc | apply pw_below_drewN | apply below_drew1 | refine below_set ?_ GE314.out) | exact HB.out)⟩⟩
           ·rw [if_neg c19] at H
            have c19b0 : decide (x5_1 < 0) = false := decide_eq_false c19
            clear c19
            (first | rw [c19b0] | (simp only [i64_w, i32_w]; rw [c19b0]) | skip)
            by_cases c20 : 0 ≤ x5_1
            ·rw [if_pos c20] at H
             have c20b0 : decide (0 ≤ x5_1) = true := decide_eq_true c20
             clear c20
             by_cases c21 : x5_1 < (x7_1.length : Int)
             ·rw [if_pos c21] at H
              have c21b0 : decide (x5_1 < (x7_1.length : Int)) = true := decide_eq_true c21
              clear c21
              by_cases c22 : ((rdOf ByteArray.empty x7_1 x5_1).size : Int) > 0
              ·rw [if_pos c22] at H
               have c22b0 : decide (0 < ((rdOf ByteArray.empty x7_1 x5_1).size : Int)) = true := decide_eq_true c22
               have c22b1 : decide (0 < (rdOf ByteArray.empty x7_1 x5_1).size) = true := decide_eq_true (by omega)
               clear c22
               obtain ⟨ji23, hji23⟩ : ∃ j_ : Int, (wrap64 (((rdOf ByteArray.empty x7_1 x5_1).size : Int) - 1)) = j_ := ⟨_, rfl⟩
               replace H : (if 0 ≤ (ji23) then (if (ji23) < ((rdOf ByteArray.empty x7_1 x5_1).size : Int) then (spec_collapsed.j1 k1 x5_1 x6_1 x7_1 t316 ((bt (rdOf ByteArray.empty x7_1 x5_1) (ji23)) == 32) l0 (l0.length : Int) x17_1 ((rd_T100 l0 x17_1).f0) ((rd_T100 l0 x17_1).f1)) else (none)) else (none)) = some r := by first | (rw [hji23] at H; exact H) | (simp only [hji23] at H ⊢; exact H)
               have hji23w : (IntKind.i64.wrap (((rdOf ByteArray.empty x7_1 x5_1).size : Int) - 1)) = ji23 := (i64_w _).trans hji23
               by_cases c24 : 0 ≤ (ji23)
               ·rw [if_pos c24] at H
                have c24b0 : decide (0 ≤ (ji23)) = true := decide_eq_true c24
                clear c24
                by_cases c25 : (ji23) < ((rdOf ByteArray.empty x7_1 x5_1).size : Int)
                ·rw [if_pos c25] at H
                 have c25b0 : decide ((ji23) < ((rdOf ByteArray.empty x7_1 x5_1).size : Int)) = true := decide_eq_true c25
                 clear c25
                 have H' := Aside0.mk H
                 clear H
                 have p317 : 0 ≤ (x5_1 : Int) := of_decide_eq_true (by first | (with_reducible assumption) | assumption)
                 have q317 : x5_1 < (x7_1.length : Int) := of_decide_eq_true (by first | (with_reducible assumption) | assumption)
                 obtain ⟨ad317, e317, hx317_0⟩ := Kd.at_string (Kd.R_reads' HO_7.out).2.2 x5_1 p317 q317
                 obtain rfl : ad315 = ad317 := (by injection e317)
                 replace p317 := eq_true p317
                 replace q317 := eq_true q317
                 have p318 : 0 ≤ (x5_1 : Int) := of_decide_eq_true (by first | (with_reducible assumption) | assumption)
                 have q318 : x5_1 < (x7_1.length : Int) := of_decide_eq_true (by first | (with_reducible assumption) | assumption)
                 obtain ⟨ad318, e318, hx318_0⟩ := Kd.at_string (Kd.R_reads' HO_7.out).2.2 x5_1 p318 q318
                 obtain rfl : ad315 = ad318 := (by injection e318)
                 replace p318 := eq_true p318
                 replace q318 := eq_true q318
                 have p319 : 0 ≤ (x5_1 : Int) := of_decide_eq_true (by first | (with_reducible assumption) | assumption)
                 have q319 : x5_1 < (x7_1.length : Int) := of_decide_eq_true (by first | (with_reducible assumption) | assumption)
                 obtain ⟨ad319, e319, hx319_0⟩ := Kd.at_string (Kd.R_reads' HO_7.out).2.2 x5_1 p319 q319
                 obtain rfl : ad315 = ad319 := (by injection e319)
                 replace p319 := eq_true p319
                 replace q319 := eq_true q319
                 have p26 : 0 ≤ ((ji23) : Int) := of_decide_eq_true (by first | (with_reducible assumption) | assumption)
                 have q26 : (ji23) < ((rdOf ByteArray.empty x7_1 x5_1).size : Int) := of_decide_eq_true (by first | (with_reducible assumption) | assumption)
                 have hx26 := bt_at (rdOf ByteArray.empty x7_1 x5_1) (ji23)
                 replace p26 := eq_true p26
                 replace q26 := eq_true q26
                 go_wp2
                 repeat (go_quiet (fail); try go_wp2)
                 go_meet
                 case rel => exact ⟨_, (((bt (rdOf ByteArray.empty x7_1 x5_1) (ji23)) == 32)), (by first | rfl | (simp; done) | (simp only [← hji23] <;> (first | rfl | simp)) | (simp [*]; done)), H', ⟨by have := HK1.out; first | omega | exact Nat.le_refl _⟩, ⟨by (with_reducible repeat (first | apply Kd.R_alloc | apply Kd.R_drewN | apply Kd.R_drew)); exact HO_7.out⟩, ⟨by (with_reducible repeat (first | refine blk_drewN ?_ _ | refine blk_drew ?_ | refine blk_alloc ?_ _)); exact BK314.out⟩, ⟨by repeat (first | (with_reducible first | exact HB.out | apply below_alloc | apply pw_below_drewN | apply below_drew1 | refine below_set ?_ GE314.out) | exact HB.out)⟩⟩
                ·rw [if_neg c25] at H
                 exact absurd H (by simp)
               ·rw [if_neg c24] at H
                exact absurd H (by simp)
              ·rw [if_neg c22] at H
               have c22b0 : decide (0 < ((rdOf ByteArray.empty x7_1 x5_1).size : Int)) = false := decide_eq_false c22
               have c22b1 : decide (0 < (rdOf ByteArray.empty x7_1 x5_1).size) = false := decide_eq_false (by omega)
               clear c22
               have H' := Aside0.mk H
               clear H
               have p317 : 0 ≤ (x5_1 : Int) := of_decide_eq_true (by first | (with_reducible assumption) | assumption)
               have q317 : x5_1 < (x7_1.length : Int) := of_decide_eq_true (by first | (with_reducible assumption) | assumption)
               obtain ⟨ad317, e317, hx317_0⟩ := Kd.at_string (Kd.R_reads' HO_7.out).2.2 x5_1 p317 q317
               obtain rfl : ad315 = ad317 := (by injection e317)
               replace p317 := eq_true p317
               replace q317 := eq_true q317
               go_wp2
               repeat (go_quiet (fail); try go_wp2)
               go_meet
               case rel => exact ⟨_, (false), (by first | rfl | (simp; done) | (simp [*]; done)), H', ⟨by have := HK1.out; first | omega | exact Nat.le_refl _⟩, ⟨by (with_reducible repeat (first | apply Kd.R_alloc | apply Kd.R_drewN | apply Kd.R_drew)); exact HO_7.out⟩, ⟨by (with_reducible repeat (first | refine blk_drewN ?_ _ | refine blk_drew ?_ | refine blk_alloc ?_ _)); exact BK314.out⟩, ⟨by repeat (first | (with_reducible first | exact HB.out | apply below_alloc | apply pw_below_drewN | apply below_drew1 | refine below_set ?_ GE314.out) | exact HB.out)⟩⟩
             ·rw [if_neg c21] at H
              exact absurd H (by simp)
            ·rw [if_neg c20] at H
             exact absurd H (by simp)
          case rest =>
           clear HC14
           try clear c1
           try clear c2
           try clear p2
           try clear q2
           try clear hx2
           try clear c3
           try clear p3
           try clear q3
           try clear hx3
           try clear c5
           try clear p6
           try clear c7
           try clear c7b0
           try clear c8
           try clear c8b0
           try clear c9
           try clear c9b0
           try clear c10
           try clear c10b0
           try clear c10b1
           try clear c11
           try clear c11b0
           try clear c12
           try clear c12b0
           try clear c19
           try clear c19b0
           try clear c20
           try clear c20b0
           try clear c21
           try clear c21b0
           try clear c22
           try clear c22b0
           try clear c22b1
           try clear c24
           try clear c24b0
           try clear c25
           try clear c25b0
           try clear p26
           try clear q26
           try clear hx26
           try clear hcz16_0
           try clear hcz16_1
           try clear hfz16_0
           try clear hfz16_1
           try clear hx313_0
           try clear hx313_1
           try clear hx315_0
           try clear hx317_0
           try clear hx318_0
           try clear hx319_0
           try clear p2
           try clear p26
           try clear p313
           try clear p315
           try clear p317
           try clear p318
           try clear p319
           try clear q26
           try clear q313
           try clear q315
           try clear q317
           try clear q318
           try clear q319
           obtain ⟨kq, x11_13, rfl, HA, HJ13, HO_7, BK314, HB⟩ := hcut
           cases kq with
           | zero => exact absurd HA.out (by simp [spec_collapsed.j1])
           | succ kj13 =>
            have H := HA.out
            clear HA
            simp only [spec_collapsed.j1] at H
            have HC27 := Aside0.mk H
            clear H
            go_upto_region 12 with (fail)
            repeat (go_quiet (fail); go_upto_region 12 with (fail))
            go_cut [71] (fun v71 wc => ∃ (kq : Nat) (x71_26 : Bool), v71 = .bool x71_26 ∧ Aside0 (spec_collapsed.j2 kq x5_1 x6_1 x7_1 t316 l0 (l0.length : Int) x17_1 x71_26 ((rd_T100 l0 x17_1).f0) ((rd_T100 l0 x17_1).f1) = some r) ∧ Aside0 (kq ≤ kj13) ∧ Aside0 (Kd.R Kd.string 9 wc w.heap.size (fun _ => True) (.slice (some ad315) x7_1.length co17) x7_1) ∧ Aside0 (wc.heap[gb314]? = some (.cells #[.int .i64 ((rd_T100 l0 x17_1).f0), .int .i64 ((rd_T100 l0 x17_1).f1)] 100 (0, 0))) ∧ Aside0 (Below w.heap.size w wc))
            case first =>
             have H := HC27.out
             clear HC27
             by_cases c28 : x11_13 = true
             ·subst c28
              have H1 : (if x6_1 = true then (spec_collapsed.j2 kj13 x5_1 x6_1 x7_1 t316 l0 (l0.length : Int) x17_1 false ((rd_T100 l0 x17_1).f0) ((rd_T100 l0 x17_1).f1)) else (if (t316.size : Int) > 0 then (if 0 < (t316.size : Int) then (spec_collapsed.j2 kj13 x5_1 x6_1 x7_1 t316 l0 (l0.length : Int) x17_1 ((bt t316 0) == 32) ((rd_T100 l0 x17_1).f0) ((rd_T100 l0 x17_1).f1)) else (none)) else (spec_collapsed.j2 kj13 x5_1 x6_1 x7_1 t316 l0 (l0.length : Int) x17_1 false ((rd_T100 l0 x17_1).f0) ((rd_T100 l0 x17_1).f1)))) = some r := by rw [if_pos rfl] at H; exact H
              clear H
              have H := H1
              clear H1
              by_cases c29 : x6_1 = true
              ·subst c29
               have H1 : (spec_collapsed.j2 kj13 x5_1 true x7_1 t316 l0 (l0.length : Int) x17_1 false ((rd_T100 l0 x17_1).f0) ((rd_T100 l0 x17_1).f1)) = some r := by rw [if_pos rfl] at H; exact H
               clear H
               have H := H1
               clear H1
               have H' := Aside0.mk H
               clear H
               go_wp2
               repeat (go_quiet (fail); try go_wp2)
               go_meet
               case rel => exact ⟨_, (false), (by first | rfl | (simp; done) | (simp [*]; done)), H', ⟨by have := HK1.out; have := HJ13.out; first | omega | exact Nat.le_refl _⟩, ⟨by (with_reducible repeat (first | apply Kd.R_alloc | apply Kd.R_drewN | apply Kd.R_drew)); exact HO_7.out⟩, ⟨by (with_reducible repeat (first | refine blk_drewN ?_ _ | refine blk_drew ?_ | refine blk_alloc ?_ _)); exact BK314.out⟩, ⟨by repeat (first | (with_reducible first | exact HB.out | apply below_alloc | apply pw_below_drewN | apply below_drew1 | refine below_set ?_ GE314.out) | exact HB.out)⟩⟩
              ·replace c29 := Bool.eq_false_iff.mpr c29
               subst c29
               have H1 : (if (t316.size : Int) > 0 then (if 0 < (t316.size : Int) then (spec_collapsed.j2 kj13 x5_1 false x7_1 t316 l0 (l0.length : Int) x17_1 ((bt t316 0) == 32) ((rd_T100 l0 x17_1).f0) ((rd_T100 l0 x17_1).f1)) else (none)) else (spec_collapsed.j2 kj13 x5_1 false x7_1 t316 l0 (l0.length : Int) x17_1 false ((rd_T100 l0 x17_1).f0) ((rd_T100 l0 x17_1).f1))) = some r := by rw [if_neg (show ¬ (false = true) by decide)] at H; exact H
               clear H
               have H := H1
               clear H1
               by_cases c30 : (t316.size : Int) > 0
               ·rw [if_pos c30] at H
                have c30b0 : decide (0 < (t316.size : Int)) = true := decide_eq_true c30
                have c30b1 : decide (0 < t316.size) = true := decide_eq_true (by omega)
                clear c30
                (first | rw [c30b0] | (simp only [i64_w, i32_w]; rw [c30b0]) | skip)
                by_cases c31 : 0 < (t316.size : Int)
                ·rw [if_pos c31] at H
                 have c31b0 : decide (0 < (t316.size : Int)) = true := decide_eq_true c31
                 have c31b1 : decide (0 < t316.size) = true := decide_eq_true (by omega)
                 clear c31
                 have H' := Aside0.mk H
                 clear H
                 have p32 : 0 ≤ (0 : Int) := (by omega)
                 have q32 : 0 < t316.size := (by have : (0 : Int) < (t316.size : Int) := of_decide_eq_true (by first | (with_reducible assumption) | assumption); omega)
                 have hx32 : ∀ h : 0 < t316.size, ((t316[0]'h).toNat : Int) = bt t316 0 := bt_at t316 0
                 clear p32
                 have qi32 : (0 < (t316.size : Int)) = True := eq_true (of_decide_eq_true (by first | (with_reducible assumption) | assumption))
                 replace q32 := eq_true q32
                 go_wp2
                 repeat (go_quiet (fail); try go_wp2)
                 go_meet
                 case rel => exact ⟨_, (((bt t316 0) == 32)), (by first | rfl | (simp; done) | (simp [*]; done)), H', ⟨by have := HK1.out; have := HJ13.out; first | omega | exact Nat.le_refl _⟩, ⟨by (with_reducible repeat (first | apply Kd.R_alloc | apply Kd.R_drewN | apply Kd.R_drew)); exact HO_7.out⟩, ⟨by (with_reducible repeat (first | refine blk_drewN ?_ _ | refine blk_drew ?_ | refine blk_alloc ?_ _)); exact BK314.out⟩, ⟨by repeat (first | (with_reducible first | exact HB.out | apply below_alloc | apply pw_below_drewN | apply below_drew1 | refine below_set ?_ GE314.out) | exact HB.out)⟩⟩
                ·rw [if_neg c31] at H
                 exact absurd H (by simp)
               ·rw [if_neg c30] at H
                have c30b0 : decide (0 < (t316.size : Int)) = false := decide_eq_false c30
                have c30b1 : decide (0 < t316.size) = false := decide_eq_false (by omega)
                clear c30
                (first | rw [c30b0] | (simp only [i64_w, i32_w]; rw [c30b0]) | skip)
                have H' := Aside0.mk H
                clear H
                go_wp2
                repeat (go_quiet (fail); try go_wp2)
                go_meet
                case rel => exact ⟨_, (false), (by first | rfl | (simp; done) | (simp [*]; done)), H', ⟨by have := HK1.out; have := HJ13.out; first | omega | exact Nat.le_refl _⟩, ⟨by (with_reducible repeat (first | apply Kd.R_alloc | apply Kd.R_drewN | apply Kd.R_drew)); exact HO_7.out⟩, ⟨by (with_reducible repeat (first | refine blk_drewN ?_ _ | refine blk_drew ?_ | refine blk_alloc ?_ _)); exact BK314.out⟩, ⟨by repeat (first | (with_reducible first | exact HB.out | apply below_alloc | apply pw_below_drewN | apply below_drew1 | refine below_set ?_ GE314.out) | exact HB.out)⟩⟩
             ·replace c28 := Bool.eq_false_iff.mpr c28
              subst c28
              have H1 : (spec_collapsed.j2 kj13 x5_1 x6_1 x7_1 t316 l0 (l0.length : Int) x17_1 false ((rd_T100 l0 x17_1).f0) ((rd_T100 l0 x17_1).f1)) = some r := by rw [if_neg (show ¬ (false = true) by decide)] at H; exact H
              clear H
              have H := H1
              clear H1
              have H' := Aside0.mk H
              clear H
              go_wp2
              repeat (go_quiet (fail); try go_wp2)
              go_meet
              case rel => exact ⟨_, (false), (by first | rfl | (simp; done) | (simp [*]; done)), H', ⟨by have := HK1.out; have := HJ13.out; first | omega | exact Nat.le_refl _⟩, ⟨by (with_reducible repeat (first | apply Kd.R_alloc | apply Kd.R_drewN | apply Kd.R_drew)); exact HO_7.out⟩, ⟨by (with_reducible repeat (first | refine blk_drewN ?_ _ | refine blk_drew ?_ | refine blk_alloc ?_ _)); exact BK314.out⟩, ⟨by repeat (first | (with_reducible first | exact HB.out | apply below_alloc | apply pw_below_drewN | apply below_drew1 | refine below_set ?_ GE314.out) | exact HB.out)⟩⟩
            case rest =>
             clear HC27
             try clear c1
             try clear c2
             try clear p2
             try clear q2
             try clear hx2
             try clear c3
             try clear p3
             try clear q3
             try clear hx3
             try clear qi3
             try clear c5
             try clear p6
             try clear c7
             try clear c7b0
             try clear c8
             try clear c8b0
             try clear c9
             try clear c9b0
             try clear c10
             try clear c10b0
             try clear c10b1
             try clear c11
             try clear c11b0
             try clear c12
             try clear c12b0
             try clear c19
             try clear c19b0
             try clear c20
             try clear c20b0
             try clear c21
             try clear c21b0
             try clear c22
             try clear c22b0
             try clear c22b1
             try clear c24
             try clear c24b0
             try clear c25
             try clear c25b0
             try clear p26
             try clear q26
             try clear hx26
             try clear c28
             try clear c29
             try clear c30
             try clear c30b0
             try clear c30b1
             try clear c31
             try clear c31b0
             try clear c31b1
             try clear p31
             try clear q31
             try clear hx31
             try clear p32
             try clear q32
             try clear hx32
             try clear qi32
             try clear hcz16_0
             try clear hcz16_1
             try clear hfz16_0
             try clear hfz16_1
             try clear hx313_0
             try clear hx313_1
             try clear hx315_0
             try clear hx317_0
             try clear hx318_0
             try clear hx319_0
             try clear p2
             try clear p26
             try clear p3
             try clear p313
             try clear p315
             try clear p317
             try clear p318
             try clear p319
             try clear p32
             try clear p6
             try clear q2
             try clear q26
             try clear q3
             try clear q313
             try clear q315
             try clear q317
             try clear q318
             try clear q319
             try clear q32
             obtain ⟨kq, x71_26, rfl, HA, HJ26, HO_7, BK314, HB⟩ := hcut
             cases kq with
             | zero => exact absurd HA.out (by simp [spec_collapsed.j2])
             | succ kj26 =>
              have H := HA.out
              clear HA
              simp only [spec_collapsed.j2] at H
              by_cases c33 : x71_26 = true
              ·subst c33
               have H1 : (if 1 ≤ (t316.size : Int) then (if 0 ≤ ((rd_T100 l0 x17_1).f1) then (if ((rd_T100 l0 x17_1).f1) < (x7_1.length : Int) then ((some (x7_1.set (((rd_T100 l0 x17_1).f1) : Int).toNat (t316.extract 1 t316.size) : List ByteArray)).bind fun y320 => (if (t316.extract 1 t316.size).toList = ([] : List UInt8) then (spec_collapsed.l0 kj26 x5_1 x6_1 y320 l0 (l0.length : Int) (wrap64 (x17_1 + 1))) else (spec_collapsed.l0 kj26 ((rd_T100 l0 x17_1).f1) x6_1 y320 l0 (l0.length : Int) (wrap64 (x17_1 + 1))))) else (none)) else (none)) else (none)) = some r := by rw [if_pos rfl] at H; exact H
               clear H
               have H := H1
               clear H1
               by_cases c34 : 1 ≤ (t316.size : Int)
               ·rw [if_pos c34] at H
                have c34b0 := eq_true c34
                have c34b1 : decide (1 ≤ (t316.size : Int)) = true := decide_eq_true c34
                clear c34
                by_cases c35 : 0 ≤ ((rd_T100 l0 x17_1).f1)
                ·rw [if_pos c35] at H
                 have c35b0 : decide (0 ≤ ((rd_T100 l0 x17_1).f1)) = true := decide_eq_true c35
                 clear c35
                 by_cases c36 : ((rd_T100 l0 x17_1).f1) < (x7_1.length : Int)
                 ·rw [if_pos c36] at H
                  have c36b0 : decide (((rd_T100 l0 x17_1).f1) < (x7_1.length : Int)) = true := decide_eq_true c36
                  clear c36
                  obtain ⟨y320, hy320⟩ : ∃ y_ : List ByteArray, y_ = (x7_1.set (((rd_T100 l0 x17_1).f1) : Int).toNat (t316.extract 1 t316.size)) := ⟨_, rfl⟩
                  replace H : (if (t316.extract 1 t316.size).toList = ([] : List UInt8) then (spec_collapsed.l0 kj26 x5_1 x6_1 y320 l0 (l0.length : Int) (wrap64 (x17_1 + 1))) else (spec_collapsed.l0 kj26 ((rd_T100 l0 x17_1).f1) x6_1 y320 l0 (l0.length : Int) (wrap64 (x17_1 + 1)))) = some r := by first | (rw [hy320]; with_reducible exact H) | (have H2_ := (Option.bind_some _ _).symm.trans H; rw [hy320]; with_reducible exact H2_) | (have H2_ := (Option.bind_some _ _).symm.trans H; with_reducible exact H2_) | with_reducible exact H | (rw [hy320]; exact H) | exact H
                  have Ny320 := Aside0.mk hy320
                  clear hy320
                  by_cases c38 : (t316.extract 1 t316.size).toList = ([] : List UInt8)
                  ·rw [if_pos c38] at H
                   have c38b0 : ((t316.extract 1 t316.size).toList == ([] : List UInt8)) = true := beq_iff_eq.mpr c38
                   have c38b1 : ((t316.extract 1 t316.size).toList != ([] : List UInt8)) = false := bne_eq_false_iff_eq.mpr c38
                   clear c38
                   have H' := Aside0.mk H
                   clear H
                   have hcz39_0 : wc.cell? ⟨gb314, 0, none⟩ = some (.int .i64 ((rd_T100 l0 x17_1).f0)) := (blk_cell BK314.out 0).trans rfl
                   have hcz39_1 : wc.cell? ⟨gb314, 1, none⟩ = some (.int .i64 ((rd_T100 l0 x17_1).f1)) := (blk_cell BK314.out 1).trans rfl
                   have hfz39_0 := blk_frozen BK314.out 0
                   have hfz39_1 := blk_frozen BK314.out 1
                   have p37 : 0 ≤ (((rd_T100 l0 x17_1).f1) : Int) := of_decide_eq_true (by first | (with_reducible assumption) | assumption)
                   have q37 : (((rd_T100 l0 x17_1).f1) : Int) < ((x7_1.length : Int) : Int) := of_decide_eq_true (by first | (with_reducible assumption) | assumption)
                   obtain ⟨go37, co37, eo37, gb37, gl37, cl37, HG37⟩ := Kd.R_form HO_7.out (by omega)
                   (first | cases eo37 | (injection eo37 with ea_ en_ ec_; (first | subst ea_ | (injection ea_ with ea_; subst ea_)); subst ec_; clear en_))
                   have GB37 := Aside0.mk gb37
                   have GG37 := Aside0.mk HG37
                   clear gb37 gl37 HG37
                   (first | simp only [add_plain] at hx315_0 | skip)
                   (first | simp only [add_plain] at hx317_0 | skip)
                   (first | simp only [add_plain] at hx318_0 | skip)
                   (first | simp only [add_plain] at hx319_0 | skip)
                   obtain ⟨hx37_0, hf37_0⟩ := Kd.R_celln (⟨#[]⟩ : ByteArray) HO_7.out (((rd_T100 l0 x17_1).f1) : Int) p37 q37
                   replace p37 := eq_true p37
                   replace q37 := eq_true q37
                   have HP40 := Kd.R_putg HO_7.out (((rd_T100 l0 x17_1).f1) : Int) (t316.extract 1 t316.size)
                   go_wp2_with (first | ((with_reducible refine gate_store (t := 9) (p := 78) rfl ?_); (try (rw [drewN_self wc]; generalize hq_ : World.drewN wc _ = wc; have n0_ := Aside0.mk (Kd.R_at hq_ HO_7.out); have n1_ := Aside0.mk (blk_at hq_ BK314.out); have n2_ := Aside0.mk (below_at hq_ HB.out); clear hq_ HO_7 BK314 HB; have HO_7 := n0_; have BK314 := n1_; have HB := n2_; clear n0_ n1_ n2_; (try (have HP40 := Kd.R_putg HO_7.out (((rd_T100 l0 x17_1).f1) : Int) (t316.extract 1 t316.size))))); refine store_event (t := 9) (p := 78) (v := ?vo_w41) (w1 := (wc.setCell ⟨go37, (((rd_T100 l0 x17_1).f1) : Int).toNat, none⟩ (.string (t316.extract 1 t316.size)))) ?hg ?ho ?hn ?hr ?_; (case ho => rfl); (case hg => rfl); (case hn => rfl); (case hr => first | (go_simp; done) | (go_simp; rfl)); intro w41 hw; have hg : wc.grownBy w41 (some go37) := (by rw [hw]; exact HP40.2); have hp_ : Kd.R Kd.string 9 w41 w.heap.size (fun _ => True) (.slice (some ⟨go37, 0, none⟩) x7_1.length co17) y320 := (by rw [hw, Ny320.out]; exact HP40.1); clear HP40; have n0_ := Aside0.mk (hp_); have n1_ := Aside0.mk (blk_grown (g := gb314) (o := .cells #[.int .i64 ((rd_T100 l0 x17_1).f0), .int .i64 ((rd_T100 l0 x17_1).f1)] 100 (0, 0)) (by (with_reducible repeat (first | refine blk_drewN ?_ _ | refine blk_drew ?_ | refine blk_alloc ?_ _)); exact BK314.out) hg (Kd.R_ne HO_7.out BK314.out (by decide))); have n2_ := Aside0.mk ((by rw [hw]; exact below_set (HB.out) GB37.out : Below w.heap.size w w41)); clear HO_7; clear BK314; clear HB; have HO_7 := n0_; have BK314 := n1_; have HB := n2_; clear n0_ n1_ n2_; clear hg hw hp_))
                   repeat (go_quiet (first | ((with_reducible refine gate_store (t := 9) (p := 78) rfl ?_); (try (rw [drewN_self wc]; generalize hq_ : World.drewN wc _ = wc; have n0_ := Aside0.mk (Kd.R_at hq_ HO_7.out); have n1_ := Aside0.mk (blk_at hq_ BK314.out); have n2_ := Aside0.mk (below_at hq_ HB.out); clear hq_ HO_7 BK314 HB; have HO_7 := n0_; have BK314 := n1_; have HB := n2_; clear n0_ n1_ n2_; (try (have HP40 := Kd.R_putg HO_7.out (((rd_T100 l0 x17_1).f1) : Int) (t316.extract 1 t316.size))))); refine store_event (t := 9) (p := 78) (v := ?vo_w41) (w1 := (wc.setCell ⟨go37, (((rd_T100 l0 x17_1).f1) : Int).toNat, none⟩ (.string (t316.extract 1 t316.size)))) ?hg ?ho ?hn ?hr ?_; (case ho => rfl); (case hg => rfl); (case hn => rfl); (case hr => first | (go_simp; done) | (go_simp; rfl)); intro w41 hw; have hg : wc.grownBy w41 (some go37) := (by rw [hw]; exact HP40.2); have hp_ : Kd.R Kd.string 9 w41 w.heap.size (fun _ => True) (.slice (some ⟨go37, 0, none⟩) x7_1.length co17) y320 := (by rw [hw, Ny320.out]; exact HP40.1); clear HP40; have n0_ := Aside0.mk (hp_); have n1_ := Aside0.mk (blk_grown (g := gb314) (o := .cells #[.int .i64 ((rd_T100 l0 x17_1).f0), .int .i64 ((rd_T100 l0 x17_1).f1)] 100 (0, 0)) (by (with_reducible repeat (first | refine blk_drewN ?_ _ | refine blk_drew ?_ | refine blk_alloc ?_ _)); exact BK314.out) hg (Kd.R_ne HO_7.out BK314.out (by decide))); have n2_ := Aside0.mk ((by rw [hw]; exact below_set (HB.out) GB37.out : Below w.heap.size w w41)); clear HO_7; clear BK314; clear HB; have HO_7 := n0_; have BK314 := n1_; have HB := n2_; clear n0_ n1_ n2_; clear hg hw hp_)); try go_wp2_with (first | ((with_reducible refine gate_store (t := 9) (p := 78) rfl ?_); (try (rw [drewN_self wc]; generalize hq_ : World.drewN wc _ = wc; have n0_ := Aside0.mk (Kd.R_at hq_ HO_7.out); have n1_ := Aside0.mk (blk_at hq_ BK314.out); have n2_ := Aside0.mk (below_at hq_ HB.out); clear hq_ HO_7 BK314 HB; have HO_7 := n0_; have BK314 := n1_; have HB := n2_; clear n0_ n1_ n2_; (try (have HP40 := Kd.R_putg HO_7.out (((rd_T100 l0 x17_1).f1) : Int) (t316.extract 1 t316.size))))); refine store_event (t := 9) (p := 78) (v := ?vo_w41) (w1 := (wc.setCell ⟨go37, (((rd_T100 l0 x17_1).f1) : Int).toNat, none⟩ (.string (t316.extract 1 t316.size)))) ?hg ?ho ?hn ?hr ?_; (case ho => rfl); (case hg => rfl); (case hn => rfl); (case hr => first | (go_simp; done) | (go_simp; rfl)); intro w41 hw; have hg : wc.grownBy w41 (some go37) := (by rw [hw]; exact HP40.2); have hp_ : Kd.R Kd.string 9 w41 w.heap.size (fun _ => True) (.slice (some ⟨go37, 0, none⟩) x7_1.length co17) y320 := (by rw [hw, Ny320.out]; exact HP40.1); clear HP40; have n0_ := Aside0.mk (hp_); have n1_ := Aside0.mk (blk_grown (g := gb314) (o := .cells #[.int .i64 ((rd_T100 l0 x17_1).f0), .int .i64 ((rd_T100 l0 x17_1).f1)] 100 (0, 0)) (by (with_reducible repeat (first | refine blk_drewN ?_ _ | refine blk_drew ?_ | refine blk_alloc ?_ _)); exact BK314.out) hg (Kd.R_ne HO_7.out BK314.out (by decide))); have n2_ := Aside0.mk ((by rw [hw]; exact below_set (HB.out) GB37.out : Below w.heap.size w w41)); clear HO_7; clear BK314; clear HB; have HO_7 := n0_; have BK314 := n1_; have HB := n2_; clear n0_ n1_ n2_; clear hg hw hp_)))
                   go_roundg kj26
                   case measure => have := HK1.out; have := HJ13.out; have := HJ26.out; omega
                   case rel => exact ⟨(x5_1), (x6_1), (y320), (wrap64 (x17_1 + 1)), (by first | rfl | (simp; done) | (simp [*]; done)), (by first | rfl | (simp; done) | (simp [*]; done)), (by first | rfl | (simp; done) | (simp [*]; done)), H', ⟨by have := HK1.out; have := HJ13.out; have := HJ26.out; omega⟩, ⟨by (with_reducible repeat (first | apply Kd.R_alloc | apply Kd.R_drewN | apply Kd.R_drew)); exact HO_7.out⟩, ⟨by repeat (first | (with_reducible first | exact HB.out | apply below_alloc | apply pw_below_drewN | apply below_drew1 | refine below_set ?_ GE314.out) | exact HB.out)⟩⟩
                  ·rw [if_neg c38] at H
                   have c38b0 : ((t316.extract 1 t316.size).toList == ([] : List UInt8)) = false := beq_eq_false_iff_ne.mpr c38
                   have c38b1 : ((t316.extract 1 t316.size).toList != ([] : List UInt8)) = true := bne_iff_ne.mpr c38
                   have H' := Aside0.mk H
                   clear H
                   have hcz42_0 : wc.cell? ⟨gb314, 0, none⟩ = some (.int .i64 ((rd_T100 l0 x17_1).f0)) := (blk_cell BK314.out 0).trans rfl
                   have hcz42_1 : wc.cell? ⟨gb314, 1, none⟩ = some (.int .i64 ((rd_T100 l0 x17_1).f1)) := (blk_cell BK314.out 1).trans rfl
                   have hfz42_0 := blk_frozen BK314.out 0
                   have hfz42_1 := blk_frozen BK314.out 1
                   have p37 : 0 ≤ (((rd_T100 l0 x17_1).f1) : Int) := of_decide_eq_true (by first | (with_reducible assumption) | assumption)
                   have q37 : (((rd_T100 l0 x17_1).f1) : Int) < ((x7_1.length : Int) : Int) := of_decide_eq_true (by first | (with_reducible assumption) | assumption)
                   obtain ⟨go37, co37, eo37, gb37, gl37, cl37, HG37⟩ := Kd.R_form HO_7.out (by omega)
                   (first | cases eo37 | (injection eo37 with ea_ en_ ec_; (first | subst ea_ | (injection ea_ with ea_; subst ea_)); subst ec_; clear en_))
                   have GB37 := Aside0.mk gb37
                   have GG37 := Aside0.mk HG37
                   clear gb37 gl37 HG37
                   obtain ⟨hx37_0, hf37_0⟩ := Kd.R_celln (⟨#[]⟩ : ByteArray) HO_7.out (((rd_T100 l0 x17_1).f1) : Int) p37 q37
                   replace p37 := eq_true p37
                   replace q37 := eq_true q37
                   have HP43 := Kd.R_putg HO_7.out (((rd_T100 l0 x17_1).f1) : Int) (t316.extract 1 t316.size)
                   go_wp2_with (first | ((with_reducible refine gate_store (t := 9) (p := 78) rfl ?_); (try (rw [drewN_self wc]; generalize hq_ : World.drewN wc _ = wc; have n0_ := Aside0.mk (Kd.R_at hq_ HO_7.out); have n1_ := Aside0.mk (blk_at hq_ BK314.out); have n2_ := Aside0.mk (below_at hq_ HB.out); clear hq_ HO_7 BK314 HB; have HO_7 := n0_; have BK314 := n1_; have HB := n2_; clear n0_ n1_ n2_; (try (have HP43 := Kd.R_putg HO_7.out (((rd_T100 l0 x17_1).f1) : Int) (t316.extract 1 t316.size))))); refine store_event (t := 9) (p := 78) (v := ?vo_w44) (w1 := (wc.setCell ⟨go37, (((rd_T100 l0 x17_1).f1) : Int).toNat, none⟩ (.string (t316.extract 1 t316.size)))) ?hg ?ho ?hn ?hr ?_; (case ho => rfl); (case hg => rfl); (case hn => rfl); (case hr => first | (go_simp; done) | (go_simp; rfl)); intro w44 hw; have hg : wc.grownBy w44 (some go37) := (by rw [hw]; exact HP43.2); have hp_ : Kd.R Kd.string 9 w44 w.heap.size (fun _ => True) (.slice (some ⟨go37, 0, none⟩) x7_1.length co17) y320 := (by rw [hw, Ny320.out]; exact HP43.1); clear HP43; have n0_ := Aside0.mk (hp_); have n1_ := Aside0.mk (blk_grown (g := gb314) (o := .cells #[.int .i64 ((rd_T100 l0 x17_1).f0), .int .i64 ((rd_T100 l0 x17_1).f1)] 100 (0, 0)) (by (with_reducible repeat (first | refine blk_drewN ?_ _ | refine blk_drew ?_ | refine blk_alloc ?_ _)); exact BK314.out) hg (Kd.R_ne HO_7.out BK314.out (by decide))); have n2_ := Aside0.mk ((by rw [hw]; exact below_set (HB.out) GB37.out : Below w.heap.size w w44)); clear HO_7; clear BK314; clear HB; have HO_7 := n0_; have BK314 := n1_; have HB := n2_; clear n0_ n1_ n2_; clear hg hw hp_; have hcz45_0 : w44.cell? ⟨gb314, 0, none⟩ = some (.int .i64 ((rd_T100 l0 x17_1).f0)) := (blk_cell BK314.out 0).trans rfl; have hcz45_1 : w44.cell? ⟨gb314, 1, none⟩ = some (.int .i64 ((rd_T100 l0 x17_1).f1)) := (blk_cell BK314.out 1).trans rfl; have hfz45_0 := blk_frozen BK314.out 0; have hfz45_1 := blk_frozen BK314.out 1))
                   repeat (go_quiet (first | ((with_reducible refine gate_store (t := 9) (p := 78) rfl ?_); (try (rw [drewN_self wc]; generalize hq_ : World.drewN wc _ = wc; have n0_ := Aside0.mk (Kd.R_at hq_ HO_7.out); have n1_ := Aside0.mk (blk_at hq_ BK314.out); have n2_ := Aside0.mk (below_at hq_ HB.out); clear hq_ HO_7 BK314 HB; have HO_7 := n0_; have BK314 := n1_; have HB := n2_; clear n0_ n1_ n2_; (try (have HP43 := Kd.R_putg HO_7.out (((rd_T100 l0 x17_1).f1) : Int) (t316.extract 1 t316.size))))); refine store_event (t := 9) (p := 78) (v := ?vo_w44) (w1 := (wc.setCell ⟨go37, (((rd_T100 l0 x17_1).f1) : Int).toNat, none⟩ (.string (t316.extract 1 t316.size)))) ?hg ?ho ?hn ?hr ?_; (case ho => rfl); (case hg => rfl); (case hn => rfl); (case hr => first | (go_simp; done) | (go_simp; rfl)); intro w44 hw; have hg : wc.grownBy w44 (some go37) := (by rw [hw]; exact HP43.2); have hp_ : Kd.R Kd.string 9 w44 w.heap.size (fun _ => True) (.slice (some ⟨go37, 0, none⟩) x7_1.length co17) y320 := (by rw [hw, Ny320.out]; exact HP43.1); clear HP43; have n0_ := Aside0.mk (hp_); have n1_ := Aside0.mk (blk_grown (g := gb314) (o := .cells #[.int .i64 ((rd_T100 l0 x17_1).f0), .int .i64 ((rd_T100 l0 x17_1).f1)] 100 (0, 0)) (by (with_reducible repeat (first | refine blk_drewN ?_ _ | refine blk_drew ?_ | refine blk_alloc ?_ _)); exact BK314.out) hg (Kd.R_ne HO_7.out BK314.out (by decide))); have n2_ := Aside0.mk ((by rw [hw]; exact below_set (HB.out) GB37.out : Below w.heap.size w w44)); clear HO_7; clear BK314; clear HB; have HO_7 := n0_; have BK314 := n1_; have HB := n2_; clear n0_ n1_ n2_; clear hg hw hp_; have hcz45_0 : w44.cell? ⟨gb314, 0, none⟩ = some (.int .i64 ((rd_T100 l0 x17_1).f0)) := (blk_cell BK314.out 0).trans rfl; have hcz45_1 : w44.cell? ⟨gb314, 1, none⟩ = some (.int .i64 ((rd_T100 l0 x17_1).f1)) := (blk_cell BK314.out 1).trans rfl; have hfz45_0 := blk_frozen BK314.out 0; have hfz45_1 := blk_frozen BK314.out 1)); try go_wp2_with (first | ((with_reducible refine gate_store (t := 9) (p := 78) rfl ?_); (try (rw [drewN_self wc]; generalize hq_ : World.drewN wc _ = wc; have n0_ := Aside0.mk (Kd.R_at hq_ HO_7.out); have n1_ := Aside0.mk (blk_at hq_ BK314.out); have n2_ := Aside0.mk (below_at hq_ HB.out); clear hq_ HO_7 BK314 HB; have HO_7 := n0_; have BK314 := n1_; have HB := n2_; clear n0_ n1_ n2_; (try (have HP43 := Kd.R_putg HO_7.out (((rd_T100 l0 x17_1).f1) : Int) (t316.extract 1 t316.size))))); refine store_event (t := 9) (p := 78) (v := ?vo_w44) (w1 := (wc.setCell ⟨go37, (((rd_T100 l0 x17_1).f1) : Int).toNat, none⟩ (.string (t316.extract 1 t316.size)))) ?hg ?ho ?hn ?hr ?_; (case ho => rfl); (case hg => rfl); (case hn => rfl); (case hr => first | (go_simp; done) | (go_simp; rfl)); intro w44 hw; have hg : wc.grownBy w44 (some go37) := (by rw [hw]; exact HP43.2); have hp_ : Kd.R Kd.string 9 w44 w.heap.size (fun _ => True) (.slice (some ⟨go37, 0, none⟩) x7_1.length co17) y320 := (by rw [hw, Ny320.out]; exact HP43.1); clear HP43; have n0_ := Aside0.mk (hp_); have n1_ := Aside0.mk (blk_grown (g := gb314) (o := .cells #[.int .i64 ((rd_T100 l0 x17_1).f0), .int .i64 ((rd_T100 l0 x17_1).f1)] 100 (0, 0)) (by (with_reducible repeat (first | refine blk_drewN ?_ _ | refine blk_drew ?_ | refine blk_alloc ?_ _)); exact BK314.out) hg (Kd.R_ne HO_7.out BK314.out (by decide))); have n2_ := Aside0.mk ((by rw [hw]; exact below_set (HB.out) GB37.out : Below w.heap.size w w44)); clear HO_7; clear BK314; clear HB; have HO_7 := n0_; have BK314 := n1_; have HB := n2_; clear n0_ n1_ n2_; clear hg hw hp_; have hcz45_0 : w44.cell? ⟨gb314, 0, none⟩ = some (.int .i64 ((rd_T100 l0 x17_1).f0)) := (blk_cell BK314.out 0).trans rfl; have hcz45_1 : w44.cell? ⟨gb314, 1, none⟩ = some (.int .i64 ((rd_T100 l0 x17_1).f1)) := (blk_cell BK314.out 1).trans rfl; have hfz45_0 := blk_frozen BK314.out 0; have hfz45_1 := blk_frozen BK314.out 1)))
                   go_roundg kj26
                   case measure => have := HK1.out; have := HJ13.out; have := HJ26.out; omega
                   case rel => exact ⟨(((rd_T100 l0 x17_1).f1)), (x6_1), (y320), (wrap64 (x17_1 + 1)), (by first | rfl | (simp; done) | (simp [*]; done)), (by first | rfl | (simp; done) | (simp [*]; done)), (by first | rfl | (simp; done) | (simp [*]; done)), H', ⟨by have := HK1.out; have := HJ13.out; have := HJ26.out; omega⟩, ⟨by (with_reducible repeat (first | apply Kd.R_alloc | apply Kd.R_drewN | apply Kd.R_drew)); exact HO_7.out⟩, ⟨by repeat (first | (with_reducible first | exact HB.out | apply below_alloc | apply pw_below_drewN | apply below_drew1 | refine below_set ?_ GE314.out) | exact HB.out)⟩⟩
                 ·rw [if_neg c36] at H
                  exact absurd H (by simp)
                ·rw [if_neg c35] at H
                 exact absurd H (by simp)
               ·rw [if_neg c34] at H
                exact absurd H (by simp)
              ·replace c33 := Bool.eq_false_iff.mpr c33
               subst c33
               have H1 : (if 0 ≤ ((rd_T100 l0 x17_1).f1) then (if ((rd_T100 l0 x17_1).f1) < (x7_1.length : Int) then ((some (x7_1.set (((rd_T100 l0 x17_1).f1) : Int).toNat t316 : List ByteArray)).bind fun y321 => (if t316.toList = ([] : List UInt8) then (spec_collapsed.l0 kj26 x5_1 x6_1 y321 l0 (l0.length : Int) (wrap64 (x17_1 + 1))) else (spec_collapsed.l0 kj26 ((rd_T100 l0 x17_1).f1) x6_1 y321 l0 (l0.length : Int) (wrap64 (x17_1 + 1))))) else (none)) else (none)) = some r := by rw [if_neg (show ¬ (false = true) by decide)] at H; exact H
               clear H
               have H := H1
               clear H1
               by_cases c46 : 0 ≤ ((rd_T100 l0 x17_1).f1)
               ·rw [if_pos c46] at H
                have c46b0 : decide (0 ≤ ((rd_T100 l0 x17_1).f1)) = true := decide_eq_true c46
                clear c46
                by_cases c47 : ((rd_T100 l0 x17_1).f1) < (x7_1.length : Int)
                ·rw [if_pos c47] at H
                 have c47b0 : decide (((rd_T100 l0 x17_1).f1) < (x7_1.length : Int)) = true := decide_eq_true c47
                 clear c47
                 obtain ⟨y321, hy321⟩ : ∃ y_ : List ByteArray, y_ = (x7_1.set (((rd_T100 l0 x17_1).f1) : Int).toNat t316) := ⟨_, rfl⟩
                 replace H : (if t316.toList = ([] : List UInt8) then (spec_collapsed.l0 kj26 x5_1 x6_1 y321 l0 (l0.length : Int) (wrap64 (x17_1 + 1))) else (spec_collapsed.l0 kj26 ((rd_T100 l0 x17_1).f1) x6_1 y321 l0 (l0.length : Int) (wrap64 (x17_1 + 1)))) = some r := by first | (rw [hy321]; with_reducible exact H) | (have H2_ := (Option.bind_some _ _).symm.trans H; rw [hy321]; with_reducible exact H2_) | (have H2_ := (Option.bind_some _ _).symm.trans H; with_reducible exact H2_) | with_reducible exact H | (rw [hy321]; exact H) | exact H
                 have Ny321 := Aside0.mk hy321
                 clear hy321
                 by_cases c49 : t316.toList = ([] : List UInt8)
                 ·rw [if_pos c49] at H
                  have c49b0 : (t316.toList == ([] : List UInt8)) = true := beq_iff_eq.mpr c49
                  have c49b1 : (t316.toList != ([] : List UInt8)) = false := bne_eq_false_iff_eq.mpr c49
                  clear c49
                  have H' := Aside0.mk H
                  clear H
                  have hcz50_0 : wc.cell? ⟨gb314, 0, none⟩ = some (.int .i64 ((rd_T100 l0 x17_1).f0)) := (blk_cell BK314.out 0).trans rfl
                  have hcz50_1 : wc.cell? ⟨gb314, 1, none⟩ = some (.int .i64 ((rd_T100 l0 x17_1).f1)) := (blk_cell BK314.out 1).trans rfl
                  have hfz50_0 := blk_frozen BK314.out 0
                  have hfz50_1 := blk_frozen BK314.out 1
                  have p48 : 0 ≤ (((rd_T100 l0 x17_1).f1) : Int) := of_decide_eq_true (by first | (with_reducible assumption) | assumption)
                  have q48 : (((rd_T100 l0 x17_1).f1) : Int) < ((x7_1.length : Int) : Int) := of_decide_eq_true (by first | (with_reducible assumption) | assumption)
                  obtain ⟨go48, co48, eo48, gb48, gl48, cl48, HG48⟩ := Kd.R_form HO_7.out (by omega)
                  (first | cases eo48 | (injection eo48 with ea_ en_ ec_; (first | subst ea_ | (injection ea_ with ea_; subst ea_)); subst ec_; clear en_))
                  have GB48 := Aside0.mk gb48
                  have GG48 := Aside0.mk HG48
                  clear gb48 gl48 HG48
                  obtain ⟨hx48_0, hf48_0⟩ := Kd.R_celln (⟨#[]⟩ : ByteArray) HO_7.out (((rd_T100 l0 x17_1).f1) : Int) p48 q48
                  replace p48 := eq_true p48
                  replace q48 := eq_true q48
                  have HP51 := Kd.R_putg HO_7.out (((rd_T100 l0 x17_1).f1) : Int) t316
                  go_wp2_with (first | ((with_reducible refine gate_store (t := 9) (p := 78) rfl ?_); (try (rw [drewN_self wc]; generalize hq_ : World.drewN wc _ = wc; have n0_ := Aside0.mk (Kd.R_at hq_ HO_7.out); have n1_ := Aside0.mk (blk_at hq_ BK314.out); have n2_ := Aside0.mk (below_at hq_ HB.out); clear hq_ HO_7 BK314 HB; have HO_7 := n0_; have BK314 := n1_; have HB := n2_; clear n0_ n1_ n2_; (try (have HP51 := Kd.R_putg HO_7.out (((rd_T100 l0 x17_1).f1) : Int) t316)))); refine store_event (t := 9) (p := 78) (v := ?vo_w52) (w1 := (wc.setCell ⟨go48, (((rd_T100 l0 x17_1).f1) : Int).toNat, none⟩ (.string t316))) ?hg ?ho ?hn ?hr ?_; (case ho => rfl); (case hg => rfl); (case hn => rfl); (case hr => first | (go_simp; done) | (go_simp; rfl)); intro w52 hw; have hg : wc.grownBy w52 (some go48) := (by rw [hw]; exact HP51.2); have hp_ : Kd.R Kd.string 9 w52 w.heap.size (fun _ => True) (.slice (some ⟨go48, 0, none⟩) x7_1.length co17) y321 := (by rw [hw, Ny321.out]; exact HP51.1); clear HP51; have n0_ := Aside0.mk (hp_); have n1_ := Aside0.mk (blk_grown (g := gb314) (o := .cells #[.int .i64 ((rd_T100 l0 x17_1).f0), .int .i64 ((rd_T100 l0 x17_1).f1)] 100 (0, 0)) (by (with_reducible repeat (first | refine blk_drewN ?_ _ | refine blk_drew ?_ | refine blk_alloc ?_ _)); exact BK314.out) hg (Kd.R_ne HO_7.out BK314.out (by decide))); have n2_ := Aside0.mk ((by rw [hw]; exact below_set (HB.out) GB48.out : Below w.heap.size w w52)); clear HO_7; clear BK314; clear HB; have HO_7 := n0_; have BK314 := n1_; have HB := n2_; clear n0_ n1_ n2_; clear hg hw hp_))
                  repeat (go_quiet (first | ((with_reducible refine gate_store (t := 9) (p := 78) rfl ?_); (try (rw [drewN_self wc]; generalize hq_ : World.drewN wc _ = wc; have n0_ := Aside0.mk (Kd.R_at hq_ HO_7.out); have n1_ := Aside0.mk (blk_at hq_ BK314.out); have n2_ := Aside0.mk (below_at hq_ HB.out); clear hq_ HO_7 BK314 HB; have HO_7 := n0_; have BK314 := n1_; have HB := n2_; clear n0_ n1_ n2_; (try (have HP51 := Kd.R_putg HO_7.out (((rd_T100 l0 x17_1).f1) : Int) t316)))); refine store_event (t := 9) (p := 78) (v := ?vo_w52) (w1 := (wc.setCell ⟨go48, (((rd_T100 l0 x17_1).f1) : Int).toNat, none⟩ (.string t316))) ?hg ?ho ?hn ?hr ?_; (case ho => rfl); (case hg => rfl); (case hn => rfl); (case hr => first | (go_simp; done) | (go_simp; rfl)); intro w52 hw; have hg : wc.grownBy w52 (some go48) := (by rw [hw]; exact HP51.2); have hp_ : Kd.R Kd.string 9 w52 w.heap.size (fun _ => True) (.slice (some ⟨go48, 0, none⟩) x7_1.length co17) y321 := (by rw [hw, Ny321.out]; exact HP51.1); clear HP51; have n0_ := Aside0.mk (hp_); have n1_ := Aside0.mk (blk_grown (g := gb314) (o := .cells #[.int .i64 ((rd_T100 l0 x17_1).f0), .int .i64 ((rd_T100 l0 x17_1).f1)] 100 (0, 0)) (by (with_reducible repeat (first | refine blk_drewN ?_ _ | refine blk_drew ?_ | refine blk_alloc ?_ _)); exact BK314.out) hg (Kd.R_ne HO_7.out BK314.out (by decide))); have n2_ := Aside0.mk ((by rw [hw]; exact below_set (HB.out) GB48.out : Below w.heap.size w w52)); clear HO_7; clear BK314; clear HB; have HO_7 := n0_; have BK314 := n1_; have HB := n2_; clear n0_ n1_ n2_; clear hg hw hp_)); try go_wp2_with (first | ((with_reducible refine gate_store (t := 9) (p := 78) rfl ?_); (try (rw [drewN_self wc]; generalize hq_ : World.drewN wc _ = wc; have n0_ := Aside0.mk (Kd.R_at hq_ HO_7.out); have n1_ := Aside0.mk (blk_at hq_ BK314.out); have n2_ := Aside0.mk (below_at hq_ HB.out); clear hq_ HO_7 BK314 HB; have HO_7 := n0_; have BK314 := n1_; have HB := n2_; clear n0_ n1_ n2_; (try (have HP51 := Kd.R_putg HO_7.out (((rd_T100 l0 x17_1).f1) : Int) t316)))); refine store_event (t := 9) (p := 78) (v := ?vo_w52) (w1 := (wc.setCell ⟨go48, (((rd_T100 l0 x17_1).f1) : Int).toNat, none⟩ (.string t316))) ?hg ?ho ?hn ?hr ?_; (case ho => rfl); (case hg => rfl); (case hn => rfl); (case hr => first | (go_simp; done) | (go_simp; rfl)); intro w52 hw; have hg : wc.grownBy w52 (some go48) := (by rw [hw]; exact HP51.2); have hp_ : Kd.R Kd.string 9 w52 w.heap.size (fun _ => True) (.slice (some ⟨go48, 0, none⟩) x7_1.length co17) y321 := (by rw [hw, Ny321.out]; exact HP51.1); clear HP51; have n0_ := Aside0.mk (hp_); have n1_ := Aside0.mk (blk_grown (g := gb314) (o := .cells #[.int .i64 ((rd_T100 l0 x17_1).f0), .int .i64 ((rd_T100 l0 x17_1).f1)] 100 (0, 0)) (by (with_reducible repeat (first | refine blk_drewN ?_ _ | refine blk_drew ?_ | refine blk_alloc ?_ _)); exact BK314.out) hg (Kd.R_ne HO_7.out BK314.out (by decide))); have n2_ := Aside0.mk ((by rw [hw]; exact below_set (HB.out) GB48.out : Below w.heap.size w w52)); clear HO_7; clear BK314; clear HB; have HO_7 := n0_; have BK314 := n1_; have HB := n2_; clear n0_ n1_ n2_; clear hg hw hp_)))
                  go_roundg kj26
                  case measure => have := HK1.out; have := HJ13.out; have := HJ26.out; omega
                  case rel => exact ⟨(x5_1), (x6_1), (y321), (wrap64 (x17_1 + 1)), (by first | rfl | (simp; done) | (simp [*]; done)), (by first | rfl | (simp; done) | (simp [*]; done)), (by first | rfl | (simp; done) | (simp [*]; done)), H', ⟨by have := HK1.out; have := HJ13.out; have := HJ26.out; omega⟩, ⟨by (with_reducible repeat (first | apply Kd.R_alloc | apply Kd.R_drewN | apply Kd.R_drew)); exact HO_7.out⟩, ⟨by repeat (first | (with_reducible first | exact HB.out | apply below_alloc | apply pw_below_drewN | apply below_drew1 | refine below_set ?_ GE314.out) | exact HB.out)⟩⟩
                 ·rw [if_neg c49] at H
                  have c49b0 : (t316.toList == ([] : List UInt8)) = false := beq_eq_false_iff_ne.mpr c49
                  have c49b1 : (t316.toList != ([] : List UInt8)) = true := bne_iff_ne.mpr c49
                  have H' := Aside0.mk H
                  clear H
                  have hcz53_0 : wc.cell? ⟨gb314, 0, none⟩ = some (.int .i64 ((rd_T100 l0 x17_1).f0)) := (blk_cell BK314.out 0).trans rfl
                  have hcz53_1 : wc.cell? ⟨gb314, 1, none⟩ = some (.int .i64 ((rd_T100 l0 x17_1).f1)) := (blk_cell BK314.out 1).trans rfl
                  have hfz53_0 := blk_frozen BK314.out 0
                  have hfz53_1 := blk_frozen BK314.out 1
                  have p48 : 0 ≤ (((rd_T100 l0 x17_1).f1) : Int) := of_decide_eq_true (by first | (with_reducible assumption) | assumption)
                  have q48 : (((rd_T100 l0 x17_1).f1) : Int) < ((x7_1.length : Int) : Int) := of_decide_eq_true (by first | (with_reducible assumption) | assumption)
                  obtain ⟨go48, co48, eo48, gb48, gl48, cl48, HG48⟩ := Kd.R_form HO_7.out (by omega)
                  (first | cases eo48 | (injection eo48 with ea_ en_ ec_; (first | subst ea_ | (injection ea_ with ea_; subst ea_)); subst ec_; clear en_))
                  have GB48 := Aside0.mk gb48
                  have GG48 := Aside0.mk HG48
                  clear gb48 gl48 HG48
                  obtain ⟨hx48_0, hf48_0⟩ := Kd.R_celln (⟨#[]⟩ : ByteArray) HO_7.out (((rd_T100 l0 x17_1).f1) : Int) p48 q48
                  replace p48 := eq_true p48
                  replace q48 := eq_true q48
                  have HP54 := Kd.R_putg HO_7.out (((rd_T100 l0 x17_1).f1) : Int) t316
                  go_wp2_with (first | ((with_reducible refine gate_store (t := 9) (p := 78) rfl ?_); (try (rw [drewN_self wc]; generalize hq_ : World.drewN wc _ = wc; have n0_ := Aside0.mk (Kd.R_at hq_ HO_7.out); have n1_ := Aside0.mk (blk_at hq_ BK314.out); have n2_ := Aside0.mk (below_at hq_ HB.out); clear hq_ HO_7 BK314 HB; have HO_7 := n0_; have BK314 := n1_; have HB := n2_; clear n0_ n1_ n2_; (try (have HP54 := Kd.R_putg HO_7.out (((rd_T100 l0 x17_1).f1) : Int) t316)))); refine store_event (t := 9) (p := 78) (v := ?vo_w55) (w1 := (wc.setCell ⟨go48, (((rd_T100 l0 x17_1).f1) : Int).toNat, none⟩ (.string t316))) ?hg ?ho ?hn ?hr ?_; (case ho => rfl); (case hg => rfl); (case hn => rfl); (case hr => first | (go_simp; done) | (go_simp; rfl)); intro w55 hw; have hg : wc.grownBy w55 (some go48) := (by rw [hw]; exact HP54.2); have hp_ : Kd.R Kd.string 9 w55 w.heap.size (fun _ => True) (.slice (some ⟨go48, 0, none⟩) x7_1.length co17) y321 := (by rw [hw, Ny321.out]; exact HP54.1); clear HP54; have n0_ := Aside0.mk (hp_); have n1_ := Aside0.mk (blk_grown (g := gb314) (o := .cells #[.int .i64 ((rd_T100 l0 x17_1).f0), .int .i64 ((rd_T100 l0 x17_1).f1)] 100 (0, 0)) (by (with_reducible repeat (first | refine blk_drewN ?_ _ | refine blk_drew ?_ | refine blk_alloc ?_ _)); exact BK314.out) hg (Kd.R_ne HO_7.out BK314.out (by decide))); have n2_ := Aside0.mk ((by rw [hw]; exact below_set (HB.out) GB48.out : Below w.heap.size w w55)); clear HO_7; clear BK314; clear HB; have HO_7 := n0_; have BK314 := n1_; have HB := n2_; clear n0_ n1_ n2_; clear hg hw hp_; have hcz56_0 : w55.cell? ⟨gb314, 0, none⟩ = some (.int .i64 ((rd_T100 l0 x17_1).f0)) := (blk_cell BK314.out 0).trans rfl; have hcz56_1 : w55.cell? ⟨gb314, 1, none⟩ = some (.int .i64 ((rd_T100 l0 x17_1).f1)) := (blk_cell BK314.out 1).trans rfl; have hfz56_0 := blk_frozen BK314.out 0; have hfz56_1 := blk_frozen BK314.out 1))
                  repeat (go_quiet (first | ((with_reducible refine gate_store (t := 9) (p := 78) rfl ?_); (try (rw [drewN_self wc]; generalize hq_ : World.drewN wc _ = wc; have n0_ := Aside0.mk (Kd.R_at hq_ HO_7.out); have n1_ := Aside0.mk (blk_at hq_ BK314.out); have n2_ := Aside0.mk (below_at hq_ HB.out); clear hq_ HO_7 BK314 HB; have HO_7 := n0_; have BK314 := n1_; have HB := n2_; clear n0_ n1_ n2_; (try (have HP54 := Kd.R_putg HO_7.out (((rd_T100 l0 x17_1).f1) : Int) t316)))); refine store_event (t := 9) (p := 78) (v := ?vo_w55) (w1 := (wc.setCell ⟨go48, (((rd_T100 l0 x17_1).f1) : Int).toNat, none⟩ (.string t316))) ?hg ?ho ?hn ?hr ?_; (case ho => rfl); (case hg => rfl); (case hn => rfl); (case hr => first | (go_simp; done) | (go_simp; rfl)); intro w55 hw; have hg : wc.grownBy w55 (some go48) := (by rw [hw]; exact HP54.2); have hp_ : Kd.R Kd.string 9 w55 w.heap.size (fun _ => True) (.slice (some ⟨go48, 0, none⟩) x7_1.length co17) y321 := (by rw [hw, Ny321.out]; exact HP54.1); clear HP54; have n0_ := Aside0.mk (hp_); have n1_ := Aside0.mk (blk_grown (g := gb314) (o := .cells #[.int .i64 ((rd_T100 l0 x17_1).f0), .int .i64 ((rd_T100 l0 x17_1).f1)] 100 (0, 0)) (by (with_reducible repeat (first | refine blk_drewN ?_ _ | refine blk_drew ?_ | refine blk_alloc ?_ _)); exact BK314.out) hg (Kd.R_ne HO_7.out BK314.out (by decide))); have n2_ := Aside0.mk ((by rw [hw]; exact below_set (HB.out) GB48.out : Below w.heap.size w w55)); clear HO_7; clear BK314; clear HB; have HO_7 := n0_; have BK314 := n1_; have HB := n2_; clear n0_ n1_ n2_; clear hg hw hp_; have hcz56_0 : w55.cell? ⟨gb314, 0, none⟩ = some (.int .i64 ((rd_T100 l0 x17_1).f0)) := (blk_cell BK314.out 0).trans rfl; have hcz56_1 : w55.cell? ⟨gb314, 1, none⟩ = some (.int .i64 ((rd_T100 l0 x17_1).f1)) := (blk_cell BK314.out 1).trans rfl; have hfz56_0 := blk_frozen BK314.out 0; have hfz56_1 := blk_frozen BK314.out 1)); try go_wp2_with (first | ((with_reducible refine gate_store (t := 9) (p := 78) rfl ?_); (try (rw [drewN_self wc]; generalize hq_ : World.drewN wc _ = wc; have n0_ := Aside0.mk (Kd.R_at hq_ HO_7.out); have n1_ := Aside0.mk (blk_at hq_ BK314.out); have n2_ := Aside0.mk (below_at hq_ HB.out); clear hq_ HO_7 BK314 HB; have HO_7 := n0_; have BK314 := n1_; have HB := n2_; clear n0_ n1_ n2_; (try (have HP54 := Kd.R_putg HO_7.out (((rd_T100 l0 x17_1).f1) : Int) t316)))); refine store_event (t := 9) (p := 78) (v := ?vo_w55) (w1 := (wc.setCell ⟨go48, (((rd_T100 l0 x17_1).f1) : Int).toNat, none⟩ (.string t316))) ?hg ?ho ?hn ?hr ?_; (case ho => rfl); (case hg => rfl); (case hn => rfl); (case hr => first | (go_simp; done) | (go_simp; rfl)); intro w55 hw; have hg : wc.grownBy w55 (some go48) := (by rw [hw]; exact HP54.2); have hp_ : Kd.R Kd.string 9 w55 w.heap.size (fun _ => True) (.slice (some ⟨go48, 0, none⟩) x7_1.length co17) y321 := (by rw [hw, Ny321.out]; exact HP54.1); clear HP54; have n0_ := Aside0.mk (hp_); have n1_ := Aside0.mk (blk_grown (g := gb314) (o := .cells #[.int .i64 ((rd_T100 l0 x17_1).f0), .int .i64 ((rd_T100 l0 x17_1).f1)] 100 (0, 0)) (by (with_reducible repeat (first | refine blk_drewN ?_ _ | refine blk_drew ?_ | refine blk_alloc ?_ _)); exact BK314.out) hg (Kd.R_ne HO_7.out BK314.out (by decide))); have n2_ := Aside0.mk ((by rw [hw]; exact below_set (HB.out) GB48.out : Below w.heap.size w w55)); clear HO_7; clear BK314; clear HB; have HO_7 := n0_; have BK314 := n1_; have HB := n2_; clear n0_ n1_ n2_; clear hg hw hp_; have hcz56_0 : w55.cell? ⟨gb314, 0, none⟩ = some (.int .i64 ((rd_T100 l0 x17_1).f0)) := (blk_cell BK314.out 0).trans rfl; have hcz56_1 : w55.cell? ⟨gb314, 1, none⟩ = some (.int .i64 ((rd_T100 l0 x17_1).f1)) := (blk_cell BK314.out 1).trans rfl; have hfz56_0 := blk_frozen BK314.out 0; have hfz56_1 := blk_frozen BK314.out 1)))
                  go_roundg kj26
                  case measure => have := HK1.out; have := HJ13.out; have := HJ26.out; omega
                  case rel => exact ⟨(((rd_T100 l0 x17_1).f1)), (x6_1), (y321), (wrap64 (x17_1 + 1)), (by first | rfl | (simp; done) | (simp [*]; done)), (by first | rfl | (simp; done) | (simp [*]; done)), (by first | rfl | (simp; done) | (simp [*]; done)), H', ⟨by have := HK1.out; have := HJ13.out; have := HJ26.out; omega⟩, ⟨by (with_reducible repeat (first | apply Kd.R_alloc | apply Kd.R_drewN | apply Kd.R_drew)); exact HO_7.out⟩, ⟨by repeat (first | (with_reducible first | exact HB.out | apply below_alloc | apply pw_below_drewN | apply below_drew1 | refine below_set ?_ GE314.out) | exact HB.out)⟩⟩
                ·rw [if_neg c47] at H
                 exact absurd H (by simp)
               ·rw [if_neg c46] at H
                exact absurd H (by simp)
         ·rw [if_neg c12] at H
          exact absurd H (by simp)
        ·rw [if_neg c11] at H
         exact absurd H (by simp)
       ·rw [if_neg c10] at H
        have c10b0 : (((rd_T100 l0 x17_1).f0) == 0) = false := beq_eq_false_iff_ne.mpr c10
        have c10b1 : (((rd_T100 l0 x17_1).f0) != 0) = true := bne_iff_ne.mpr c10
        by_cases c57 : ((rd_T100 l0 x17_1).f0) = 1
        ·rw [if_pos c57] at H
         have c57b0 : (((rd_T100 l0 x17_1).f0) == 1) = true := beq_iff_eq.mpr c57
         have c57b1 : (((rd_T100 l0 x17_1).f0) != 1) = false := bne_eq_false_iff_eq.mpr c57
         clear c57
         by_cases c58 : x5_1 ≥ 0
         ·rw [if_pos c58] at H
          have c58b0 : decide (0 ≤ x5_1) = true := decide_eq_true c58
          clear c58
          by_cases c59 : 0 ≤ x5_1
          ·rw [if_pos c59] at H
           have c59b0 : decide (0 ≤ x5_1) = true := decide_eq_true c59
           clear c59
           by_cases c60 : x5_1 < (x7_1.length : Int)
           ·rw [if_pos c60] at H
            have c60b0 : decide (x5_1 < (x7_1.length : Int)) = true := decide_eq_true c60
            clear c60
            replace H := Option.bind_eq_some_iff.mp H
            obtain ⟨t323, A610, H⟩ := H
            replace H : (spec_collapsed.l0 k1 (-1) false (x7_1.set (x5_1 : Int).toNat t323) l0 (l0.length : Int) (wrap64 (x17_1 + 1))) = some r := H
            have A61 := Aside0.mk A610
            clear A610
            obtain ⟨y324, hy324⟩ : ∃ y_ : List ByteArray, y_ = (x7_1.set (x5_1 : Int).toNat t323) := ⟨_, rfl⟩
            replace H : (spec_collapsed.l0 k1 (-1) false y324 l0 (l0.length : Int) (wrap64 (x17_1 + 1))) = some r := by first | (rw [hy324]; with_reducible exact H) | (have H2_ := (Option.bind_some _ _).symm.trans H; rw [hy324]; with_reducible exact H2_) | (have H2_ := (Option.bind_some _ _).symm.trans H; with_reducible exact H2_) | with_reducible exact H | (rw [hy324]; exact H) | exact H
            have Ny324 := Aside0.mk hy324
            clear hy324
            have H' := Aside0.mk H
            clear H
            have p313 : 0 ≤ (x17_1 : Int) := of_decide_eq_true (by first | (with_reducible assumption) | assumption)
            have q313 : x17_1 < (l0.length : Int) := of_decide_eq_true (by first | (with_reducible assumption) | assumption)
            obtain ⟨ad313, e313, hx313_0, hx313_1⟩ := at_T100 HR0.out x17_1 p313 q313
            cases e313
            replace hx313_0 := (HB.out.cell (World.block_lt_of_cell? w _ hx313_0)).trans hx313_0
            replace hx313_1 := (HB.out.cell (World.block_lt_of_cell? w _ hx313_1)).trans hx313_1
            replace p313 := eq_true p313
            replace q313 := eq_true q313
            go_wp2_with (first | ((with_reducible refine gate_dst (N := 9) rfl ?_); (try (refine gate_guard (by rfl) ?_; dsimp only)); refine box_event ?hg (N := 9) ?hd (cs := #[.int .i64 0, .int .i64 0]) (t := 100) ?hr ?_; (case hd => rfl); (case hg => rfl); (case hr => first | (go_simp; done) | (go_simp; rfl)); intro gb314 hg w63 hbox hb; have n0_ := Aside0.mk (Kd.R_below (by (with_reducible repeat (first | apply Kd.R_alloc | apply Kd.R_drewN | apply Kd.R_drew)); exact HO_7.out) hb); have n1_ := Aside0.mk (below_step (by repeat (first | (with_reducible first | exact HB.out | apply below_alloc | apply pw_below_drewN | apply below_drew1) | exact HB.out)) hb); have n2_ := Aside0.mk (hbox); have n3_ := Aside0.mk ((by rw [hg]; exact (below_size (by repeat (first | (with_reducible first | exact HB.out | apply below_alloc | apply pw_below_drewN | apply below_drew1) | exact HB.out))) : w.heap.size ≤ gb314)); have n4_ := Aside0.mk ((by rw [hg]; exact (below_size (by repeat (first | (with_reducible first | exact HB.out | apply below_alloc | apply pw_below_drewN | apply below_drew1) | exact HB.out))) : w.heap.size ≤ gb314)); clear HO_7; clear HB; have HO_7 := n0_; have HB := n1_; have BK314 := n2_; have GW314 := n3_; have GE314 := n4_; clear n0_ n1_ n2_ n3_ n4_; clear hb hbox hg; have hcz64_0 : w63.cell? ⟨gb314, 0, none⟩ = some (.int .i64 0) := (blk_cell BK314.out 0).trans rfl; have hcz64_1 : w63.cell? ⟨gb314, 1, none⟩ = some (.int .i64 0) := (blk_cell BK314.out 1).trans rfl; have hfz64_0 := blk_frozen BK314.out 0; have hfz64_1 := blk_frozen BK314.out 1) | ((with_reducible refine gate_store (t := 100) (p := 9) rfl ?_); (try (rw [drewN_self w63]; generalize hq_ : World.drewN w63 _ = w63; have n0_ := Aside0.mk (Kd.R_at hq_ HO_7.out); have n1_ := Aside0.mk (blk_at hq_ BK314.out); have n2_ := Aside0.mk (below_at hq_ HB.out); clear hq_ HO_7 BK314 HB; have HO_7 := n0_; have BK314 := n1_; have HB := n2_; clear n0_ n1_ n2_)); refine store_event (t := 100) (p := 9) (v := ?vo_w65) (w1 := ((w63.setCell ⟨gb314, 0, none⟩ (.int .i64 ((rd_T100 l0 x17_1).f0))).setCell ⟨gb314, 1, none⟩ (.int .i64 ((rd_T100 l0 x17_1).f1)))) ?hg ?ho ?hn ?hr ?_; (case ho => rfl); (case hg => rfl); (case hn => rfl); (case hr => first | (go_simp; done) | (go_simp; rfl)); intro w65 hw; have n0_ : Aside0 (Kd.R Kd.string 9 w65 w.heap.size (fun _ => True) v308 x7_1) := ⟨(by rw [hw]; exact (by (with_reducible repeat (first | apply Kd.R_alloc | apply Kd.R_drewN | apply Kd.R_drew)); exact Kd.R_mono (Kd.R_far (p := ⟨gb314, 1, none⟩) (Kd.R_far (p := ⟨gb314, 0, none⟩) (Kd.R_types HO_7.out BK314.out (by decide)) (fun _ hk => hk.2) (.int .i64 ((rd_T100 l0 x17_1).f0))) (fun _ hk => hk.2) (.int .i64 ((rd_T100 l0 x17_1).f1))) (fun _ hk => trivial)))⟩; have n1_ : Aside0 (w65.heap[gb314]? = some (.cells #[.int .i64 ((rd_T100 l0 x17_1).f0), .int .i64 ((rd_T100 l0 x17_1).f1)] 100 (0, 0))) := ⟨(by rw [hw]; exact (by (with_reducible repeat (first | refine blk_drewN ?_ _ | refine blk_drew ?_ | refine blk_alloc ?_ _)); refine blk_put (cs := #[.int .i64 ((rd_T100 l0 x17_1).f0), .int .i64 0]) ?_ 1 _ rfl; (with_reducible repeat (first | refine blk_drewN ?_ _ | refine blk_drew ?_ | refine blk_alloc ?_ _)); refine blk_put (cs := #[.int .i64 0, .int .i64 0]) ?_ 0 _ rfl; (with_reducible repeat (first | refine blk_drewN ?_ _ | refine blk_drew ?_ | refine blk_alloc ?_ _)); exact BK314.out))⟩; have n2_ : Aside0 (Below w.heap.size w w65) := ⟨(by rw [hw]; exact (by repeat (first | (with_reducible first | exact HB.out | apply below_alloc | apply pw_below_drewN | apply below_drew1 | refine below_set ?_ GE314.out) | exact HB.out)))⟩; clear hw; clear HO_7; clear BK314; clear HB; have HO_7 := n0_; have BK314 := n1_; have HB := n2_; clear n0_ n1_ n2_; have hcz66_0 : w65.cell? ⟨gb314, 0, none⟩ = some (.int .i64 ((rd_T100 l0 x17_1).f0)) := (blk_cell BK314.out 0).trans rfl; have hcz66_1 : w65.cell? ⟨gb314, 1, none⟩ = some (.int .i64 ((rd_T100 l0 x17_1).f1)) := (blk_cell BK314.out 1).trans rfl; have hfz66_0 := blk_frozen BK314.out 0; have hfz66_1 := blk_frozen BK314.out 1; obtain ⟨Ao67, co67, eo67⟩ := Kd.R_slice HO_7.out; subst eo67; have p322 : 0 ≤ (x5_1 : Int) := of_decide_eq_true (by first | (with_reducible assumption) | assumption); have q322 : x5_1 < (x7_1.length : Int) := of_decide_eq_true (by first | (with_reducible assumption) | assumption); obtain ⟨ad322, e322, hx322_0⟩ := Kd.at_string (Kd.R_reads' HO_7.out).2.2 x5_1 p322 q322; cases e322; replace p322 := eq_true p322; replace q322 := eq_true q322) | (go_at_call 86; (with_reducible refine (spec_cutBlank.calls (rdOf ByteArray.empty x7_1 x5_1) t323 _ A61.out).mono ?_); rintro e w' ⟨rfl, ⟨nd, rfl⟩⟩; (try first | exact ⟨rfl, _, World.drewN_drewN _ _ _⟩ | exact ⟨rfl, _, Eq.trans (World.drewN_drewN _ _ _) (congrArg (World.drewN _) (Nat.add_assoc _ _ _))⟩); have p62 : 0 ≤ (x5_1 : Int) := of_decide_eq_true (by first | (with_reducible assumption) | assumption); have q62 : (x5_1 : Int) < ((x7_1.length : Int) : Int) := of_decide_eq_true (by first | (with_reducible assumption) | assumption); obtain ⟨go62, co62, eo62, gb62, gl62, cl62, HG62⟩ := Kd.R_form HO_7.out (by omega); (first | cases eo62 | (injection eo62 with ea_ en_ ec_; (first | subst ea_ | (injection ea_ with ea_; subst ea_)); subst ec_; clear en_)); have GB62 := Aside0.mk gb62; have GG62 := Aside0.mk HG62; clear gb62 gl62 HG62; (first | simp only [add_plain] at hx322_0 | skip); obtain ⟨hx62_0, hf62_0⟩ := Kd.R_celln (⟨#[]⟩ : ByteArray) HO_7.out (x5_1 : Int) p62 q62; replace p62 := eq_true p62; replace q62 := eq_true q62; obtain ⟨hy68_, hz68_⟩ := Kd.R_celln (⟨#[]⟩ : ByteArray) HO_7.out (x5_1 : Int) (of_decide_eq_true (by first | (with_reducible assumption) | assumption)) (of_decide_eq_true (by first | (with_reducible assumption) | assumption)); have HP68 := Kd.R_putg HO_7.out (x5_1 : Int) t323) | ((with_reducible refine gate_store (t := 9) (p := 94) rfl ?_); (try (rw [drewN_self w65]; generalize hq_ : World.drewN w65 _ = w65; have n0_ := Aside0.mk (Kd.R_at hq_ HO_7.out); have n1_ := Aside0.mk (blk_at hq_ BK314.out); have n2_ := Aside0.mk (below_at hq_ HB.out); clear hq_ HO_7 BK314 HB; have HO_7 := n0_; have BK314 := n1_; have HB := n2_; clear n0_ n1_ n2_; (try (obtain ⟨hy68_, hz68_⟩ := Kd.R_celln (⟨#[]⟩ : ByteArray) HO_7.out (x5_1 : Int) (of_decide_eq_true (by first | (with_reducible assumption) | assumption)) (of_decide_eq_true (by first | (with_reducible assumption) | assumption)))); (try (have HP68 := Kd.R_putg HO_7.out (x5_1 : Int) t323)))); refine store_event (t := 9) (p := 94) (v := ?vo_w69) (w1 := (w65.setCell ⟨go62, (x5_1 : Int).toNat, none⟩ (.string t323))) ?hg ?ho ?hn ?hr ?_; (case ho => rfl); (case hg => rfl); (case hn => rfl); (case hr => first | (go_simp; done) | (go_simp; rfl)); intro w69 hw; have hg : w65.grownBy w69 (some go62) := (by rw [hw]; exact HP68.2); have hp_ : Kd.R Kd.string 9 w69 w.heap.size (fun _ => True) (.slice (some ⟨go62, 0, none⟩) x7_1.length co67) y324 := (by rw [hw, Ny324.out]; exact HP68.1); clear HP68; have n0_ := Aside0.mk (hp_); have n1_ := Aside0.mk (blk_grown (g := gb314) (o := .cells #[.int .i64 ((rd_T100 l0 x17_1).f0), .int .i64 ((rd_T100 l0 x17_1).f1)] 100 (0, 0)) (by (with_reducible repeat (first | refine blk_drewN ?_ _ | refine blk_drew ?_ | refine blk_alloc ?_ _)); exact BK314.out) hg (Kd.R_ne HO_7.out BK314.out (by decide))); have n2_ := Aside0.mk ((by rw [hw]; exact below_set (HB.out) GB62.out : Below w.heap.size w w69)); clear HO_7; clear BK314; clear HB; have HO_7 := n0_; have BK314 := n1_; have HB := n2_; clear n0_ n1_ n2_; clear hg hw hp_))
            repeat (go_quiet (first | ((with_reducible refine gate_dst (N := 9) rfl ?_); (try (refine gate_guard (by rfl) ?_; dsimp only)); refine box_event ?hg (N := 9) ?hd (cs := #[.int .i64 0, .int .i64 0]) (t := 100) ?hr ?_; (case hd => rfl); (case hg => rfl); (case hr => first | (go_simp; done) | (go_simp; rfl)); intro gb314 hg w63 hbox hb; have n0_ := Aside0.mk (Kd.R_below (by (with_reducible repeat (first | apply Kd.R_alloc | apply Kd.R_drewN | apply Kd.R_drew)); exact HO_7.out) hb); have n1_ := Aside0.mk (below_step (by repeat (first | (with_reducible first | exact HB.out | apply below_alloc | apply pw_below_drewN | apply below_drew1) | exact HB.out)) hb); have n2_ := Aside0.mk (hbox); have n3_ := Aside0.mk ((by rw [hg]; exact (below_size (by repeat (first | (with_reducible first | exact HB.out | apply below_alloc | apply pw_below_drewN | apply below_drew1) | exact HB.out))) : w.heap.size ≤ gb314)); have n4_ := Aside0.mk ((by rw [hg]; exact (below_size (by repeat (first | (with_reducible first | exact HB.out | apply below_alloc | apply pw_below_drewN | apply below_drew1) | exact HB.out))) : w.heap.size ≤ gb314)); clear HO_7; clear HB; have HO_7 := n0_; have HB := n1_; have BK314 := n2_; have GW314 := n3_; have GE314 := n4_; clear n0_ n1_ n2_ n3_ n4_; clear hb hbox hg; have hcz64_0 : w63.cell? ⟨gb314, 0, none⟩ = some (.int .i64 0) := (blk_cell BK314.out 0).trans rfl; have hcz64_1 : w63.cell? ⟨gb314, 1, none⟩ = some (.int .i64 0) := (blk_cell BK314.out 1).trans rfl; have hfz64_0 := blk_frozen BK314.out 0; have hfz64_1 := blk_frozen BK314.out 1) | ((with_reducible refine gate_store (t := 100) (p := 9) rfl ?_); (try (rw [drewN_self w63]; generalize hq_ : World.drewN w63 _ = w63; have n0_ := Aside0.mk (Kd.R_at hq_ HO_7.out); have n1_ := Aside0.mk (blk_at hq_ BK314.out); have n2_ := Aside0.mk (below_at hq_ HB.out); clear hq_ HO_7 BK314 HB; have HO_7 := n0_; have BK314 := n1_; have HB := n2_; clear n0_ n1_ n2_)); refine store_event (t := 100) (p := 9) (v := ?vo_w65) (w1 := ((w63.setCell ⟨gb314, 0, none⟩ (.int .i64 ((rd_T100 l0 x17_1).f0))).setCell ⟨gb314, 1, none⟩ (.int .i64 ((rd_T100 l0 x17_1).f1)))) ?hg ?ho ?hn ?hr ?_; (case ho => rfl); (case hg => rfl); (case hn => rfl); (case hr => first | (go_simp; done) | (go_simp; rfl)); intro w65 hw; have n0_ : Aside0 (Kd.R Kd.string 9 w65 w.heap.size (fun _ => True) v308 x7_1) := ⟨(by rw [hw]; exact (by (with_reducible repeat (first | apply Kd.R_alloc | apply Kd.R_drewN | apply Kd.R_drew)); exact Kd.R_mono (Kd.R_far (p := ⟨gb314, 1, none⟩) (Kd.R_far (p := ⟨gb314, 0, none⟩) (Kd.R_types HO_7.out BK314.out (by decide)) (fun _ hk => hk.2) (.int .i64 ((rd_T100 l0 x17_1).f0))) (fun _ hk => hk.2) (.int .i64 ((rd_T100 l0 x17_1).f1))) (fun _ hk => trivial)))⟩; have n1_ : Aside0 (w65.heap[gb314]? = some (.cells #[.int .i64 ((rd_T100 l0 x17_1).f0), .int .i64 ((rd_T100 l0 x17_1).f1)] 100 (0, 0))) := ⟨(by rw [hw]; exact (by (with_reducible repeat (first | refine blk_drewN ?_ _ | refine blk_drew ?_ | refine blk_alloc ?_ _)); refine blk_put (cs := #[.int .i64 ((rd_T100 l0 x17_1).f0), .int .i64 0]) ?_ 1 _ rfl; (with_reducible repeat (first | refine blk_drewN ?_ _ | refine blk_drew ?_ | refine blk_alloc ?_ _)); refine blk_put (cs := #[.int .i64 0, .int .i64 0]) ?_ 0 _ rfl; (with_reducible repeat (first | refine blk_drewN ?_ _ | refine blk_drew ?_ | refine blk_alloc ?_ _)); exact BK314.out))⟩; have n2_ : Aside0 (Below w.heap.size w w65) := ⟨(by rw [hw]; exact (by repeat (first | (with_reducible first | exact HB.out | apply below_alloc | apply pw_below_drewN | apply below_drew1 | refine below_set ?_ GE314.out) | exact HB.out)))⟩; clear hw; clear HO_7; clear BK314; clear HB; have HO_7 := n0_; have BK314 := n1_; have HB := n2_; clear n0_ n1_ n2_; have hcz66_0 : w65.cell? ⟨gb314, 0, none⟩ = some (.int .i64 ((rd_T100 l0 x17_1).f0)) := (blk_cell BK314.out 0).trans rfl; have hcz66_1 : w65.cell? ⟨gb314, 1, none⟩ = some (.int .i64 ((rd_T100 l0 x17_1).f1)) := (blk_cell BK314.out 1).trans rfl; have hfz66_0 := blk_frozen BK314.out 0; have hfz66_1 := blk_frozen BK314.out 1; obtain ⟨Ao67, co67, eo67⟩ := Kd.R_slice HO_7.out; subst eo67; have p322 : 0 ≤ (x5_1 : Int) := of_decide_eq_true (by first | (with_reducible assumption) | assumption); have q322 : x5_1 < (x7_1.length : Int) := of_decide_eq_true (by first | (with_reducible assumption) | assumption); obtain ⟨ad322, e322, hx322_0⟩ := Kd.at_string (Kd.R_reads' HO_7.out).2.2 x5_1 p322 q322; cases e322; replace p322 := eq_true p322; replace q322 := eq_true q322) | (go_at_call 86; (with_reducible refine (spec_cutBlank.calls (rdOf ByteArray.empty x7_1 x5_1) t323 _ A61.out).mono ?_); rintro e w' ⟨rfl, ⟨nd, rfl⟩⟩; (try first | exact ⟨rfl, _, World.drewN_drewN _ _ _⟩ | exact ⟨rfl, _, Eq.trans (World.drewN_drewN _ _ _) (congrArg (World.drewN _) (Nat.add_assoc _ _ _))⟩); have p62 : 0 ≤ (x5_1 : Int) := of_decide_eq_true (by first | (with_reducible assumption) | assumption); have q62 : (x5_1 : Int) < ((x7_1.length : Int) : Int) := of_decide_eq_true (by first | (with_reducible assumption) | assumption); obtain ⟨go62, co62, eo62, gb62, gl62, cl62, HG62⟩ := Kd.R_form HO_7.out (by omega); (first | cases eo62 | (injection eo62 with ea_ en_ ec_; (first | subst ea_ | (injection ea_ with ea_; subst ea_)); subst ec_; clear en_)); have GB62 := Aside0.mk gb62; have GG62 := Aside0.mk HG62; clear gb62 gl62 HG62; (first | simp only [add_plain] at hx322_0 | skip); obtain ⟨hx62_0, hf62_0⟩ := Kd.R_celln (⟨#[]⟩ : ByteArray) HO_7.out (x5_1 : Int) p62 q62; replace p62 := eq_true p62; replace q62 := eq_true q62; obtain ⟨hy68_, hz68_⟩ := Kd.R_celln (⟨#[]⟩ : ByteArray) HO_7.out (x5_1 : Int) (of_decide_eq_true (by first | (with_reducible assumption) | assumption)) (of_decide_eq_true (by first | (with_reducible assumption) | assumption)); have HP68 := Kd.R_putg HO_7.out (x5_1 : Int) t323) | ((with_reducible refine gate_store (t := 9) (p := 94) rfl ?_); (try (rw [drewN_self w65]; generalize hq_ : World.drewN w65 _ = w65; have n0_ := Aside0.mk (Kd.R_at hq_ HO_7.out); have n1_ := Aside0.mk (blk_at hq_ BK314.out); have n2_ := Aside0.mk (below_at hq_ HB.out); clear hq_ HO_7 BK314 HB; have HO_7 := n0_; have BK314 := n1_; have HB := n2_; clear n0_ n1_ n2_; (try (obtain ⟨hy68_, hz68_⟩ := Kd.R_celln (⟨#[]⟩ : ByteArray) HO_7.out (x5_1 : Int) (of_decide_eq_true (by first | (with_reducible assumption) | assumption)) (of_decide_eq_true (by first | (with_reducible assumption) | assumption)))); (try (have HP68 := Kd.R_putg HO_7.out (x5_1 : Int) t323)))); refine store_event (t := 9) (p := 94) (v := ?vo_w69) (w1 := (w65.setCell ⟨go62, (x5_1 : Int).toNat, none⟩ (.string t323))) ?hg ?ho ?hn ?hr ?_; (case ho => rfl); (case hg => rfl); (case hn => rfl); (case hr => first | (go_simp; done) | (go_simp; rfl)); intro w69 hw; have hg : w65.grownBy w69 (some go62) := (by rw [hw]; exact HP68.2); have hp_ : Kd.R Kd.string 9 w69 w.heap.size (fun _ => True) (.slice (some ⟨go62, 0, none⟩) x7_1.length co67) y324 := (by rw [hw, Ny324.out]; exact HP68.1); clear HP68; have n0_ := Aside0.mk (hp_); have n1_ := Aside0.mk (blk_grown (g := gb314) (o := .cells #[.int .i64 ((rd_T100 l0 x17_1).f0), .int .i64 ((rd_T100 l0 x17_1).f1)] 100 (0, 0)) (by (with_reducible repeat (first | refine blk_drewN ?_ _ | refine blk_drew ?_ | refine blk_alloc ?_ _)); exact BK314.out) hg (Kd.R_ne HO_7.out BK314.out (by decide))); have n2_ := Aside0.mk ((by rw [hw]; exact below_set (HB.out) GB62.out : Below w.heap.size w w69)); clear HO_7; clear BK314; clear HB; have HO_7 := n0_; have BK314 := n1_; have HB := n2_; clear n0_ n1_ n2_; clear hg hw hp_)); try go_wp2_with (first | ((with_reducible refine gate_dst (N := 9) rfl ?_); (try (refine gate_guard (by rfl) ?_; dsimp only)); refine box_event ?hg (N := 9) ?hd (cs := #[.int .i64 0, .int .i64 0]) (t := 100) ?hr ?_; (case hd => rfl); (case hg => rfl); (case hr => first | (go_simp; done) | (go_simp; rfl)); intro gb314 hg w63 hbox hb; have n0_ := Aside0.mk (Kd.R_below (by (with_reducible repeat (first | apply Kd.R_alloc | apply Kd.R_drewN | apply Kd.R_drew)); exact HO_7.out) hb); have n1_ := Aside0.mk (below_step (by repeat (first | (with_reducible first | exact HB.out | apply below_alloc | apply pw_below_drewN | apply below_drew1) | exact HB.out)) hb); have n2_ := Aside0.mk (hbox); have n3_ := Aside0.mk ((by rw [hg]; exact (below_size (by repeat (first | (with_reducible first | exact HB.out | apply below_alloc | apply pw_below_drewN | apply below_drew1) | exact HB.out))) : w.heap.size ≤ gb314)); have n4_ := Aside0.mk ((by rw [hg]; exact (below_size (by repeat (first | (with_reducible first | exact HB.out | apply below_alloc | apply pw_below_drewN | apply below_drew1) | exact HB.out))) : w.heap.size ≤ gb314)); clear HO_7; clear HB; have HO_7 := n0_; have HB := n1_; have BK314 := n2_; have GW314 := n3_; have GE314 := n4_; clear n0_ n1_ n2_ n3_ n4_; clear hb hbox hg; have hcz64_0 : w63.cell? ⟨gb314, 0, none⟩ = some (.int .i64 0) := (blk_cell BK314.out 0).trans rfl; have hcz64_1 : w63.cell? ⟨gb314, 1, none⟩ = some (.int .i64 0) := (blk_cell BK314.out 1).trans rfl; have hfz64_0 := blk_frozen BK314.out 0; have hfz64_1 := blk_frozen BK314.out 1) | ((with_reducible refine gate_store (t := 100) (p := 9) rfl ?_); (try (rw [drewN_self w63]; generalize hq_ : World.drewN w63 _ = w63; have n0_ := Aside0.mk (Kd.R_at hq_ HO_7.out); have n1_ := Aside0.mk (blk_at hq_ BK314.out); have n2_ := Aside0.mk (below_at hq_ HB.out); clear hq_ HO_7 BK314 HB; have HO_7 := n0_; have BK314 := n1_; have HB := n2_; clear n0_ n1_ n2_)); refine store_event (t := 100) (p := 9) (v := ?vo_w65) (w1 := ((w63.setCell ⟨gb314, 0, none⟩ (.int .i64 ((rd_T100 l0 x17_1).f0))).setCell ⟨gb314, 1, none⟩ (.int .i64 ((rd_T100 l0 x17_1).f1)))) ?hg ?ho ?hn ?hr ?_; (case ho => rfl); (case hg => rfl); (case hn => rfl); (case hr => first | (go_simp; done) | (go_simp; rfl)); intro w65 hw; have n0_ : Aside0 (Kd.R Kd.string 9 w65 w.heap.size (fun _ => True) v308 x7_1) := ⟨(by rw [hw]; exact (by (with_reducible repeat (first | apply Kd.R_alloc | apply Kd.R_drewN | apply Kd.R_drew)); exact Kd.R_mono (Kd.R_far (p := ⟨gb314, 1, none⟩) (Kd.R_far (p := ⟨gb314, 0, none⟩) (Kd.R_types HO_7.out BK314.out (by decide)) (fun _ hk => hk.2) (.int .i64 ((rd_T100 l0 x17_1).f0))) (fun _ hk => hk.2) (.int .i64 ((rd_T100 l0 x17_1).f1))) (fun _ hk => trivial)))⟩; have n1_ : Aside0 (w65.heap[gb314]? = some (.cells #[.int .i64 ((rd_T100 l0 x17_1).f0), .int .i64 ((rd_T100 l0 x17_1).f1)] 100 (0, 0))) := ⟨(by rw [hw]; exact (by (with_reducible repeat (first | refine blk_drewN ?_ _ | refine blk_drew ?_ | refine blk_alloc ?_ _)); refine blk_put (cs := #[.int .i64 ((rd_T100 l0 x17_1).f0), .int .i64 0]) ?_ 1 _ rfl; (with_reducible repeat (first | refine blk_drewN ?_ _ | refine blk_drew ?_ | refine blk_alloc ?_ _)); refine blk_put (cs := #[.int .i64 0, .int .i64 0]) ?_ 0 _ rfl; (with_reducible repeat (first | refine blk_drewN ?_ _ | refine blk_drew ?_ | refine blk_alloc ?_ _)); exact BK314.out))⟩; have n2_ : Aside0 (Below w.heap.size w w65) := ⟨(by rw [hw]; exact (by repeat (first | (with_reducible first | exact HB.out | apply below_alloc | apply pw_below_drewN | apply below_drew1 | refine below_set ?_ GE314.out) | exact HB.out)))⟩; clear hw; clear HO_7; clear BK314; clear HB; have HO_7 := n0_; have BK314 := n1_; have HB := n2_; clear n0_ n1_ n2_; have hcz66_0 : w65.cell? ⟨gb314, 0, none⟩ = some (.int .i64 ((rd_T100 l0 x17_1).f0)) := (blk_cell BK314.out 0).trans rfl; have hcz66_1 : w65.cell? ⟨gb314, 1, none⟩ = some (.int .i64 ((rd_T100 l0 x17_1).f1)) := (blk_cell BK314.out 1).trans rfl; have hfz66_0 := blk_frozen BK314.out 0; have hfz66_1 := blk_frozen BK314.out 1; obtain ⟨Ao67, co67, eo67⟩ := Kd.R_slice HO_7.out; subst eo67; have p322 : 0 ≤ (x5_1 : Int) := of_decide_eq_true (by first | (with_reducible assumption) | assumption); have q322 : x5_1 < (x7_1.length : Int) := of_decide_eq_true (by first | (with_reducible assumption) | assumption); obtain ⟨ad322, e322, hx322_0⟩ := Kd.at_string (Kd.R_reads' HO_7.out).2.2 x5_1 p322 q322; cases e322; replace p322 := eq_true p322; replace q322 := eq_true q322) | (go_at_call 86; (with_reducible refine (spec_cutBlank.calls (rdOf ByteArray.empty x7_1 x5_1) t323 _ A61.out).mono ?_); rintro e w' ⟨rfl, ⟨nd, rfl⟩⟩; (try first | exact ⟨rfl, _, World.drewN_drewN _ _ _⟩ | exact ⟨rfl, _, Eq.trans (World.drewN_drewN _ _ _) (congrArg (World.drewN _) (Nat.add_assoc _ _ _))⟩); have p62 : 0 ≤ (x5_1 : Int) := of_decide_eq_true (by first | (with_reducible assumption) | assumption); have q62 : (x5_1 : Int) < ((x7_1.length : Int) : Int) := of_decide_eq_true (by first | (with_reducible assumption) | assumption); obtain ⟨go62, co62, eo62, gb62, gl62, cl62, HG62⟩ := Kd.R_form HO_7.out (by omega); (first | cases eo62 | (injection eo62 with ea_ en_ ec_; (first | subst ea_ | (injection ea_ with ea_; subst ea_)); subst ec_; clear en_)); have GB62 := Aside0.mk gb62; have GG62 := Aside0.mk HG62; clear gb62 gl62 HG62; (first | simp only [add_plain] at hx322_0 | skip); obtain ⟨hx62_0, hf62_0⟩ := Kd.R_celln (⟨#[]⟩ : ByteArray) HO_7.out (x5_1 : Int) p62 q62; replace p62 := eq_true p62; replace q62 := eq_true q62; obtain ⟨hy68_, hz68_⟩ := Kd.R_celln (⟨#[]⟩ : ByteArray) HO_7.out (x5_1 : Int) (of_decide_eq_true (by first | (with_reducible assumption) | assumption)) (of_decide_eq_true (by first | (with_reducible assumption) | assumption)); have HP68 := Kd.R_putg HO_7.out (x5_1 : Int) t323) | ((with_reducible refine gate_store (t := 9) (p := 94) rfl ?_); (try (rw [drewN_self w65]; generalize hq_ : World.drewN w65 _ = w65; have n0_ := Aside0.mk (Kd.R_at hq_ HO_7.out); have n1_ := Aside0.mk (blk_at hq_ BK314.out); have n2_ := Aside0.mk (below_at hq_ HB.out); clear hq_ HO_7 BK314 HB; have HO_7 := n0_; have BK314 := n1_; have HB := n2_; clear n0_ n1_ n2_; (try (obtain ⟨hy68_, hz68_⟩ := Kd.R_celln (⟨#[]⟩ : ByteArray) HO_7.out (x5_1 : Int) (of_decide_eq_true (by first | (with_reducible assumption) | assumption)) (of_decide_eq_true (by first | (with_reducible assumption) | assumption)))); (try (have HP68 := Kd.R_putg HO_7.out (x5_1 : Int) t323)))); refine store_event (t := 9) (p := 94) (v := ?vo_w69) (w1 := (w65.setCell ⟨go62, (x5_1 : Int).toNat, none⟩ (.string t323))) ?hg ?ho ?hn ?hr ?_; (case ho => rfl); (case hg => rfl); (case hn => rfl); (case hr => first | (go_simp; done) | (go_simp; rfl)); intro w69 hw; have hg : w65.grownBy w69 (some go62) := (by rw [hw]; exact HP68.2); have hp_ : Kd.R Kd.string 9 w69 w.heap.size (fun _ => True) (.slice (some ⟨go62, 0, none⟩) x7_1.length co67) y324 := (by rw [hw, Ny324.out]; exact HP68.1); clear HP68; have n0_ := Aside0.mk (hp_); have n1_ := Aside0.mk (blk_grown (g := gb314) (o := .cells #[.int .i64 ((rd_T100 l0 x17_1).f0), .int .i64 ((rd_T100 l0 x17_1).f1)] 100 (0, 0)) (by (with_reducible repeat (first | refine blk_drewN ?_ _ | refine blk_drew ?_ | refine blk_alloc ?_ _)); exact BK314.out) hg (Kd.R_ne HO_7.out BK314.out (by decide))); have n2_ := Aside0.mk ((by rw [hw]; exact below_set (HB.out) GB62.out : Below w.heap.size w w69)); clear HO_7; clear BK314; clear HB; have HO_7 := n0_; have BK314 := n1_; have HB := n2_; clear n0_ n1_ n2_; clear hg hw hp_)))
            go_roundg k1
            case measure => have := HK1.out; omega
            case rel => exact ⟨((-1)), (false), (y324), (wrap64 (x17_1 + 1)), (by first | rfl | (simp; done) | (simp [*]; done)), (by first | rfl | (simp; done) | (simp [*]; done)), (by first | rfl | (simp; done) | (simp [*]; done)), H', ⟨by have := HK1.out; omega⟩, ⟨by (with_reducible repeat (first | apply Kd.R_alloc | apply Kd.R_drewN | apply Kd.R_drew)); exact HO_7.out⟩, ⟨by repeat (first | (with_reducible first | exact HB.out | apply below_alloc | apply pw_below_drewN | apply below_drew1 | refine below_set ?_ GE314.out) | exact HB.out)⟩⟩
           ·rw [if_neg c60] at H
            exact absurd H (by simp)
          ·rw [if_neg c59] at H
           exact absurd H (by simp)
         ·rw [if_neg c58] at H
          have c58b0 : decide (0 ≤ x5_1) = false := decide_eq_false c58
          clear c58
          have H' := Aside0.mk H
          clear H
          have p313 : 0 ≤ (x17_1 : Int) := of_decide_eq_true (by first | (with_reducible assumption) | assumption)
          have q313 : x17_1 < (l0.length : Int) := of_decide_eq_true (by first | (with_reducible assumption) | assumption)
          obtain ⟨ad313, e313, hx313_0, hx313_1⟩ := at_T100 HR0.out x17_1 p313 q313
          cases e313
          replace hx313_0 := (HB.out.cell (World.block_lt_of_cell? w _ hx313_0)).trans hx313_0
          replace hx313_1 := (HB.out.cell (World.block_lt_of_cell? w _ hx313_1)).trans hx313_1
          replace p313 := eq_true p313
          replace q313 := eq_true q313
          go_wp2_with (first | ((with_reducible refine gate_dst (N := 9) rfl ?_); (try (refine gate_guard (by rfl) ?_; dsimp only)); refine box_event ?hg (N := 9) ?hd (cs := #[.int .i64 0, .int .i64 0]) (t := 100) ?hr ?_; (case hd => rfl); (case hg => rfl); (case hr => first | (go_simp; done) | (go_simp; rfl)); intro gb314 hg w70 hbox hb; have n0_ := Aside0.mk (Kd.R_below (by (with_reducible repeat (first | apply Kd.R_alloc | apply Kd.R_drewN | apply Kd.R_drew)); exact HO_7.out) hb); have n1_ := Aside0.mk (below_step (by repeat (first | (with_reducible first | exact HB.out | apply below_alloc | apply pw_below_drewN | apply below_drew1) | exact HB.out)) hb); have n2_ := Aside0.mk (hbox); have n3_ := Aside0.mk ((by rw [hg]; exact (below_size (by repeat (first | (with_reducible first | exact HB.out | apply below_alloc | apply pw_below_drewN | apply below_drew1) | exact HB.out))) : w.heap.size ≤ gb314)); have n4_ := Aside0.mk ((by rw [hg]; exact (below_size (by repeat (first | (with_reducible first | exact HB.out | apply below_alloc | apply pw_below_drewN | apply below_drew1) | exact HB.out))) : w.heap.size ≤ gb314)); clear HO_7; clear HB; have HO_7 := n0_; have HB := n1_; have BK314 := n2_; have GW314 := n3_; have GE314 := n4_; clear n0_ n1_ n2_ n3_ n4_; clear hb hbox hg; have hcz71_0 : w70.cell? ⟨gb314, 0, none⟩ = some (.int .i64 0) := (blk_cell BK314.out 0).trans rfl; have hcz71_1 : w70.cell? ⟨gb314, 1, none⟩ = some (.int .i64 0) := (blk_cell BK314.out 1).trans rfl; have hfz71_0 := blk_frozen BK314.out 0; have hfz71_1 := blk_frozen BK314.out 1))
          repeat (go_quiet (first | ((with_reducible refine gate_dst (N := 9) rfl ?_); (try (refine gate_guard (by rfl) ?_; dsimp only)); refine box_event ?hg (N := 9) ?hd (cs := #[.int .i64 0, .int .i64 0]) (t := 100) ?hr ?_; (case hd => rfl); (case hg => rfl); (case hr => first | (go_simp; done) | (go_simp; rfl)); intro gb314 hg w70 hbox hb; have n0_ := Aside0.mk (Kd.R_below (by (with_reducible repeat (first | apply Kd.R_alloc | apply Kd.R_drewN | apply Kd.R_drew)); exact HO_7.out) hb); have n1_ := Aside0.mk (below_step (by repeat (first | (with_reducible first | exact HB.out | apply below_alloc | apply pw_below_drewN | apply below_drew1) | exact HB.out)) hb); have n2_ := Aside0.mk (hbox); have n3_ := Aside0.mk ((by rw [hg]; exact (below_size (by repeat (first | (with_reducible first | exact HB.out | apply below_alloc | apply pw_below_drewN | apply below_drew1) | exact HB.out))) : w.heap.size ≤ gb314)); have n4_ := Aside0.mk ((by rw [hg]; exact (below_size (by repeat (first | (with_reducible first | exact HB.out | apply below_alloc | apply pw_below_drewN | apply below_drew1) | exact HB.out))) : w.heap.size ≤ gb314)); clear HO_7; clear HB; have HO_7 := n0_; have HB := n1_; have BK314 := n2_; have GW314 := n3_; have GE314 := n4_; clear n0_ n1_ n2_ n3_ n4_; clear hb hbox hg; have hcz71_0 : w70.cell? ⟨gb314, 0, none⟩ = some (.int .i64 0) := (blk_cell BK314.out 0).trans rfl; have hcz71_1 : w70.cell? ⟨gb314, 1, none⟩ = some (.int .i64 0) := (blk_cell BK314.out 1).trans rfl; have hfz71_0 := blk_frozen BK314.out 0; have hfz71_1 := blk_frozen BK314.out 1)); try go_wp2_with (first | ((with_reducible refine gate_dst (N := 9) rfl ?_); (try (refine gate_guard (by rfl) ?_; dsimp only)); refine box_event ?hg (N := 9) ?hd (cs := #[.int .i64 0, .int .i64 0]) (t := 100) ?hr ?_; (case hd => rfl); (case hg => rfl); (case hr => first | (go_simp; done) | (go_simp; rfl)); intro gb314 hg w70 hbox hb; have n0_ := Aside0.mk (Kd.R_below (by (with_reducible repeat (first | apply Kd.R_alloc | apply Kd.R_drewN | apply Kd.R_drew)); exact HO_7.out) hb); have n1_ := Aside0.mk (below_step (by repeat (first | (with_reducible first | exact HB.out | apply below_alloc | apply pw_below_drewN | apply below_drew1) | exact HB.out)) hb); have n2_ := Aside0.mk (hbox); have n3_ := Aside0.mk ((by rw [hg]; exact (below_size (by repeat (first | (with_reducible first | exact HB.out | apply below_alloc | apply pw_below_drewN | apply below_drew1) | exact HB.out))) : w.heap.size ≤ gb314)); have n4_ := Aside0.mk ((by rw [hg]; exact (below_size (by repeat (first | (with_reducible first | exact HB.out | apply below_alloc | apply pw_below_drewN | apply below_drew1) | exact HB.out))) : w.heap.size ≤ gb314)); clear HO_7; clear HB; have HO_7 := n0_; have HB := n1_; have BK314 := n2_; have GW314 := n3_; have GE314 := n4_; clear n0_ n1_ n2_ n3_ n4_; clear hb hbox hg; have hcz71_0 : w70.cell? ⟨gb314, 0, none⟩ = some (.int .i64 0) := (blk_cell BK314.out 0).trans rfl; have hcz71_1 : w70.cell? ⟨gb314, 1, none⟩ = some (.int .i64 0) := (blk_cell BK314.out 1).trans rfl; have hfz71_0 := blk_frozen BK314.out 0; have hfz71_1 := blk_frozen BK314.out 1)))
          go_roundg k1
          case measure => have := HK1.out; omega
          case rel => exact ⟨((-1)), (false), (x7_1), (wrap64 (x17_1 + 1)), (by first | rfl | (simp; done) | (simp [*]; done)), (by first | rfl | (simp; done) | (simp [*]; done)), (by first | rfl | (simp; done) | (simp [*]; done)), H', ⟨by have := HK1.out; omega⟩, ⟨by (with_reducible repeat (first | apply Kd.R_alloc | apply Kd.R_drewN | apply Kd.R_drew)); exact Kd.R_mono (Kd.R_far (p := ⟨gb314, 1, none⟩) (Kd.R_far (p := ⟨gb314, 0, none⟩) (Kd.R_types HO_7.out BK314.out (by decide)) (fun _ hk => hk.2) (.int .i64 ((rd_T100 l0 x17_1).f0))) (fun _ hk => hk.2) (.int .i64 ((rd_T100 l0 x17_1).f1))) (fun _ hk => trivial)⟩, ⟨by repeat (first | (with_reducible first | exact HB.out | apply below_alloc | apply pw_below_drewN | apply below_drew1 | refine below_set ?_ GE314.out) | exact HB.out)⟩⟩
        ·rw [if_neg c57] at H
         have c57b0 : (((rd_T100 l0 x17_1).f0) == 1) = false := beq_eq_false_iff_ne.mpr c57
         have c57b1 : (((rd_T100 l0 x17_1).f0) != 1) = true := bne_iff_ne.mpr c57
         by_cases c72 : ((rd_T100 l0 x17_1).f0) = 2
         ·rw [if_pos c72] at H
          have c72b0 : (((rd_T100 l0 x17_1).f0) == 2) = true := beq_iff_eq.mpr c72
          have c72b1 : (((rd_T100 l0 x17_1).f0) != 2) = false := bne_eq_false_iff_eq.mpr c72
          clear c72
          have H' := Aside0.mk H
          clear H
          have p313 : 0 ≤ (x17_1 : Int) := of_decide_eq_true (by first | (with_reducible assumption) | assumption)
          have q313 : x17_1 < (l0.length : Int) := of_decide_eq_true (by first | (with_reducible assumption) | assumption)
          obtain ⟨ad313, e313, hx313_0, hx313_1⟩ := at_T100 HR0.out x17_1 p313 q313
          cases e313
          replace hx313_0 := (HB.out.cell (World.block_lt_of_cell? w _ hx313_0)).trans hx313_0
          replace hx313_1 := (HB.out.cell (World.block_lt_of_cell? w _ hx313_1)).trans hx313_1
          replace p313 := eq_true p313
          replace q313 := eq_true q313
          go_wp2_with (first | ((with_reducible refine gate_dst (N := 9) rfl ?_); (try (refine gate_guard (by rfl) ?_; dsimp only)); refine box_event ?hg (N := 9) ?hd (cs := #[.int .i64 0, .int .i64 0]) (t := 100) ?hr ?_; (case hd => rfl); (case hg => rfl); (case hr => first | (go_simp; done) | (go_simp; rfl)); intro gb314 hg w73 hbox hb; have n0_ := Aside0.mk (Kd.R_below (by (with_reducible repeat (first | apply Kd.R_alloc | apply Kd.R_drewN | apply Kd.R_drew)); exact HO_7.out) hb); have n1_ := Aside0.mk (below_step (by repeat (first | (with_reducible first | exact HB.out | apply below_alloc | apply pw_below_drewN | apply below_drew1) | exact HB.out)) hb); have n2_ := Aside0.mk (hbox); have n3_ := Aside0.mk ((by rw [hg]; exact (below_size (by repeat (first | (with_reducible first | exact HB.out | apply below_alloc | apply pw_below_drewN | apply below_drew1) | exact HB.out))) : w.heap.size ≤ gb314)); have n4_ := Aside0.mk ((by rw [hg]; exact (below_size (by repeat (first | (with_reducible first | exact HB.out | apply below_alloc | apply pw_below_drewN | apply below_drew1) | exact HB.out))) : w.heap.size ≤ gb314)); clear HO_7; clear HB; have HO_7 := n0_; have HB := n1_; have BK314 := n2_; have GW314 := n3_; have GE314 := n4_; clear n0_ n1_ n2_ n3_ n4_; clear hb hbox hg; have hcz74_0 : w73.cell? ⟨gb314, 0, none⟩ = some (.int .i64 0) := (blk_cell BK314.out 0).trans rfl; have hcz74_1 : w73.cell? ⟨gb314, 1, none⟩ = some (.int .i64 0) := (blk_cell BK314.out 1).trans rfl; have hfz74_0 := blk_frozen BK314.out 0; have hfz74_1 := blk_frozen BK314.out 1))
          repeat (go_quiet (first | ((with_reducible refine gate_dst (N := 9) rfl ?_); (try (refine gate_guard (by rfl) ?_; dsimp only)); refine box_event ?hg (N := 9) ?hd (cs := #[.int .i64 0, .int .i64 0]) (t := 100) ?hr ?_; (case hd => rfl); (case hg => rfl); (case hr => first | (go_simp; done) | (go_simp; rfl)); intro gb314 hg w73 hbox hb; have n0_ := Aside0.mk (Kd.R_below (by (with_reducible repeat (first | apply Kd.R_alloc | apply Kd.R_drewN | apply Kd.R_drew)); exact HO_7.out) hb); have n1_ := Aside0.mk (below_step (by repeat (first | (with_reducible first | exact HB.out | apply below_alloc | apply pw_below_drewN | apply below_drew1) | exact HB.out)) hb); have n2_ := Aside0.mk (hbox); have n3_ := Aside0.mk ((by rw [hg]; exact (below_size (by repeat (first | (with_reducible first | exact HB.out | apply below_alloc | apply pw_below_drewN | apply below_drew1) | exact HB.out))) : w.heap.size ≤ gb314)); have n4_ := Aside0.mk ((by rw [hg]; exact (below_size (by repeat (first | (with_reducible first | exact HB.out | apply below_alloc | apply pw_below_drewN | apply below_drew1) | exact HB.out))) : w.heap.size ≤ gb314)); clear HO_7; clear HB; have HO_7 := n0_; have HB := n1_; have BK314 := n2_; have GW314 := n3_; have GE314 := n4_; clear n0_ n1_ n2_ n3_ n4_; clear hb hbox hg; have hcz74_0 : w73.cell? ⟨gb314, 0, none⟩ = some (.int .i64 0) := (blk_cell BK314.out 0).trans rfl; have hcz74_1 : w73.cell? ⟨gb314, 1, none⟩ = some (.int .i64 0) := (blk_cell BK314.out 1).trans rfl; have hfz74_0 := blk_frozen BK314.out 0; have hfz74_1 := blk_frozen BK314.out 1)); try go_wp2_with (first | ((with_reducible refine gate_dst (N := 9) rfl ?_); (try (refine gate_guard (by rfl) ?_; dsimp only)); refine box_event ?hg (N := 9) ?hd (cs := #[.int .i64 0, .int .i64 0]) (t := 100) ?hr ?_; (case hd => rfl); (case hg => rfl); (case hr => first | (go_simp; done) | (go_simp; rfl)); intro gb314 hg w73 hbox hb; have n0_ := Aside0.mk (Kd.R_below (by (with_reducible repeat (first | apply Kd.R_alloc | apply Kd.R_drewN | apply Kd.R_drew)); exact HO_7.out) hb); have n1_ := Aside0.mk (below_step (by repeat (first | (with_reducible first | exact HB.out | apply below_alloc | apply pw_below_drewN | apply below_drew1) | exact HB.out)) hb); have n2_ := Aside0.mk (hbox); have n3_ := Aside0.mk ((by rw [hg]; exact (below_size (by repeat (first | (with_reducible first | exact HB.out | apply below_alloc | apply pw_below_drewN | apply below_drew1) | exact HB.out))) : w.heap.size ≤ gb314)); have n4_ := Aside0.mk ((by rw [hg]; exact (below_size (by repeat (first | (with_reducible first | exact HB.out | apply below_alloc | apply pw_below_drewN | apply below_drew1) | exact HB.out))) : w.heap.size ≤ gb314)); clear HO_7; clear HB; have HO_7 := n0_; have HB := n1_; have BK314 := n2_; have GW314 := n3_; have GE314 := n4_; clear n0_ n1_ n2_ n3_ n4_; clear hb hbox hg; have hcz74_0 : w73.cell? ⟨gb314, 0, none⟩ = some (.int .i64 0) := (blk_cell BK314.out 0).trans rfl; have hcz74_1 : w73.cell? ⟨gb314, 1, none⟩ = some (.int .i64 0) := (blk_cell BK314.out 1).trans rfl; have hfz74_0 := blk_frozen BK314.out 0; have hfz74_1 := blk_frozen BK314.out 1)))
          go_roundg k1
          case measure => have := HK1.out; omega
          case rel => exact ⟨((-1)), (true), (x7_1), (wrap64 (x17_1 + 1)), (by first | rfl | (simp; done) | (simp [*]; done)), (by first | rfl | (simp; done) | (simp [*]; done)), (by first | rfl | (simp; done) | (simp [*]; done)), H', ⟨by have := HK1.out; omega⟩, ⟨by (with_reducible repeat (first | apply Kd.R_alloc | apply Kd.R_drewN | apply Kd.R_drew)); exact Kd.R_mono (Kd.R_far (p := ⟨gb314, 1, none⟩) (Kd.R_far (p := ⟨gb314, 0, none⟩) (Kd.R_types HO_7.out BK314.out (by decide)) (fun _ hk => hk.2) (.int .i64 ((rd_T100 l0 x17_1).f0))) (fun _ hk => hk.2) (.int .i64 ((rd_T100 l0 x17_1).f1))) (fun _ hk => trivial)⟩, ⟨by repeat (first | (with_reducible first | exact HB.out | apply below_alloc | apply pw_below_drewN | apply below_drew1 | refine below_set ?_ GE314.out) | exact HB.out)⟩⟩
         ·rw [if_neg c72] at H
          have c72b0 : (((rd_T100 l0 x17_1).f0) == 2) = false := beq_eq_false_iff_ne.mpr c72
          have c72b1 : (((rd_T100 l0 x17_1).f0) != 2) = true := bne_iff_ne.mpr c72
          by_cases c75 : x5_1 ≥ 0
          ·rw [if_pos c75] at H
           have c75b0 : decide (0 ≤ x5_1) = true := decide_eq_true c75
           clear c75
           have H' := Aside0.mk H
           clear H
           have p313 : 0 ≤ (x17_1 : Int) := of_decide_eq_true (by first | (with_reducible assumption) | assumption)
           have q313 : x17_1 < (l0.length : Int) := of_decide_eq_true (by first | (with_reducible assumption) | assumption)
           obtain ⟨ad313, e313, hx313_0, hx313_1⟩ := at_T100 HR0.out x17_1 p313 q313
           cases e313
           replace hx313_0 := (HB.out.cell (World.block_lt_of_cell? w _ hx313_0)).trans hx313_0
           replace hx313_1 := (HB.out.cell (World.block_lt_of_cell? w _ hx313_1)).trans hx313_1
           replace p313 := eq_true p313
           replace q313 := eq_true q313
           go_wp2_with (first | ((with_reducible refine gate_dst (N := 9) rfl ?_); (try (refine gate_guard (by rfl) ?_; dsimp only)); refine box_event ?hg (N := 9) ?hd (cs := #[.int .i64 0, .int .i64 0]) (t := 100) ?hr ?_; (case hd => rfl); (case hg => rfl); (case hr => first | (go_simp; done) | (go_simp; rfl)); intro gb314 hg w76 hbox hb; have n0_ := Aside0.mk (Kd.R_below (by (with_reducible repeat (first | apply Kd.R_alloc | apply Kd.R_drewN | apply Kd.R_drew)); exact HO_7.out) hb); have n1_ := Aside0.mk (below_step (by repeat (first | (with_reducible first | exact HB.out | apply below_alloc | apply pw_below_drewN | apply below_drew1) | exact HB.out)) hb); have n2_ := Aside0.mk (hbox); have n3_ := Aside0.mk ((by rw [hg]; exact (below_size (by repeat (first | (with_reducible first | exact HB.out | apply below_alloc | apply pw_below_drewN | apply below_drew1) | exact HB.out))) : w.heap.size ≤ gb314)); have n4_ := Aside0.mk ((by rw [hg]; exact (below_size (by repeat (first | (with_reducible first | exact HB.out | apply below_alloc | apply pw_below_drewN | apply below_drew1) | exact HB.out))) : w.heap.size ≤ gb314)); clear HO_7; clear HB; have HO_7 := n0_; have HB := n1_; have BK314 := n2_; have GW314 := n3_; have GE314 := n4_; clear n0_ n1_ n2_ n3_ n4_; clear hb hbox hg; have hcz77_0 : w76.cell? ⟨gb314, 0, none⟩ = some (.int .i64 0) := (blk_cell BK314.out 0).trans rfl; have hcz77_1 : w76.cell? ⟨gb314, 1, none⟩ = some (.int .i64 0) := (blk_cell BK314.out 1).trans rfl; have hfz77_0 := blk_frozen BK314.out 0; have hfz77_1 := blk_frozen BK314.out 1))
           repeat (go_quiet (first | ((with_reducible refine gate_dst (N := 9) rfl ?_); (try (refine gate_guard (by rfl) ?_; dsimp only)); refine box_event ?hg (N := 9) ?hd (cs := #[.int .i64 0, .int .i64 0]) (t := 100) ?hr ?_; (case hd => rfl); (case hg => rfl); (case hr => first | (go_simp; done) | (go_simp; rfl)); intro gb314 hg w76 hbox hb; have n0_ := Aside0.mk (Kd.R_below (by (with_reducible repeat (first | apply Kd.R_alloc | apply Kd.R_drewN | apply Kd.R_drew)); exact HO_7.out) hb); have n1_ := Aside0.mk (below_step (by repeat (first | (with_reducible first | exact HB.out | apply below_alloc | apply pw_below_drewN | apply below_drew1) | exact HB.out)) hb); have n2_ := Aside0.mk (hbox); have n3_ := Aside0.mk ((by rw [hg]; exact (below_size (by repeat (first | (with_reducible first | exact HB.out | apply below_alloc | apply pw_below_drewN | apply below_drew1) | exact HB.out))) : w.heap.size ≤ gb314)); have n4_ := Aside0.mk ((by rw [hg]; exact (below_size (by repeat (first | (with_reducible first | exact HB.out | apply below_alloc | apply pw_below_drewN | apply below_drew1) | exact HB.out))) : w.heap.size ≤ gb314)); clear HO_7; clear HB; have HO_7 := n0_; have HB := n1_; have BK314 := n2_; have GW314 := n3_; have GE314 := n4_; clear n0_ n1_ n2_ n3_ n4_; clear hb hbox hg; have hcz77_0 : w76.cell? ⟨gb314, 0, none⟩ = some (.int .i64 0) := (blk_cell BK314.out 0).trans rfl; have hcz77_1 : w76.cell? ⟨gb314, 1, none⟩ = some (.int .i64 0) := (blk_cell BK314.out 1).trans rfl; have hfz77_0 := blk_frozen BK314.out 0; have hfz77_1 := blk_frozen BK314.out 1)); try go_wp2_with (first | ((with_reducible refine gate_dst (N := 9) rfl ?_); (try (refine gate_guard (by rfl) ?_; dsimp only)); refine box_event ?hg (N := 9) ?hd (cs := #[.int .i64 0, .int .i64 0]) (t := 100) ?hr ?_; (case hd => rfl); (case hg => rfl); (case hr => first | (go_simp; done) | (go_simp; rfl)); intro gb314 hg w76 hbox hb; have n0_ := Aside0.mk (Kd.R_below (by (with_reducible repeat (first | apply Kd.R_alloc | apply Kd.R_drewN | apply Kd.R_drew)); exact HO_7.out) hb); have n1_ := Aside0.mk (below_step (by repeat (first | (with_reducible first | exact HB.out | apply below_alloc | apply pw_below_drewN | apply below_drew1) | exact HB.out)) hb); have n2_ := Aside0.mk (hbox); have n3_ := Aside0.mk ((by rw [hg]; exact (below_size (by repeat (first | (with_reducible first | exact HB.out | apply below_alloc | apply pw_below_drewN | apply below_drew1) | exact HB.out))) : w.heap.size ≤ gb314)); have n4_ := Aside0.mk ((by rw [hg]; exact (below_size (by repeat (first | (with_reducible first | exact HB.out | apply below_alloc | apply pw_below_drewN | apply below_drew1) | exact HB.out))) : w.heap.size ≤ gb314)); clear HO_7; clear HB; have HO_7 := n0_; have HB := n1_; have BK314 := n2_; have GW314 := n3_; have GE314 := n4_; clear n0_ n1_ n2_ n3_ n4_; clear hb hbox hg; have hcz77_0 : w76.cell? ⟨gb314, 0, none⟩ = some (.int .i64 0) := (blk_cell BK314.out 0).trans rfl; have hcz77_1 : w76.cell? ⟨gb314, 1, none⟩ = some (.int .i64 0) := (blk_cell BK314.out 1).trans rfl; have hfz77_0 := blk_frozen BK314.out 0; have hfz77_1 := blk_frozen BK314.out 1)))
           go_roundg k1
           case measure => have := HK1.out; omega
           case rel => exact ⟨(x5_1), (false), (x7_1), (wrap64 (x17_1 + 1)), (by first | rfl | (simp; done) | (simp [*]; done)), (by first | rfl | (simp; done) | (simp [*]; done)), (by first | rfl | (simp; done) | (simp [*]; done)), H', ⟨by have := HK1.out; omega⟩, ⟨by (with_reducible repeat (first | apply Kd.R_alloc | apply Kd.R_drewN | apply Kd.R_drew)); exact Kd.R_mono (Kd.R_far (p := ⟨gb314, 1, none⟩) (Kd.R_far (p := ⟨gb314, 0, none⟩) (Kd.R_types HO_7.out BK314.out (by decide)) (fun _ hk => hk.2) (.int .i64 ((rd_T100 l0 x17_1).f0))) (fun _ hk => hk.2) (.int .i64 ((rd_T100 l0 x17_1).f1))) (fun _ hk => trivial)⟩, ⟨by repeat (first | (with_reducible first | exact HB.out | apply below_alloc | apply pw_below_drewN | apply below_drew1 | refine below_set ?_ GE314.out) | exact HB.out)⟩⟩
          ·rw [if_neg c75] at H
           have c75b0 : decide (0 ≤ x5_1) = false := decide_eq_false c75
           clear c75
           have H' := Aside0.mk H
           clear H
           have p313 : 0 ≤ (x17_1 : Int) := of_decide_eq_true (by first | (with_reducible assumption) | assumption)
           have q313 : x17_1 < (l0.length : Int) := of_decide_eq_true (by first | (with_reducible assumption) | assumption)
           obtain ⟨ad313, e313, hx313_0, hx313_1⟩ := at_T100 HR0.out x17_1 p313 q313
           cases e313
           replace hx313_0 := (HB.out.cell (World.block_lt_of_cell? w _ hx313_0)).trans hx313_0
           replace hx313_1 := (HB.out.cell (World.block_lt_of_cell? w _ hx313_1)).trans hx313_1
           replace p313 := eq_true p313
           replace q313 := eq_true q313
           go_wp2_with (first | ((with_reducible refine gate_dst (N := 9) rfl ?_); (try (refine gate_guard (by rfl) ?_; dsimp only)); refine box_event ?hg (N := 9) ?hd (cs := #[.int .i64 0, .int .i64 0]) (t := 100) ?hr ?_; (case hd => rfl); (case hg => rfl); (case hr => first | (go_simp; done) | (go_simp; rfl)); intro gb314 hg w78 hbox hb; have n0_ := Aside0.mk (Kd.R_below (by (with_reducible repeat (first | apply Kd.R_alloc | apply Kd.R_drewN | apply Kd.R_drew)); exact HO_7.out) hb); have n1_ := Aside0.mk (below_step (by repeat (first | (with_reducible first | exact HB.out | apply below_alloc | apply pw_below_drewN | apply below_drew1) | exact HB.out)) hb); have n2_ := Aside0.mk (hbox); have n3_ := Aside0.mk ((by rw [hg]; exact (below_size (by repeat (first | (with_reducible first | exact HB.out | apply below_alloc | apply pw_below_drewN | apply below_drew1) | exact HB.out))) : w.heap.size ≤ gb314)); have n4_ := Aside0.mk ((by rw [hg]; exact (below_size (by repeat (first | (with_reducible first | exact HB.out | apply below_alloc | apply pw_below_drewN | apply below_drew1) | exact HB.out))) : w.heap.size ≤ gb314)); clear HO_7; clear HB; have HO_7 := n0_; have HB := n1_; have BK314 := n2_; have GW314 := n3_; have GE314 := n4_; clear n0_ n1_ n2_ n3_ n4_; clear hb hbox hg; have hcz79_0 : w78.cell? ⟨gb314, 0, none⟩ = some (.int .i64 0) := (blk_cell BK314.out 0).trans rfl; have hcz79_1 : w78.cell? ⟨gb314, 1, none⟩ = some (.int .i64 0) := (blk_cell BK314.out 1).trans rfl; have hfz79_0 := blk_frozen BK314.out 0; have hfz79_1 := blk_frozen BK314.out 1))
           repeat (go_quiet (first | ((with_reducible refine gate_dst (N := 9) rfl ?_); (try (refine gate_guard (by rfl) ?_; dsimp only)); refine box_event ?hg (N := 9) ?hd (cs := #[.int .i64 0, .int .i64 0]) (t := 100) ?hr ?_; (case hd => rfl); (case hg => rfl); (case hr => first | (go_simp; done) | (go_simp; rfl)); intro gb314 hg w78 hbox hb; have n0_ := Aside0.mk (Kd.R_below (by (with_reducible repeat (first | apply Kd.R_alloc | apply Kd.R_drewN | apply Kd.R_drew)); exact HO_7.out) hb); have n1_ := Aside0.mk (below_step (by repeat (first | (with_reducible first | exact HB.out | apply below_alloc | apply pw_below_drewN | apply below_drew1) | exact HB.out)) hb); have n2_ := Aside0.mk (hbox); have n3_ := Aside0.mk ((by rw [hg]; exact (below_size (by repeat (first | (with_reducible first | exact HB.out | apply below_alloc | apply pw_below_drewN | apply below_drew1) | exact HB.out))) : w.heap.size ≤ gb314)); have n4_ := Aside0.mk ((by rw [hg]; exact (below_size (by repeat (first | (with_reducible first | exact HB.out | apply below_alloc | apply pw_below_drewN | apply below_drew1) | exact HB.out))) : w.heap.size ≤ gb314)); clear HO_7; clear HB; have HO_7 := n0_; have HB := n1_; have BK314 := n2_; have GW314 := n3_; have GE314 := n4_; clear n0_ n1_ n2_ n3_ n4_; clear hb hbox hg; have hcz79_0 : w78.cell? ⟨gb314, 0, none⟩ = some (.int .i64 0) := (blk_cell BK314.out 0).trans rfl; have hcz79_1 : w78.cell? ⟨gb314, 1, none⟩ = some (.int .i64 0) := (blk_cell BK314.out 1).trans rfl; have hfz79_0 := blk_frozen BK314.out 0; have hfz79_1 := blk_frozen BK314.out 1)); try go_wp2_with (first | ((with_reducible refine gate_dst (N := 9) rfl ?_); (try (refine gate_guard (by rfl) ?_; dsimp only)); refine box_event ?hg (N := 9) ?hd (cs := #[.int .i64 0, .int .i64 0]) (t := 100) ?hr ?_; (case hd => rfl); (case hg => rfl); (case hr => first | (go_simp; done) | (go_simp; rfl)); intro gb314 hg w78 hbox hb; have n0_ := Aside0.mk (Kd.R_below (by (with_reducible repeat (first | apply Kd.R_alloc | apply Kd.R_drewN | apply Kd.R_drew)); exact HO_7.out) hb); have n1_ := Aside0.mk (below_step (by repeat (first | (with_reducible first | exact HB.out | apply below_alloc | apply pw_below_drewN | apply below_drew1) | exact HB.out)) hb); have n2_ := Aside0.mk (hbox); have n3_ := Aside0.mk ((by rw [hg]; exact (below_size (by repeat (first | (with_reducible first | exact HB.out | apply below_alloc | apply pw_below_drewN | apply below_drew1) | exact HB.out))) : w.heap.size ≤ gb314)); have n4_ := Aside0.mk ((by rw [hg]; exact (below_size (by repeat (first | (with_reducible first | exact HB.out | apply below_alloc | apply pw_below_drewN | apply below_drew1) | exact HB.out))) : w.heap.size ≤ gb314)); clear HO_7; clear HB; have HO_7 := n0_; have HB := n1_; have BK314 := n2_; have GW314 := n3_; have GE314 := n4_; clear n0_ n1_ n2_ n3_ n4_; clear hb hbox hg; have hcz79_0 : w78.cell? ⟨gb314, 0, none⟩ = some (.int .i64 0) := (blk_cell BK314.out 0).trans rfl; have hcz79_1 : w78.cell? ⟨gb314, 1, none⟩ = some (.int .i64 0) := (blk_cell BK314.out 1).trans rfl; have hfz79_0 := blk_frozen BK314.out 0; have hfz79_1 := blk_frozen BK314.out 1)))
           go_roundg k1
           case measure => have := HK1.out; omega
           case rel => exact ⟨(x5_1), (x6_1), (x7_1), (wrap64 (x17_1 + 1)), (by first | rfl | (simp; done) | (simp [*]; done)), (by first | rfl | (simp; done) | (simp [*]; done)), (by first | rfl | (simp; done) | (simp [*]; done)), H', ⟨by have := HK1.out; omega⟩, ⟨by (with_reducible repeat (first | apply Kd.R_alloc | apply Kd.R_drewN | apply Kd.R_drew)); exact Kd.R_mono (Kd.R_far (p := ⟨gb314, 1, none⟩) (Kd.R_far (p := ⟨gb314, 0, none⟩) (Kd.R_types HO_7.out BK314.out (by decide)) (fun _ hk => hk.2) (.int .i64 ((rd_T100 l0 x17_1).f0))) (fun _ hk => hk.2) (.int .i64 ((rd_T100 l0 x17_1).f1))) (fun _ hk => trivial)⟩, ⟨by repeat (first | (with_reducible first | exact HB.out | apply below_alloc | apply pw_below_drewN | apply below_drew1 | refine below_set ?_ GE314.out) | exact HB.out)⟩⟩
      ·rw [if_neg c9] at H
       exact absurd H (by simp)
     ·rw [if_neg c8] at H
      exact absurd H (by simp)
    ·rw [if_neg c7] at H
     have c7b0 : decide (x17_1 < (l0.length : Int)) = false := decide_eq_false c7
     clear c7
     by_cases c80 : x5_1 ≥ 0
     ·rw [if_pos c80] at H
      have c80b0 : decide (0 ≤ x5_1) = true := decide_eq_true c80
      clear c80
      by_cases c81 : 0 ≤ x5_1
      ·rw [if_pos c81] at H
       have c81b0 : decide (0 ≤ x5_1) = true := decide_eq_true c81
       clear c81
       by_cases c82 : x5_1 < (x7_1.length : Int)
       ·rw [if_pos c82] at H
        have c82b0 : decide (x5_1 < (x7_1.length : Int)) = true := decide_eq_true c82
        clear c82
        replace H := Option.bind_eq_some_iff.mp H
        obtain ⟨t311, A830, H⟩ := H
        replace H : (some (x7_1.set (x5_1 : Int).toNat t311)) = some r := H
        have A83 := Aside0.mk A830
        clear A830
        obtain ⟨y312, hy312⟩ : ∃ y_ : List ByteArray, y_ = (x7_1.set (x5_1 : Int).toNat t311) := ⟨_, rfl⟩
        replace H : (some y312) = some r := by first | (rw [hy312]; with_reducible exact H) | (have H2_ := (Option.bind_some _ _).symm.trans H; rw [hy312]; with_reducible exact H2_) | (have H2_ := (Option.bind_some _ _).symm.trans H; with_reducible exact H2_) | with_reducible exact H | (rw [hy312]; exact H) | exact H
        have Ny312 := Aside0.mk hy312
        clear hy312
        obtain rfl := Option.some.inj H
        obtain ⟨Ao85, co85, eo85⟩ := Kd.R_slice HO_7.out
        subst eo85
        have p310 : 0 ≤ (x5_1 : Int) := of_decide_eq_true (by first | (with_reducible assumption) | assumption)
        have q310 : x5_1 < (x7_1.length : Int) := of_decide_eq_true (by first | (with_reducible assumption) | assumption)
        obtain ⟨ad310, e310, hx310_0⟩ := Kd.at_string (Kd.R_reads' HO_7.out).2.2 x5_1 p310 q310
        cases e310
        replace p310 := eq_true p310
        replace q310 := eq_true q310
        go_wp2_with (first | (go_at_call 86; (with_reducible refine (spec_cutBlank.calls (rdOf ByteArray.empty x7_1 x5_1) t311 _ A83.out).mono ?_); rintro e w' ⟨rfl, ⟨nd, rfl⟩⟩; (try first | exact ⟨rfl, _, World.drewN_drewN _ _ _⟩ | exact ⟨rfl, _, Eq.trans (World.drewN_drewN _ _ _) (congrArg (World.drewN _) (Nat.add_assoc _ _ _))⟩); have p84 : 0 ≤ (x5_1 : Int) := of_decide_eq_true (by first | (with_reducible assumption) | assumption); have q84 : (x5_1 : Int) < ((x7_1.length : Int) : Int) := of_decide_eq_true (by first | (with_reducible assumption) | assumption); obtain ⟨go84, co84, eo84, gb84, gl84, cl84, HG84⟩ := Kd.R_form HO_7.out (by omega); (first | cases eo84 | (injection eo84 with ea_ en_ ec_; (first | subst ea_ | (injection ea_ with ea_; subst ea_)); subst ec_; clear en_)); have GB84 := Aside0.mk gb84; have GG84 := Aside0.mk HG84; clear gb84 gl84 HG84; (first | simp only [add_plain] at hx310_0 | skip); obtain ⟨hx84_0, hf84_0⟩ := Kd.R_celln (⟨#[]⟩ : ByteArray) HO_7.out (x5_1 : Int) p84 q84; replace p84 := eq_true p84; replace q84 := eq_true q84; obtain ⟨hy86_, hz86_⟩ := Kd.R_celln (⟨#[]⟩ : ByteArray) HO_7.out (x5_1 : Int) (of_decide_eq_true (by first | (with_reducible assumption) | assumption)) (of_decide_eq_true (by first | (with_reducible assumption) | assumption)); have HP86 := Kd.R_putg HO_7.out (x5_1 : Int) t311) | ((with_reducible refine gate_store (t := 9) (p := 107) rfl ?_); (try (rw [drewN_self wr]; generalize hq_ : World.drewN wr _ = wr; have n0_ := Aside0.mk (Kd.R_at hq_ HO_7.out); have n1_ := Aside0.mk (below_at hq_ HB.out); clear hq_ HO_7 HB; have HO_7 := n0_; have HB := n1_; clear n0_ n1_; (try (obtain ⟨hy86_, hz86_⟩ := Kd.R_celln (⟨#[]⟩ : ByteArray) HO_7.out (x5_1 : Int) (of_decide_eq_true (by first | (with_reducible assumption) | assumption)) (of_decide_eq_true (by first | (with_reducible assumption) | assumption)))); (try (have HP86 := Kd.R_putg HO_7.out (x5_1 : Int) t311)))); refine store_event (t := 9) (p := 107) (v := ?vo_w87) (w1 := (wr.setCell ⟨go84, (x5_1 : Int).toNat, none⟩ (.string t311))) ?hg ?ho ?hn ?hr ?_; (case ho => rfl); (case hg => rfl); (case hn => rfl); (case hr => first | (go_simp; done) | (go_simp; rfl)); intro w87 hw; have hg : wr.grownBy w87 (some go84) := (by rw [hw]; exact HP86.2); have hp_ : Kd.R Kd.string 9 w87 w.heap.size (fun _ => True) (.slice (some ⟨go84, 0, none⟩) x7_1.length co85) y312 := (by rw [hw, Ny312.out]; exact HP86.1); clear HP86; have n0_ := Aside0.mk (hp_); have n1_ := Aside0.mk ((by rw [hw]; exact below_set (HB.out) GB84.out : Below w.heap.size w w87)); clear HO_7; clear HB; have HO_7 := n0_; have HB := n1_; clear n0_ n1_; clear hg hw hp_))
        repeat (go_quiet (first | (go_at_call 86; (with_reducible refine (spec_cutBlank.calls (rdOf ByteArray.empty x7_1 x5_1) t311 _ A83.out).mono ?_); rintro e w' ⟨rfl, ⟨nd, rfl⟩⟩; (try first | exact ⟨rfl, _, World.drewN_drewN _ _ _⟩ | exact ⟨rfl, _, Eq.trans (World.drewN_drewN _ _ _) (congrArg (World.drewN _) (Nat.add_assoc _ _ _))⟩); have p84 : 0 ≤ (x5_1 : Int) := of_decide_eq_true (by first | (with_reducible assumption) | assumption); have q84 : (x5_1 : Int) < ((x7_1.length : Int) : Int) := of_decide_eq_true (by first | (with_reducible assumption) | assumption); obtain ⟨go84, co84, eo84, gb84, gl84, cl84, HG84⟩ := Kd.R_form HO_7.out (by omega); (first | cases eo84 | (injection eo84 with ea_ en_ ec_; (first | subst ea_ | (injection ea_ with ea_; subst ea_)); subst ec_; clear en_)); have GB84 := Aside0.mk gb84; have GG84 := Aside0.mk HG84; clear gb84 gl84 HG84; (first | simp only [add_plain] at hx310_0 | skip); obtain ⟨hx84_0, hf84_0⟩ := Kd.R_celln (⟨#[]⟩ : ByteArray) HO_7.out (x5_1 : Int) p84 q84; replace p84 := eq_true p84; replace q84 := eq_true q84; obtain ⟨hy86_, hz86_⟩ := Kd.R_celln (⟨#[]⟩ : ByteArray) HO_7.out (x5_1 : Int) (of_decide_eq_true (by first | (with_reducible assumption) | assumption)) (of_decide_eq_true (by first | (with_reducible assumption) | assumption)); have HP86 := Kd.R_putg HO_7.out (x5_1 : Int) t311) | ((with_reducible refine gate_store (t := 9) (p := 107) rfl ?_); (try (rw [drewN_self wr]; generalize hq_ : World.drewN wr _ = wr; have n0_ := Aside0.mk (Kd.R_at hq_ HO_7.out); have n1_ := Aside0.mk (below_at hq_ HB.out); clear hq_ HO_7 HB; have HO_7 := n0_; have HB := n1_; clear n0_ n1_; (try (obtain ⟨hy86_, hz86_⟩ := Kd.R_celln (⟨#[]⟩ : ByteArray) HO_7.out (x5_1 : Int) (of_decide_eq_true (by first | (with_reducible assumption) | assumption)) (of_decide_eq_true (by first | (with_reducible assumption) | assumption)))); (try (have HP86 := Kd.R_putg HO_7.out (x5_1 : Int) t311)))); refine store_event (t := 9) (p := 107) (v := ?vo_w87) (w1 := (wr.setCell ⟨go84, (x5_1 : Int).toNat, none⟩ (.string t311))) ?hg ?ho ?hn ?hr ?_; (case ho => rfl); (case hg => rfl); (case hn => rfl); (case hr => first | (go_simp; done) | (go_simp; rfl)); intro w87 hw; have hg : wr.grownBy w87 (some go84) := (by rw [hw]; exact HP86.2); have hp_ : Kd.R Kd.string 9 w87 w.heap.size (fun _ => True) (.slice (some ⟨go84, 0, none⟩) x7_1.length co85) y312 := (by rw [hw, Ny312.out]; exact HP86.1); clear HP86; have n0_ := Aside0.mk (hp_); have n1_ := Aside0.mk ((by rw [hw]; exact below_set (HB.out) GB84.out : Below w.heap.size w w87)); clear HO_7; clear HB; have HO_7 := n0_; have HB := n1_; clear n0_ n1_; clear hg hw hp_)); try go_wp2_with (first | (go_at_call 86; (with_reducible refine (spec_cutBlank.calls (rdOf ByteArray.empty x7_1 x5_1) t311 _ A83.out).mono ?_); rintro e w' ⟨rfl, ⟨nd, rfl⟩⟩; (try first | exact ⟨rfl, _, World.drewN_drewN _ _ _⟩ | exact ⟨rfl, _, Eq.trans (World.drewN_drewN _ _ _) (congrArg (World.drewN _) (Nat.add_assoc _ _ _))⟩); have p84 : 0 ≤ (x5_1 : Int) := of_decide_eq_true (by first | (with_reducible assumption) | assumption); have q84 : (x5_1 : Int) < ((x7_1.length : Int) : Int) := of_decide_eq_true (by first | (with_reducible assumption) | assumption); obtain ⟨go84, co84, eo84, gb84, gl84, cl84, HG84⟩ := Kd.R_form HO_7.out (by omega); (first | cases eo84 | (injection eo84 with ea_ en_ ec_; (first | subst ea_ | (injection ea_ with ea_; subst ea_)); subst ec_; clear en_)); have GB84 := Aside0.mk gb84; have GG84 := Aside0.mk HG84; clear gb84 gl84 HG84; (first | simp only [add_plain] at hx310_0 | skip); obtain ⟨hx84_0, hf84_0⟩ := Kd.R_celln (⟨#[]⟩ : ByteArray) HO_7.out (x5_1 : Int) p84 q84; replace p84 := eq_true p84; replace q84 := eq_true q84; obtain ⟨hy86_, hz86_⟩ := Kd.R_celln (⟨#[]⟩ : ByteArray) HO_7.out (x5_1 : Int) (of_decide_eq_true (by first | (with_reducible assumption) | assumption)) (of_decide_eq_true (by first | (with_reducible assumption) | assumption)); have HP86 := Kd.R_putg HO_7.out (x5_1 : Int) t311) | ((with_reducible refine gate_store (t := 9) (p := 107) rfl ?_); (try (rw [drewN_self wr]; generalize hq_ : World.drewN wr _ = wr; have n0_ := Aside0.mk (Kd.R_at hq_ HO_7.out); have n1_ := Aside0.mk (below_at hq_ HB.out); clear hq_ HO_7 HB; have HO_7 := n0_; have HB := n1_; clear n0_ n1_; (try (obtain ⟨hy86_, hz86_⟩ := Kd.R_celln (⟨#[]⟩ : ByteArray) HO_7.out (x5_1 : Int) (of_decide_eq_true (by first | (with_reducible assumption) | assumption)) (of_decide_eq_true (by first | (with_reducible assumption) | assumption)))); (try (have HP86 := Kd.R_putg HO_7.out (x5_1 : Int) t311)))); refine store_event (t := 9) (p := 107) (v := ?vo_w87) (w1 := (wr.setCell ⟨go84, (x5_1 : Int).toNat, none⟩ (.string t311))) ?hg ?ho ?hn ?hr ?_; (case ho => rfl); (case hg => rfl); (case hn => rfl); (case hr => first | (go_simp; done) | (go_simp; rfl)); intro w87 hw; have hg : wr.grownBy w87 (some go84) := (by rw [hw]; exact HP86.2); have hp_ : Kd.R Kd.string 9 w87 w.heap.size (fun _ => True) (.slice (some ⟨go84, 0, none⟩) x7_1.length co85) y312 := (by rw [hw, Ny312.out]; exact HP86.1); clear HP86; have n0_ := Aside0.mk (hp_); have n1_ := Aside0.mk ((by rw [hw]; exact below_set (HB.out) GB84.out : Below w.heap.size w w87)); clear HO_7; clear HB; have HO_7 := n0_; have HB := n1_; clear n0_ n1_; clear hg hw hp_)))
        go_ret
        exact ⟨_, by first | rfl | (simp [errW_none, errW_some] <;> rfl) | (simp [*, errW_none, errW_some] <;> rfl), by (with_reducible repeat (first | apply Kd.R_alloc | apply Kd.R_drewN | apply Kd.R_drew)); exact HO_7.out, by repeat (first | (with_reducible first | exact HB.out | apply below_alloc | apply pw_below_drewN | apply below_drew1) | exact HB.out)⟩
       ·rw [if_neg c82] at H
        exact absurd H (by simp)
      ·rw [if_neg c81] at H
       exact absurd H (by simp)
     ·rw [if_neg c80] at H
      have c80b0 : decide (0 ≤ x5_1) = false := decide_eq_false c80
      clear c80
      obtain rfl := Option.some.inj H
      go_wp2
      repeat (go_quiet (fail); try go_wp2)
      go_ret
      exact ⟨_, by first | rfl | (simp [errW_none, errW_some] <;> rfl) | (simp [*, errW_none, errW_some] <;> rfl), by (with_reducible repeat (first | apply Kd.R_alloc | apply Kd.R_drewN | apply Kd.R_drew)); exact HO_7.out, by repeat (first | (with_reducible first | exact HB.out | apply below_alloc | apply pw_below_drewN | apply below_drew1) | exact HB.out)⟩
 ·rw [if_neg c3] at H
  exact absurd H (by simp)

-- NOT PRINTED: function 24 (spec_Collapsed)

-- NOT PRINTED: function 6 (laws_FnCollapse)

-- NOT PRINTED: function 25 (laws_inlineSpaced)

-- NOT PRINTED: function 7 (laws_FnCollapseAny)
end Go.Proofs.Ytmfjbljdbkmkgaa.PDom

/- The reference's texts, as their white space is collapsed: the store machine. Plain facts on printed definitions. -/
namespace Go.Proofs.Ytmfjbljdbkmkgaa.Dom
open Go.RowKit Go.Proofs.YtmfjbljdbkmkgaaW.PrintWords Go.Proofs.YtmfjbljdbkmkgaaW.PrintLast Go.Proofs.YtmfjbljdbkmkgaaW.PrintMore Go.Proofs.Ytmfjbljdbkmkgaa.PDom Go.Proofs.Ytmfjbljdbkmkgaa.Txt Go.Proofs.Ytmfjbljdbkmkgaa.Blank
set_option linter.unusedVariables false
set_option linter.unusedSimpArgs false

theorem bt_get {x : ByteArray} {i : Nat} (h : i < (bytesOf x).length) : bt x (i : Int) = (bytesOf x)[i] := by rw [bt_rd, rd_get h]
theorem endW_at {l : List Int} {i : Nat} (h : i < l.length) : endW false (l.take (i + 1)) = ws l[i] := by
 rw [take_snoc h, endW_append]
 rfl
theorem one_loop (x : ByteArray) (hx : x.size ≤ 1073741824) : ∀ (n i k : Nat) (acc : List Int), x.size - i ≤ n → i ≤ x.size → n + 1 ≤ k → acc.length ≤ i → spec_OneSpace.l0 k x acc (x.size : Int) (i : Int) = some (strOfNums (acc ++ norm (endW false ((bytesOf x).take i)) ((bytesOf x).drop i))) := by
 intro n
 induction n with
 | zero =>
  intro i k acc h1 h2 h3 h4
  obtain ⟨k, rfl⟩ : ∃ k', k = k' + 1 := ⟨k - 1, by omega⟩
  rw [spec_OneSpace.l0, if_neg (by omega), List.drop_of_length_le (by rw [bytesOf_length]; omega)]
  simp [norm]
 | succ n ih =>
  intro i k acc h1 h2 h3 h4
  obtain ⟨k, rfl⟩ : ∃ k', k = k' + 1 := ⟨k - 1, by omega⟩
  rw [spec_OneSpace.l0]
  by_cases hi : i < x.size
  ·have hl : i < (bytesOf x).length := by rw [bytesOf_length]; exact hi
   have hw : wrap64 ((i : Int) + 1) = ((i + 1 : Nat) : Int) := by rw [wrap_id (by omega) (by omega)]; omega
   have hd : (bytesOf x).drop i = (bytesOf x)[i] :: (bytesOf x).drop (i + 1) := List.drop_eq_getElem_cons hl
   have hE := endW_at hl
   have hal : acc.length < 140737488355328 := by omega
   have hone : ∀ c : Int, (acc ++ [c]).length ≤ i + 1 := fun c => by simp; omega
   have hnx : ∀ acc' : List Int, acc'.length ≤ i + 1 → spec_OneSpace.l0 k x acc' (x.size : Int) ((i + 1 : Nat) : Int) = some (strOfNums (acc' ++ norm (ws (bytesOf x)[i]) ((bytesOf x).drop (i + 1)))) := fun acc' ha => by rw [← hE]; exact ih (i + 1) k acc' (by omega) (by omega) (by omega) ha
   rw [if_pos (by omega), if_pos (by omega), if_pos (by omega), blank_f, Option.bind_some, bt_get hl, hw, hd, norm]
   cases hb : ws (bytesOf x)[i] with
   | true =>
    rw [hb] at hnx
    rw [if_pos rfl, if_pos rfl]
    by_cases h0 : i = 0
    ·subst h0
     rw [if_pos (show ((0 : Nat) : Int) = 0 from rfl), if_pos hal, hnx _ (hone _)]
     simp [endW]
    ·obtain ⟨m, rfl⟩ : ∃ m, i = m + 1 := ⟨i - 1, by omega⟩
     have hm : m < (bytesOf x).length := by omega
     have hw2 : wrap64 (((m + 1 : Nat) : Int) - 1) = (m : Int) := by rw [wrap_id (by omega) (by omega)]; omega
     rw [if_neg (by omega), hw2, if_pos (by omega), if_pos (by omega), blank_f, Option.bind_some, bt_get hm, endW_at hm]
     cases hc : ws (bytesOf x)[m] with
     | true => rw [if_pos rfl, if_pos rfl, hnx _ (by omega)]
     | false => rw [if_neg Bool.false_ne_true, if_neg Bool.false_ne_true, if_pos hal, hnx _ (hone _)]; simp
   | false =>
    rw [hb] at hnx
    rw [if_neg Bool.false_ne_true, if_neg Bool.false_ne_true, if_pos hal, hnx _ (hone _)]
    simp
  ·rw [if_neg (by omega), List.drop_of_length_le (by rw [bytesOf_length]; omega)]
   simp [norm]
theorem one_f (x : ByteArray) (hx : x.size ≤ 1073741824) {k : Nat} (hk : x.size + 1 ≤ k) : spec_OneSpace.f k x = some (strOfNums (norm false (bytesOf x))) := by
 have := one_loop x hx x.size 0 k [] (by omega) (by omega) hk (by simp)
 unfold spec_OneSpace.f
 simpa [endW] using this
theorem last_get (l : List Int) (h : 0 < l.length) : l.getLast? = some (l[l.length - 1]) := by
 rw [List.getLast?_eq_getElem?, List.getElem?_eq_getElem (by omega)]
theorem cut_f (x : ByteArray) (hx : x.size ≤ 1073741824) : spec_cutBlank.f x = some (strOfNums (trimB (bytesOf x))) := by
 unfold spec_cutBlank.f
 by_cases h0 : x.toList = []
 ·rw [if_pos h0]
  have hz := toList_nil.1 h0
  have : bytesOf x = [] := List.eq_nil_of_length_eq_zero (by rw [bytesOf_length]; exact hz)
  have hx2 : x = strOfNums [] := by rw [← this, str_bytes]
  rw [this]
  exact congrArg some hx2
 ·rw [if_neg h0]
  have hz : x.size ≠ 0 := fun h => h0 (toList_nil.2 h)
  have hw : wrap64 ((x.size : Int) - 1) = ((x.size - 1 : Nat) : Int) := by rw [wrap_id (by omega) (by omega)]; omega
  have hl : x.size - 1 < (bytesOf x).length := by rw [bytesOf_length]; omega
  have hlast : (bytesOf x).getLast? = some ((bytesOf x)[x.size - 1]) := by
   rw [last_get _ (by omega)]
   simp [bytesOf_length]
  rw [hw, if_pos (by omega), if_pos (by omega), bt_get hl]
  unfold trimB
  rw [hlast]
  by_cases hc : (bytesOf x)[x.size - 1] = 32
  ·rw [if_pos hc, if_pos (by omega), if_pos (by simp [hc])]
   congr 1
   rw [← str_bytes (x.extract _ _), bytes_extract, List.drop_zero, List.dropLast_eq_take, bytesOf_length]
   simp
  ·rw [if_neg hc, if_neg (by simp [hc]), str_bytes]
/-! ### The loop -/
structure RelS (s : SR) (out : List ByteArray) : Prop where
 st : ∀ i (h : i < out.length), s.st i = bytesOf out[i]
 pt : ∀ p, s.pt = some p → p < out.length
def ptI (s : SR) : Int := match s.pt with
 | some p => (p : Int)
 | none => -1
theorem ptI_some {s : SR} {p : Nat} (h : s.pt = some p) : ptI s = (p : Int) := by unfold ptI; rw [h]
theorem ptI_none {s : SR} (h : s.pt = none) : ptI s = -1 := by unfold ptI; rw [h]
theorem rd_in (out : List ByteArray) {p : Nat} (h : p < out.length) : rdOf ByteArray.empty out (p : Int) = out[p] := by
 simp [rdOf, List.getD_eq_getElem?_getD, List.getElem?_eq_getElem h]
theorem rds_in (l : List Stp) {p : Nat} (h : p < l.length) : rd_T100 l (p : Int) = l[p] := by
 simp [rd_T100, List.getD_eq_getElem?_getD, List.getElem?_eq_getElem h]
theorem set_rel {s : SR} {out : List ByteArray} (hr : RelS s out) {i : Nat} {x : List Int} (hx : Byt x) (pt : Option Nat) (keep : Bool) (hp : ∀ p, pt = some p → p < out.length) : RelS ⟨upd s.st i x, pt, keep⟩ (out.set i (strOfNums x)) := by
 refine ⟨fun j hj => ?_, fun p e => by rw [List.length_set]; exact hp p e⟩
 rw [List.length_set] at hj
 by_cases h : j = i
 ·subst h
  rw [List.getElem_set_self, bytes_str hx]
  exact upd_same _ _ _
 ·rw [List.getElem_set_ne (by omega)]
  exact (upd_other _ _ h).trans (hr.st j hj)
theorem set_M {out : List ByteArray} {M : Nat} (hM : ∀ y ∈ out, y.size ≤ M) {i : Nat} {t : ByteArray} (ht : t.size ≤ M) : ∀ y ∈ out.set i t, y.size ≤ M := fun y hy => by
 rcases List.mem_or_eq_of_mem_set hy with h | h
 ·exact hM y h
 ·rw [h]; exact ht
theorem j2_eq (k : Nat) (p : Int) (keep : Bool) (out : List ByteArray) (T : ByteArray) (l : List Stp) (n j : Int) (b : Bool) (f0 : Int) (i : Nat) (hi : i < out.length) (hb : b = true → 1 ≤ T.size) : spec_collapsed.j2 (k + 1) p keep out T l n j b f0 (i : Int) =
  spec_collapsed.l0 k (if (if b = true then (bytesOf T).tail else bytesOf T).isEmpty = true then p else (i : Int)) keep (out.set i (strOfNums (if b = true then (bytesOf T).tail else bytesOf T))) l n (wrap64 (j + 1)) := by
 have he : ∀ t : ByteArray, (t.toList = []) ↔ (bytesOf t).isEmpty = true := fun t => by
  rw [toList_nil, List.isEmpty_iff_length_eq_zero, bytesOf_length]
 rw [spec_collapsed.j2]
 cases b with
 | true =>
  have h1 := hb rfl
  have hx : T.extract 1 T.size = strOfNums (bytesOf T).tail := by
   rw [← str_bytes (T.extract _ _), bytes_extract, List.take_of_length_le (by rw [bytesOf_length]; omega), List.drop_one]
  have hbt : Byt (bytesOf T).tail := by rw [← List.drop_one]; exact (Byt.of T).drop 1
  rw [if_pos rfl, if_pos (by omega), if_pos (by omega), if_pos (by omega), Option.bind_some, hx, Int.toNat_natCast]
  simp only [he, bytes_str hbt, if_true]
  split <;> rfl
 | false =>
  rw [if_neg (by simp), if_pos (by omega), if_pos (by omega), Option.bind_some, Int.toNat_natCast]
  simp only [he, str_bytes, Bool.false_eq_true, if_false]
  split <;> rfl
theorem j1_eq (k : Nat) (p : Int) (keep : Bool) (out : List ByteArray) (T : ByteArray) (ah : Bool) (l : List Stp) (n j : Int) (f0 i : Int) : spec_collapsed.j1 (k + 1) p keep out T ah l n j f0 i = spec_collapsed.j2 k p keep out T l n j ((ah && !keep) && (bytesOf T).head? == some 32) f0 i := by
 rw [spec_collapsed.j1]
 cases ah with
 | false => rw [if_neg (by simp)]; rfl
 | true =>
  rw [if_pos rfl]
  cases keep with
  | true => rw [if_pos rfl]; rfl
  | false =>
   rw [if_neg (by simp)]
   by_cases h : 0 < T.size
   ·have hl : 0 < (bytesOf T).length := by rw [bytesOf_length]; exact h
    have hh : (bytesOf T).head? = some (bt T ((0 : Nat) : Int)) := by rw [bt_get hl, List.head?_eq_getElem?, List.getElem?_eq_getElem hl]
    rw [if_pos (by omega), if_pos (by omega), hh]
    simp
   ·have : bytesOf T = [] := List.eq_nil_of_length_eq_zero (by rw [bytesOf_length]; omega)
    rw [if_neg (by omega), this]
    simp
set_option maxHeartbeats 2000000 in
theorem step_one (l : List Stp) (M k j : Nat) (s : SR) (out : List ByteArray) (hr : RelS s out) (hM : ∀ y ∈ out, y.size ≤ M) (hMb : M ≤ 1073741824) (hj : j < l.length) (hlen : l.length ≤ 1099511627776) (hf : l[j].f0 = 0 → 0 ≤ l[j].f1 ∧ l[j].f1.toNat < out.length) (h0 : l[j].f0 = 0 ∨ l[j].f0 = 1 ∨ l[j].f0 = 2 ∨ l[j].f0 = 3) (hk : M + 5 ≤ k) :
  ∃ (k' : Nat) (out' : List ByteArray), k ≤ k' + 3 ∧ spec_collapsed.l0 k (ptI s) s.keep out l (l.length : Int) (j : Int) = spec_collapsed.l0 k' (ptI (stepR s l[j])) (stepR s l[j]).keep out' l (l.length : Int) ((j + 1 : Nat) : Int) ∧ RelS (stepR s l[j]) out' ∧ out'.length = out.length ∧ ∀ y ∈ out', y.size ≤ M := by
 obtain ⟨k, rfl⟩ : ∃ k', k = k' + 3 := ⟨k - 3, by omega⟩
 have hw : wrap64 ((j : Int) + 1) = ((j + 1 : Nat) : Int) := by rw [wrap_id (by omega) (by omega)]; omega
 rw [spec_collapsed.l0, if_pos (by omega), if_pos (by omega), if_pos (by omega), rds_in l hj]
 generalize l[j] = x at *
 by_cases hx0 : x.f0 = 0
 ·obtain ⟨a1, a2⟩ := hf hx0
  obtain ⟨f0, f1⟩ := x
  have hx0' : f0 = 0 := hx0
  subst hx0'
  have a1' : 0 ≤ f1 := a1
  obtain ⟨i, rfl⟩ : ∃ i : Nat, f1 = (i : Int) := ⟨f1.toNat, by omega⟩
  have hi : i < out.length := by simpa using a2
  simp only [if_true]
  have hsz := hM out[i] (List.getElem_mem hi)
  have hnb : Byt (norm false (bytesOf out[i])) := norm_byt _ _ (Byt.of _)
  rw [if_pos (by omega), if_pos (by omega), rd_in out hi, one_f _ (by omega) (by omega), Option.bind_some]
  have hst : stepR s ⟨0, (i : Int)⟩ = s.txt i := by unfold stepR; simp
  have hct : s.ct i = cut1 (s.bits.pt.getD true && !s.keep) (norm false (bytesOf out[i])) := by
   unfold SR.ct Bt.ct
   rw [hr.st i hi]
   rfl
  have hcb : Byt (s.ct i) := by rw [hct]; exact cut1_byt hnb
  have hcl : (s.ct i).length ≤ M := by
   rw [hct]
   have h1 := cut1_len (s.bits.pt.getD true && !s.keep) (norm false (bytesOf out[i]))
   have h2 := norm_len (bytesOf out[i]) false
   rw [bytesOf_length] at h2
   omega
  have hj1 : ∀ ah : Bool, ah = s.bits.pt.getD true → spec_collapsed.j1 (k + 2) (ptI s) s.keep out (strOfNums (norm false (bytesOf out[i]))) ah l (l.length : Int) (j : Int) 0 (i : Int) = spec_collapsed.l0 k (ptI (s.txt i)) (s.txt i).keep (out.set i (strOfNums (s.ct i))) l (l.length : Int) ((j + 1 : Nat) : Int) := by
   intro ah hah
   rw [j1_eq, bytes_str hnb, j2_eq _ _ _ _ _ _ _ _ _ _ _ hi (by
    intro h
    rw [str_size]
    rw [Bool.and_eq_true] at h
    cases hz : norm false (bytesOf out[i]) with
    | nil => rw [hz] at h; simp at h
    | cons c l => simp), bytes_str hnb, hw]
   have hc2 : (if (ah && !s.keep && (norm false (bytesOf out[i])).head? == some 32) = true then (norm false (bytesOf out[i])).tail else norm false (bytesOf out[i])) = s.ct i := by rw [hct, hah]; rfl
   rw [hc2]
   unfold SR.txt
   by_cases he : (s.ct i).isEmpty = true
   ·rw [if_pos he, if_pos he]
    rfl
   ·rw [if_neg he, if_neg he]
    rfl
  refine ⟨k, out.set i (strOfNums (s.ct i)), by omega, ?_, ?_, List.length_set, set_M hM (by rw [str_size]; exact hcl)⟩
  ·rw [hst]
   cases hp : s.pt with
   | none =>
    rw [ptI_none hp, if_pos (by decide), ← ptI_none hp]
    exact hj1 true (by unfold SR.bits; rw [hp]; rfl)
   | some p =>
    have hpl := hr.pt p hp
    have hbit : s.bits.pt.getD true = ((bytesOf out[p]).getLast? == some 32) := by unfold SR.bits; rw [hp, ← hr.st p hpl]; rfl
    have hsp := hM out[p] (List.getElem_mem hpl)
    rw [ptI_some hp, if_neg (by omega), if_pos (by omega), if_pos (by omega), rd_in out hpl, ← ptI_some hp]
    by_cases hz : 0 < out[p].size
    ·have hw2 : wrap64 ((out[p].size : Int) - 1) = ((out[p].size - 1 : Nat) : Int) := by rw [wrap_id (by omega) (by omega)]; omega
     have hl : out[p].size - 1 < (bytesOf out[p]).length := by rw [bytesOf_length]; omega
     rw [if_pos (by omega), hw2, if_pos (by omega), if_pos (by omega)]
     refine hj1 _ ?_
     rw [hbit, bt_get hl, last_get _ (by omega)]
     simp [bytesOf_length]
    ·have : bytesOf out[p] = [] := List.eq_nil_of_length_eq_zero (by rw [bytesOf_length]; omega)
     rw [if_neg (by omega)]
     exact hj1 false (by rw [hbit, this]; rfl)
  ·rw [hst]
   unfold SR.txt
   by_cases he : (s.ct i).isEmpty = true
   ·have hz : s.ct i = [] := by simpa using he
    rw [if_pos he, hz]
    exact set_rel hr Byt.nil _ _ hr.pt
   ·rw [if_neg he]
    exact set_rel hr hcb _ _ (fun p e => by cases e; exact hi)
 ·rw [if_neg hx0]
  have hst : stepR s x = s.ent x.f0.toNat := by unfold stepR; rw [if_neg hx0]
  rw [hst]
  rcases h0 with e | e | e | e
  ·exact absurd e hx0
  ·rw [e, if_pos rfl]
   have hen : s.ent (1 : Int).toNat = ⟨s.cutP, none, false⟩ := rfl
   rw [hen]
   cases hp : s.pt with
   | none =>
    rw [ptI_none hp, if_neg (by decide), hw]
    have : s.cutP = s.st := by unfold SR.cutP; rw [hp]
    rw [this]
    exact ⟨k + 2, out, by omega, rfl, ⟨hr.st, fun p e => by cases e⟩, rfl, hM⟩
   | some p =>
    have hpl := hr.pt p hp
    have hsp := hM out[p] (List.getElem_mem hpl)
    have : s.cutP = upd s.st p (trimB (bytesOf out[p])) := by unfold SR.cutP; rw [hp, ← hr.st p hpl]
    rw [ptI_some hp, if_pos (by omega), if_pos (by omega), if_pos (by omega), rd_in out hpl, cut_f _ (by omega), Option.bind_some, hw, this, Int.toNat_natCast]
    refine ⟨k + 2, _, by omega, rfl, set_rel hr (trimB_byt (Byt.of _)) _ _ (fun p e => by cases e), List.length_set, set_M hM ?_⟩
    rw [str_size]
    have := trimB_len (bytesOf out[p])
    rw [bytesOf_length] at this
    omega
  ·rw [e, if_neg (by decide), if_pos rfl, hw]
   exact ⟨k + 2, out, by omega, rfl, ⟨hr.st, fun p e => by cases e⟩, rfl, hM⟩
  ·rw [e, if_neg (by decide), if_neg (by decide), hw]
   have hen : s.ent (3 : Int).toNat = if s.pt.isSome = true then ⟨s.st, s.pt, false⟩ else s := rfl
   rw [hen]
   cases hp : s.pt with
   | none =>
    rw [ptI_none hp, if_neg (by decide), if_neg (by simp), ← ptI_none hp]
    exact ⟨k + 2, out, by omega, rfl, hr, rfl, hM⟩
   | some p =>
    rw [ptI_some hp, if_pos (by omega), if_pos (by simp)]
    exact ⟨k + 2, out, by omega, rfl, ⟨hr.st, fun q e => hr.pt q (hp.trans e)⟩, rfl, hM⟩
theorem loop_all (l : List Stp) (M N : Nat) (hMb : M ≤ 1073741824) (hlen : l.length ≤ 1099511627776) (hf : ∀ x ∈ l, x.f0 = 0 → 0 ≤ x.f1 ∧ x.f1.toNat < N) (h0 : ∀ x ∈ l, x.f0 = 0 ∨ x.f0 = 1 ∨ x.f0 = 2 ∨ x.f0 = 3) : ∀ (n j k : Nat) (s : SR) (out : List ByteArray), l.length - j ≤ n → j ≤ l.length → M + 5 + 3 * n ≤ k → RelS s out → (∀ y ∈ out, y.size ≤ M) → out.length = N →
  ∃ r : List ByteArray, spec_collapsed.l0 k (ptI s) s.keep out l (l.length : Int) (j : Int) = some r ∧ r.length = N ∧ (∀ y ∈ r, y.size ≤ M) ∧ ∀ i (h : i < r.length), ((l.drop j).foldl stepR s).cutP i = bytesOf r[i] := by
 intro n
 have hend : ∀ (j k : Nat) (s : SR) (out : List ByteArray), ¬ j < l.length → j ≤ l.length → M + 5 ≤ k → RelS s out → (∀ y ∈ out, y.size ≤ M) → out.length = N → ∃ r : List ByteArray, spec_collapsed.l0 k (ptI s) s.keep out l (l.length : Int) (j : Int) = some r ∧ r.length = N ∧ (∀ y ∈ r, y.size ≤ M) ∧ ∀ i (h : i < r.length), ((l.drop j).foldl stepR s).cutP i = bytesOf r[i] := by
  intro j k s out hj hj2 hk hr hM hN
  obtain ⟨k, rfl⟩ : ∃ k', k = k' + 1 := ⟨k - 1, by omega⟩
  rw [spec_collapsed.l0, if_neg (by omega), List.drop_of_length_le (by omega), List.foldl_nil]
  cases hp : s.pt with
  | none =>
   rw [ptI_none hp, if_neg (by decide)]
   have : s.cutP = s.st := by unfold SR.cutP; rw [hp]
   rw [this]
   exact ⟨out, rfl, hN, hM, hr.st⟩
  | some p =>
   have hpl := hr.pt p hp
   have hsp := hM out[p] (List.getElem_mem hpl)
   have : s.cutP = upd s.st p (trimB (bytesOf out[p])) := by unfold SR.cutP; rw [hp, ← hr.st p hpl]
   rw [ptI_some hp, if_pos (by omega), if_pos (by omega), if_pos (by omega), rd_in out hpl, cut_f _ (by omega), Option.bind_some, this, Int.toNat_natCast]
   refine ⟨_, rfl, by rw [List.length_set]; exact hN, set_M hM ?_, (set_rel hr (trimB_byt (Byt.of _)) none false (fun p e => by cases e)).st⟩
   rw [str_size]
   have := trimB_len (bytesOf out[p])
   rw [bytesOf_length] at this
   omega
 induction n with
 | zero => intro j k s out h1 h2 h3 hr hM hN; exact hend j k s out (by omega) h2 (by omega) hr hM hN
 | succ n ih =>
  intro j k s out h1 h2 h3 hr hM hN
  by_cases hj : j < l.length
  ·obtain ⟨k', out', hk', e, hr', hl', hM'⟩ := step_one l M k j s out hr hM hMb hj hlen (fun e => by rw [hN]; exact hf _ (List.getElem_mem hj) e) (h0 _ (List.getElem_mem hj)) (by omega)
   rw [e, List.drop_eq_getElem_cons hj, List.foldl_cons]
   exact ih (j + 1) k' _ out' (by omega) (by omega) (by omega) hr' hM' (hl'.trans hN)
  ·exact hend j k s out hj h2 (by omega) hr hM hN
/-- The store of the texts. -/
def sto (l : List ByteArray) (i : Nat) : List Int := bytesOf (l.getD i ⟨#[]⟩)
theorem sto_at (l : List ByteArray) {i : Nat} (h : i < l.length) : sto l i = bytesOf l[i] := by
 unfold sto
 rw [List.getD_eq_getElem?_getD, List.getElem?_eq_getElem h]
 rfl
theorem sto_byt (l : List ByteArray) (i : Nat) : Byt (sto l i) := Byt.of _
theorem sto_holds (l : List ByteArray) : Holds (sto l) 0 l := fun i h => by rw [Nat.zero_add, sto_at l h, str_bytes]
theorem collapsed_f (l : List Stp) (tx : List ByteArray) (M : Nat) (hM : ∀ y ∈ tx, y.size ≤ M) (hMb : M ≤ 1073741824) (hlen : l.length ≤ 1099511627776) (htl : tx.length ≤ 1099511627776) (hf : ∀ x ∈ l, x.f0 = 0 → 0 ≤ x.f1 ∧ x.f1.toNat < tx.length) (h0 : ∀ x ∈ l, x.f0 = 0 ∨ x.f0 = 1 ∨ x.f0 = 2 ∨ x.f0 = 3) :
  ∃ (k : Nat) (r : List ByteArray), spec_collapsed.f k l tx = some r ∧ r.length = tx.length ∧ (∀ y ∈ r, y.size ≤ M) ∧ ∀ i (h : i < r.length), (l.foldl stepR ⟨sto tx, none, false⟩).cutP i = bytesOf r[i] := by
 obtain ⟨r, e, h1, h2, h3⟩ := loop_all l M tx.length hMb hlen hf h0 l.length 0 (M + 5 + 3 * l.length) ⟨sto tx, none, false⟩ tx (by omega) (by omega) (by omega) ⟨fun i h => sto_at tx h, fun p e => by cases e⟩ hM rfl
 refine ⟨M + 5 + 3 * l.length, r, ?_, h1, h2, h3⟩
 unfold spec_collapsed.f
 rw [Option.bind_some, if_pos (by simp; omega), List.nil_append]
 exact e
end Go.Proofs.Ytmfjbljdbkmkgaa.Dom

/- A tree's white space collapsed, and the reference's: the same, empty texts aside. Plain facts. -/
namespace Go.Proofs.Ytmfjbljdbkmkgaa.Dom
open Go.RowKit Go.Proofs.YtmfjbljdbkmkgaaW.PrintWords Go.Proofs.YtmfjbljdbkmkgaaW.PrintLast Go.Proofs.YtmfjbljdbkmkgaaW.PrintMore Go.Proofs.Ytmfjbljdbkmkgaa.PDom Go.Proofs.Ytmfjbljdbkmkgaa.Txt Go.Proofs.Ytmfjbljdbkmkgaa.Blank
set_option linter.unusedVariables false
set_option linter.unusedSimpArgs false

theorem full_cons (k : T) (l : List T) : fullTL (k :: l) = fullTL [k] ++ fullTL l := by
 rw [show k :: l = [k] ++ l from rfl, fullTL_append]
theorem drop_cons {r : List ByteArray} {m : Nat} (h : m < r.length) : (r.drop m).getD 0 ⟨#[]⟩ = r[m] ∧ (r.drop m).drop 1 = r.drop (m + 1) := by
 rw [List.drop_eq_getElem_cons h]
 exact ⟨rfl, rfl⟩
theorem full_text (x : ByteArray) : fullTL (if x.toList = [] then [] else [⟨1, ⟨#[]⟩, x, [], []⟩]) = fullTL [⟨1, ⟨#[]⟩, x, [], []⟩] := by
 by_cases h : x.toList = []
 ·rw [if_pos h, full_skip (by unfold emptyTx; simp [h])]
 ·rw [if_neg h]
theorem refill (S : Srt) (r : List ByteArray) (τ : Nat → List Int) (hτ : ∀ i (h : i < r.length), r[i] = strOfNums (τ i)) (t : T) : okT t = true → naT t = true → ∀ m, m + (txs S t).length ≤ r.length → t.f0 = 0 → inL S.pr t.f1 = false →
  (rfT S (r.drop m) t).2 = r.drop (m + (txs S t).length) ∧ fullT (rfT S (r.drop m) t).1 = fullT ((lab S m t).dat S τ).toT := by
 induction t using T_induct with
 | h t ih =>
  intro hok hna m hm h0 hp
  obtain ⟨h1, _, _, h4⟩ := okT_open hok
  obtain ⟨n3, n4⟩ := naT_open hna
  obtain ⟨k, n, x, as_, ks⟩ := t
  have n3' : as_ = [] := n3
  have h0' : k = 0 := h0
  have hp' : inL S.pr n = false := hp
  subst n3' h0'
  have hx : x = ⟨#[]⟩ := by
   rcases h1 with ⟨e, _⟩ | ⟨_, e, _⟩ | ⟨_, e1⟩
   ·rcases e with e | e
    ·cases e
    ·cases e
   ·cases e
   ·exact e1
  subst hx
  have hL : ∀ (l : List T), (∀ y ∈ l, y ∈ ks) → ∀ m, m + (txsL S l).length ≤ r.length → (rfTL S (r.drop m) l).2 = r.drop (m + (txsL S l).length) ∧ fullTL (rfTL S (r.drop m) l).1 = fullTL (RT.toTL (RT.datL S τ (labL S m l))) := by
   intro l
   induction l with
   | nil => intro _ m _; exact ⟨rfl, rfl⟩
   | cons y l ih2 =>
    intro hmem m hm
    have hyk := hmem y (by simp)
    have oy := h4 y hyk
    have ny := n4 y hyk
    have ihl := ih2 (fun z hz => hmem z (by simp [hz]))
    have ihy := ih y hyk oy ny
    obtain ⟨g1, _, _, g4⟩ := okT_open oy
    obtain ⟨q3, _⟩ := naT_open ny
    rw [txsL, List.length_append] at hm
    rw [txsL, List.length_append, labL, RT.datL, RT.toTL, full_cons (RT.toT _), ← Nat.add_assoc]
    obtain ⟨yk, yn, yx, ya, yks⟩ := y
    have q3' : ya = [] := q3
    subst q3'
    rcases g1 with ⟨e, e1, _, e4⟩ | ⟨_, e, _⟩ | ⟨e, e1⟩
    ·have e1' : yn = ⟨#[]⟩ := e1
     have e4' : yks = [] := e4
     subst e1' e4'
     rcases e with e | e
     ·have e' : yk = 1 := e
      subst e'
      have ht : txs S ⟨1, ⟨#[]⟩, yx, [], []⟩ = [yx] := by rw [txs, if_pos rfl]
      rw [ht] at hm ⊢
      have hm1 : m < r.length := by
       simp only [List.length_singleton] at hm
       omega
      obtain ⟨d1, d2⟩ := drop_cons hm1
      have hl := ihl (m + 1) (by simp only [List.length_singleton] at hm; omega)
      rw [rfTL, if_pos rfl, d1, d2]
      refine ⟨hl.1, ?_⟩
      rw [fullTL_append, hl.2, full_text, lab, if_pos rfl, RT.dat, if_pos rfl, RT.toT, if_neg (by decide), if_pos rfl, hτ m hm1]
      rfl
     ·have e' : yk = 2 := e
      subst e'
      have ht : txs S ⟨2, ⟨#[]⟩, yx, [], []⟩ = [] := by rw [txs, if_neg (by decide), if_neg (by decide)]
      rw [ht] at hm ⊢
      have hl := ihl m (by simpa using hm)
      rw [rfTL, if_neg (by simp), if_pos (.inl rfl)]
      refine ⟨hl.1, ?_⟩
      rw [full_cons, hl.2, lab, if_neg (by decide), if_neg (by decide), RT.dat, if_neg (by decide), if_neg (by simp)]
      rfl
    ·cases e
    ·have e' : yk = 0 := e
     have e1' : yx = ⟨#[]⟩ := e1
     subst e' e1'
     cases hyp : inL S.pr yn with
     | true =>
      have ht : txs S ⟨0, yn, ⟨#[]⟩, [], yks⟩ = [] := by rw [txs, if_neg (by decide), if_pos rfl, if_pos hyp]
      rw [ht] at hm ⊢
      have hl := ihl m (by simpa using hm)
      rw [rfTL, if_neg (by simp), if_pos (.inr ⟨rfl, hyp⟩)]
      refine ⟨hl.1, ?_⟩
      rw [full_cons, hl.2, lab, if_neg (by decide), if_pos rfl, if_pos hyp, RT.dat, if_neg (by decide), hyp, if_neg (by simp), toT_elem, ofTL_toT yks (fun z hz => ⟨g4 z hz, (naT_open ny).2 z hz⟩)]
      rfl
     | false =>
      obtain ⟨b1, b2⟩ := ihy m (by omega) rfl hyp
      have hl := ihl (m + (txs S ⟨0, yn, ⟨#[]⟩, [], yks⟩).length) (by omega)
      rw [rfTL, if_neg (by simp), if_neg (by simp [hyp]), if_pos rfl, b1]
      refine ⟨hl.1, ?_⟩
      have hone : ∀ z : T, z.f0 = 0 → fullTL [z] = [fullT z] := fun z hz => by
       rw [fullTL, if_neg (by unfold emptyTx; simp [hz]), fullTL]
      rw [full_cons, hl.2, hone _ (by rw [rfT]), b2, hone]
      rw [lab, if_neg (by decide), if_pos rfl, if_neg (by simp [hyp]), RT.dat, if_neg (by decide), hyp, if_pos (by simp), toT_elem]
  have ht : txs S ⟨0, n, ⟨#[]⟩, [], ks⟩ = txsL S ks := by rw [txs, if_neg (by decide), if_pos rfl, if_neg (by simp [hp'])]
  rw [ht] at hm ⊢
  obtain ⟨b1, b2⟩ := hL ks (fun y hy => hy) m hm
  rw [rfT]
  refine ⟨b1, ?_⟩
  rw [lab, if_neg (by decide), if_pos rfl, if_neg (by simp [hp']), RT.dat, if_neg (by decide), hp', if_pos (by simp), toT_elem, fullT, fullT, b2]
  rfl
theorem cutP_gone {s : SR} {b : Nat} (h : s.st b = []) (hp : s.pt ≠ some b) : s.cutP b = [] := by
 unfold SR.cutP
 cases e : s.pt with
 | none => exact h
 | some p => exact (upd_other _ _ (fun e2 => hp (by rw [e, e2]))).trans h
/-- What collapse does and what the reference does. -/
theorem col_refill (S : Srt) (hk : ∀ n, kindS S n = S.kind n) (t : T) (hok : okT t = true) (hna : naT t = true) (h0 : t.f0 = 0) (hp : inL S.pr t.f1 = false) (r : List ByteArray) (hrl : r.length = (txsL S t.f4).length)
  (hr : ∀ i (h : i < r.length), ((stpL S 0 t.f4).foldl stepR ⟨sto (txsL S t.f4), none, false⟩).cutP i = bytesOf r[i]) : fullT (rfT S r t).1 = fullT (colT S t) := by
 obtain ⟨h1, _, _, h4⟩ := okT_open hok
 obtain ⟨n3, n4⟩ := naT_open hna
 have htx : txs S t = txsL S t.f4 := by
  obtain ⟨k, n, x, as_, ks⟩ := t
  have h0' : k = 0 := h0
  have hp' : inL S.pr n = false := hp
  rw [txs, h0', if_neg (by decide), if_pos rfl, if_neg (by simp [hp'])]
 have hrun := labL_run S hk t.f4 h4 0 ⟨sto (txsL S t.f4), none, false⟩
 obtain ⟨s', L', e⟩ : ∃ s' L', runL S ⟨sto (txsL S t.f4), none, false⟩ (labL S 0 t.f4) = (s', L') := ⟨_, _, rfl⟩
 have hs' : s' = (stpL S 0 t.f4).foldl stepR ⟨sto (txsL S t.f4), none, false⟩ := by rw [← hrun, e]
 rw [← hs'] at hr
 have hnd : (RT.tidL S (labL S 0 t.f4)).Nodup := by rw [labL_tid]; exact List.nodup_range'
 have hall := labL_all S t.f4 0
 obtain ⟨r1, r2, r3, r4⟩ := run_end S _ hall _ (sto_byt _) hnd s' L' e
 rw [labL_dat S _ t.f4 (fun y hy => ⟨h4 y hy, n4 y hy⟩) 0 (sto_holds _)] at r4
 have hgone := list_gone S _ hall ⟨sto (txsL S t.f4), none, false⟩ (sto_byt _) hnd (fun p e => by cases e)
 have hfull := runL_full S s'.cutP (labL S 0 t.f4) ⟨sto (txsL S t.f4), none, false⟩ (fun b hb hn => by
  obtain ⟨g1, g2⟩ := hgone b hb hn
  rw [e] at g1 g2
  exact cutP_gone g1 g2) hnd
 rw [e] at hfull
 have hrm := rmL_full S (fun b => decide (s'.pt = some b ∧ trimB (s'.st b) = [])) s'.cutP L' (fun b _ hq => by
  have hq' : s'.pt = some b ∧ trimB (s'.st b) = [] := by simpa using hq
  unfold SR.cutP
  rw [hq'.1]
  exact (upd_same _ _ _).trans hq'.2)
 obtain ⟨b1, b2⟩ := refill S r s'.cutP (fun i h => by rw [hr i h, str_bytes]) t hok hna 0 (by rw [htx, hrl]; omega) h0 hp
 rw [List.drop_zero] at b2
 rw [b2]
 obtain ⟨k, n, x, as_, ks⟩ := t
 have n3' : as_ = [] := n3
 have h0' : k = 0 := h0
 have hp' : inL S.pr n = false := hp
 subst n3' h0'
 have hx : x = ⟨#[]⟩ := by
  rcases h1 with ⟨e, _⟩ | ⟨_, e, _⟩ | ⟨_, e1⟩
  ·rcases e with e | e
   ·cases e
   ·cases e
  ·cases e
  ·exact e1
 subst hx
 rw [colT, if_neg (by simp [hp']), lab, if_neg (by decide), if_pos rfl, if_neg (by simp [hp']), RT.dat, if_neg (by decide), hp', if_pos (by simp), toT_elem, fullT, fullT, r4, hrm, hfull]
 rfl
end Go.Proofs.Ytmfjbljdbkmkgaa.Dom

/- spec.steps: what its rows are like as they grow. -/
namespace Go.Proofs.Ytmfjbljdbkmkgaa.Dom
open Go.RowKit Go.Proofs.YtmfjbljdbkmkgaaW.PrintWords Go.Proofs.YtmfjbljdbkmkgaaW.PrintLast Go.Proofs.YtmfjbljdbkmkgaaW.PrintMore Go.Proofs.Ytmfjbljdbkmkgaa.PDom Go.Proofs.Ytmfjbljdbkmkgaa.Txt Go.Proofs.Ytmfjbljdbkmkgaa.Blank
set_option linter.unusedVariables false
set_option linter.unusedSimpArgs false

theorem info100 : (Try.prog.info? 100).map (fun i => (i.zero, i.size, i.bytes)) = some (some (.agg #[.int .i64 0, .int .i64 0]), 2, 16) := by kernel_rfl
theorem infoStr : (Try.prog.info? 9).map (fun i => (i.zero, i.size, i.bytes)) = some (some (.string ⟨#[]⟩), 1, 16) := by kernel_rfl
/-- Two rows that grow: steps and texts. -/
structure Ste (c0 : Nat) (W wr : World) (u2 u3 v2 v3 : Value) (L2 : List Stp) (L3 : List ByteArray) : Prop where
 r2 : Kd.R k100 100 wr c0 (fun _ => True) v2 L2
 r3 : Kd.R Kd.string 9 wr c0 (fun _ => True) v3 L3
 base : c0 ≤ W.heap.size
 size : W.heap.size ≤ wr.heap.size
 keep : ∀ k, k < W.heap.size → some k ≠ u2.ownBlock → some k ≠ u3.ownBlock → wr.heap[k]? = W.heap[k]?
 at2 : v2.ownBlock = u2.ownBlock ∨ ∃ b, v2.ownBlock = some b ∧ W.heap.size ≤ b
 at3 : v3.ownBlock = u3.ownBlock ∨ ∃ b, v3.ownBlock = some b ∧ W.heap.size ≤ b
 io : wr.os = W.os ∧ wr.tape = W.tape ∧ wr.output = W.output
section
variable {c0 : Nat} {W wr w1 w2 : World} {u2 u3 v2 v3 t2 t3 : Value} {L2 M2 : List Stp} {L3 M3 : List ByteArray}
theorem Ste.refl (h2 : Kd.R k100 100 W c0 (fun _ => True) v2 L2) (h3 : Kd.R Kd.string 9 W c0 (fun _ => True) v3 L3) (hb : c0 ≤ W.heap.size) : Ste c0 W W v2 v3 v2 v3 L2 L3 :=
 ⟨h2, h3, hb, Nat.le_refl _, fun _ _ _ _ => rfl, .inl rfl, .inl rfl, rfl, rfl, rfl⟩
theorem Ste.below (h : Ste c0 W wr u2 u3 v2 v3 L2 L3) (hb : Below wr.heap.size wr w1) : Ste c0 W w1 u2 u3 v2 v3 L2 L3 :=
 ⟨Kd.R_below h.r2 hb, Kd.R_below h.r3 hb, h.base, Nat.le_trans h.size hb.size, fun k hk a b => (hb.block k (Nat.lt_of_lt_of_le hk h.size)).trans (h.keep k hk a b), h.at2, h.at3, hb.os.trans h.io.1, hb.tape.trans h.io.2.1, hb.output.trans h.io.2.2⟩
theorem own_at {W : World} {v u : Value} (h : v.ownBlock = u.ownBlock ∨ ∃ b, v.ownBlock = some b ∧ W.heap.size ≤ b) {k : Nat} (hk : k < W.heap.size) (hu : some k ≠ u.ownBlock) : some k ≠ v.ownBlock := by
 rcases h with h | ⟨b, e, hb⟩
 ·rw [h]; exact hu
 ·rw [e]
  intro e2
  have := Option.some.inj e2
  omega
theorem Ste.trans (h : Ste c0 W wr u2 u3 v2 v3 L2 L3) (g : Ste c0 wr w2 v2 v3 t2 t3 M2 M3) : Ste c0 W w2 u2 u3 t2 t3 M2 M3 := by
 refine ⟨g.r2, g.r3, h.base, Nat.le_trans h.size g.size, fun k hk a b => (g.keep k (Nat.lt_of_lt_of_le hk h.size) (own_at h.at2 hk a) (own_at h.at3 hk b)).trans (h.keep k hk a b), ?_, ?_, g.io.1.trans h.io.1, g.io.2.1.trans h.io.2.1, g.io.2.2.trans h.io.2.2⟩
 ·rcases g.at2 with e | ⟨b, e, hb⟩
  ·rw [e]; exact h.at2
  ·exact .inr ⟨b, e, Nat.le_trans h.size hb⟩
 ·rcases g.at3 with e | ⟨b, e, hb⟩
  ·rw [e]; exact h.at3
  ·exact .inr ⟨b, e, Nat.le_trans h.size hb⟩
theorem Ste.grow2 (h : Ste c0 W wr u2 u3 v2 v3 L2 L3) (hr : Kd.R k100 100 w1 c0 (fun _ => True) t2 M2) (hg : wr.grownBy w1 v2.ownBlock) (hat : t2.ownBlock = v2.ownBlock ∨ ∃ b, t2.ownBlock = some b ∧ wr.heap.size ≤ b) : Ste c0 W w1 u2 u3 t2 v3 M2 L3 :=
 h.trans ⟨hr, Kd.R_over' h.r3 (Kd.R_typed h.r2) (by decide) hg, Nat.le_trans h.base h.size, hg.size, fun k hk a _ => hg.block k hk a, hat, .inl rfl, hg.os, hg.tape, hg.output⟩
theorem Ste.grow3 (h : Ste c0 W wr u2 u3 v2 v3 L2 L3) (hr : Kd.R Kd.string 9 w1 c0 (fun _ => True) t3 M3) (hg : wr.grownBy w1 v3.ownBlock) (hat : t3.ownBlock = v3.ownBlock ∨ ∃ b, t3.ownBlock = some b ∧ wr.heap.size ≤ b) : Ste c0 W w1 u2 u3 v2 t3 L2 M3 :=
 h.trans ⟨Kd.R_over' h.r2 (Kd.R_typed h.r3) (by decide) hg, hr, Nat.le_trans h.base h.size, hg.size, fun k hk _ b => hg.block k hk b, .inl rfl, hat, hg.os, hg.tape, hg.output⟩
end
section
variable {c0 : Nat} {W0 W : World} {u2 u3 v2 v3 : Value} {L2 : List Stp} {L3 : List ByteArray} {ops : Array Oper} {o : Oper} {a : Act} {Q : Exit → Act → World → Prop} {K : Act → World → Prop} {E : Prop} {rest : List Oper}
theorem ste_step2 (hgd : o.guard = none) (s x : Operand) (X : Stp) (cs : List Value) (HS : Ste c0 W0 W u2 u3 v2 v3 L2 L3) (hcs : cs = [.int .i64 X.f0, .int .i64 X.f1]) (ho : o.op = .call { callee := .builtin .append, args := #[s, x], argTypes := #[65, 65] })
  (hs : a.eval s = v2) (hx : a.eval x = .slice (some ⟨W.heap.size, 0, none⟩) 1 1) (hl : L2.length ≤ 8000000) (h : ∀ v1 w1, Ste c0 W0 w1 u2 u3 v1 v3 (L2 ++ [X]) L3 → K (a.put o.dst v1) w1) :
  if Region.wanted o (yielded ops a.tmps) = true then Oper.wp Try.prog o a (W.alloc (.cells cs.toArray 100)) K Q else E := by
 have hw : Region.wanted o (yielded ops a.tmps) = true := by simp [Region.wanted, hgd]
 subst hcs
 have := Kd.R_append_step (P := Try.prog) (ops := ops) (o := o) (a := a) (Q := Q) (Kc := K) k100 (w0 := W) c0 hw s x 65 100 _ 16 ho Try.underlying65 info100 rfl (by decide) (by decide) v2 L2 X _ (fun _ => True) (fun _ => False) hs hx (k100_mkM W c0 _ X) (fun _ h => h.elim) (fun _ _ => trivial) HS.r2 (Below.refl _ _) (Nat.le_trans HS.base HS.size) (by omega) (fun v1 w1 hr _ hg hat => h v1 w1 (HS.grow2 hr hg hat))
 rw [if_pos hw] at this ⊢
 exact this
theorem ste_app2 (hgd : o.guard = none) (s x : Operand) (X : Stp) (cs : List Value) (HS : Ste c0 W0 W u2 u3 v2 v3 L2 L3) (hcs : cs = [.int .i64 X.f0, .int .i64 X.f1]) (ho : o.op = .call { callee := .builtin .append, args := #[s, x], argTypes := #[65, 65] })
  (hs : a.eval s = v2) (hx : a.eval x = .slice (some ⟨W.heap.size, 0, none⟩) 1 1) (hl : L2.length ≤ 8000000) (h : ∀ v1 w1, Ste c0 W0 w1 u2 u3 v1 v3 (L2 ++ [X]) L3 → wpList Try.prog ops Q rest (a.put o.dst v1) w1) :
  wpList Try.prog ops Q (o :: rest) a (W.alloc (.cells cs.toArray 100)) := by
 subst hcs
 exact Kd.R_append (P := Try.prog) (ops := ops) (o := o) (a := a) (Q := Q) (rest := rest) k100 (w0 := W) c0 hgd s x 65 100 _ 16 ho Try.underlying65 info100 rfl (by decide) (by decide) v2 L2 X _ (fun _ => True) (fun _ => False) hs hx (k100_mkM W c0 _ X) (fun _ h => h.elim) (fun _ _ => trivial) HS.r2 (Below.refl _ _) (Nat.le_trans HS.base HS.size) (by omega) (fun v1 w1 hr _ hg hat => h v1 w1 (HS.grow2 hr hg hat))
end
theorem inL_named (l : List ByteArray) (s : ByteArray) : (l.any fun x => x.toList == s.toList) = inL l s := by
 unfold inL
 induction l with
 | nil => rfl
 | cons y l ih =>
  rw [List.any_cons, List.any_cons, ih]
  congr 1
  exact Bool.eq_iff_iff.2 ⟨fun h => beq_iff_eq.2 (eq_of_beq h).symm, fun h => beq_iff_eq.2 (eq_of_beq h).symm⟩
theorem names_calls (l : List ByteArray) (hl : l.length ≤ 4611686018427387904) (n : ByteArray) (A : Option Addr) (c : Nat) (hc : l.length ≤ c) (w : World) (h : Kd.C Kd.string w A l.length l) :
  Calls Try.prog 37 #[.slice A l.length c, .string n] w fun e w' => e = .returned (.bool (inL l n)) ∧ Below w.heap.size w w' := by
 refine (spec_Named.calls (l.length + 1) A c l n (inL l n) w h hc (by rw [← inL_named]; exact named_f l hl n _ (by omega))).mono ?_
 rintro e w' ⟨rfl, hd⟩
 exact ⟨rfl, hd.below⟩
theorem cTL_append (a b : List T) : countTL (a ++ b) = countTL a + countTL b := by
 induction a with
 | nil => simp [countTL]
 | cons y a ih => rw [List.cons_append, countTL, countTL, ih]; omega
theorem cTL_at (l : List T) {j : Nat} (h : j < l.length) : countTL (l.take j) + countT l[j] ≤ countTL l := by
 have e : l = l.take (j + 1) ++ l.drop (j + 1) := (List.take_append_drop _ _).symm
 have e2 : countTL l = countTL (l.take (j + 1)) + countTL (l.drop (j + 1)) := by rw [← cTL_append, List.take_append_drop]
 rw [List.take_succ_eq_append_getElem h, cTL_append] at e2
 simp only [countTL] at e2
 omega
end Go.Proofs.Ytmfjbljdbkmkgaa.Dom

/- spec.steps: its contract. -/
namespace Go.Proofs.Ytmfjbljdbkmkgaa.Dom
open Go.RowKit Go.Proofs.YtmfjbljdbkmkgaaW.PrintWords Go.Proofs.YtmfjbljdbkmkgaaW.PrintLast Go.Proofs.YtmfjbljdbkmkgaaW.PrintMore Go.Proofs.Ytmfjbljdbkmkgaa.PDom Go.Proofs.Ytmfjbljdbkmkgaa.Txt Go.Proofs.Ytmfjbljdbkmkgaa.Blank
set_option linter.unusedVariables false
set_option linter.unusedSimpArgs false

theorem two_boxes (w : World) (o0 o1 : Obj) : ((w.alloc o0).alloc o1).heap.size = w.heap.size + 2 ∧ Below w.heap.size w ((w.alloc o0).alloc o1) ∧ ((w.alloc o0).alloc o1).heap[w.heap.size]? = some o0 ∧ ((w.alloc o0).alloc o1).heap[w.heap.size + 1]? = some o1 := by
 have e : ((w.alloc o0).alloc o1).heap = (w.heap.push o0).push o1 := rfl
 refine ⟨by rw [e]; simp, below_alloc (below_alloc (Below.refl _ _) _) _, ?_, ?_⟩ <;> rw [e] <;> simp only [Array.getElem?_push, Array.size_push] <;> repeat (first | rfl | rw [if_pos trivial] | rw [if_pos (by omega)] | rw [if_neg (by omega)])
/-- What all rounds have. -/
structure SteW (S : Srt) (w W : World) (P : Nat → Prop) (u2 u3 : Value) (B1 B2 B3 : Option Addr) (d1 d2 d3 : Nat) (A4 : Option Addr) (f4 : List T) : Prop where
 size : W.heap.size = w.heap.size + 2
 out : ∀ k, P k → k < w.heap.size ∧ some k ≠ u2.ownBlock ∧ some k ≠ u3.ownBlock
 b1 : Kd.F Kd.string W P B1 S.bk.length S.bk
 b2 : Kd.F Kd.string W P B2 S.vd.length S.vd
 b3 : Kd.F Kd.string W P B3 S.pr.length S.pr
 l1 : S.bk.length ≤ d1 ∧ S.bk.length ≤ 4611686018427387904
 l2 : S.vd.length ≤ d2 ∧ S.vd.length ≤ 4611686018427387904
 l3 : S.pr.length ≤ d3 ∧ S.pr.length ≤ 4611686018427387904
 kd : Kd.F k25 W P A4 f4.length f4
 box : W.heap[w.heap.size + 1]? = some (.cells #[.slice B1 S.bk.length d1, .slice B2 S.vd.length d2, .slice B3 S.pr.length d3] 37 (0, 0))
 on : Below w.heap.size w W
 lt2 : ∀ k, u2.ownBlock = some k → k < w.heap.size
 lt3 : ∀ k, u3.ownBlock = some k → k < w.heap.size
section
variable {S : Srt} {w W wr : World} {P : Nat → Prop} {u2 u3 v2 v3 : Value} {B1 B2 B3 : Option Addr} {d1 d2 d3 : Nat} {A4 : Option Addr} {f4 : List T} {c0 : Nat} {L2 : List Stp} {L3 : List ByteArray}
theorem SteW.at (h : SteW S w W P u2 u3 B1 B2 B3 d1 d2 d3 A4 f4) (g : Ste c0 W wr u2 u3 v2 v3 L2 L3) (k : Nat) (hk : P k) : wr.heap[k]? = W.heap[k]? := g.keep k (by have := (h.out k hk).1; have := h.size; omega) (h.out k hk).2.1 (h.out k hk).2.2
theorem SteW.boxat (h : SteW S w W P u2 u3 B1 B2 B3 d1 d2 d3 A4 f4) (g : Ste c0 W wr u2 u3 v2 v3 L2 L3) : wr.heap[w.heap.size + 1]? = some (.cells #[.slice B1 S.bk.length d1, .slice B2 S.vd.length d2, .slice B3 S.pr.length d3] 37 (0, 0)) :=
 (g.keep _ (by have := h.size; omega) (fun e => by have := h.lt2 _ e.symm; omega) (fun e => by have := h.lt3 _ e.symm; omega)).trans h.box
theorem SteW.go (h : SteW S w W P u2 u3 B1 B2 B3 d1 d2 d3 A4 f4) (g : Ste c0 W wr u2 u3 v2 v3 L2 L3) (k : Nat) (hk : P k) : k < wr.heap.size ∧ some k ≠ v2.ownBlock ∧ some k ≠ v3.ownBlock := by
 obtain ⟨a, b, c⟩ := h.out k hk
 have hk2 : k < W.heap.size := by have := h.size; omega
 exact ⟨Nat.lt_of_lt_of_le hk2 g.size, own_at g.at2 hk2 b, own_at g.at3 hk2 c⟩
theorem SteW.rows (h : SteW S w W P u2 u3 B1 B2 B3 d1 d2 d3 A4 f4) (g : Ste c0 W wr u2 u3 v2 v3 L2 L3) : Kd.F Kd.string wr P B1 S.bk.length S.bk ∧ Kd.F Kd.string wr P B2 S.vd.length S.vd ∧ Kd.F Kd.string wr P B3 S.pr.length S.pr ∧ Kd.F k25 wr P A4 f4.length f4 :=
 ⟨Kd.F_step h.b1 (fun k hk _ => h.at g k hk), Kd.F_step h.b2 (fun k hk _ => h.at g k hk), Kd.F_step h.b3 (fun k hk _ => h.at g k hk), Kd.F_step h.kd (fun k hk _ => h.at g k hk)⟩
theorem SteW.end (h : SteW S w W P u2 u3 B1 B2 B3 d1 d2 d3 A4 f4) (g : Ste c0 W wr u2 u3 v2 v3 L2 L3) (hc : c0 ≤ w.heap.size) : Ste c0 w wr u2 u3 v2 v3 L2 L3 :=
 ⟨g.r2, g.r3, hc, Nat.le_trans (by have := h.size; omega) g.size, fun k hk a b => (g.keep k (by have := h.size; omega) a b).trans (h.on.block k hk), by
  rcases g.at2 with e | ⟨b, e, hb⟩
  ·exact .inl e
  ·exact .inr ⟨b, e, by have := h.size; omega⟩, by
  rcases g.at3 with e | ⟨b, e, hb⟩
  ·exact .inl e
  ·exact .inr ⟨b, e, by have := h.size; omega⟩, g.io.1.trans h.on.os, g.io.2.1.trans h.on.tape, g.io.2.2.trans h.on.output⟩
end
theorem stp_text (S : Srt) (m : Nat) (q : T) (h : q.f0 = 1) : stp S m q = [⟨0, (m : Int)⟩] ∧ txs S q = [q.f2] := by
 obtain ⟨k, n, x, as_, ks⟩ := q
 have h' : k = 1 := h
 subst h'
 exact ⟨by rw [stp, if_pos rfl], by rw [txs, if_pos rfl]⟩
theorem stp_other (S : Srt) (m : Nat) (q : T) (h : ¬ q.f0 = 1) (h0 : ¬ q.f0 = 0) : stp S m q = [] ∧ txs S q = [] := by
 obtain ⟨k, n, x, as_, ks⟩ := q
 exact ⟨by rw [stp, if_neg h, if_neg h0], by rw [txs, if_neg h, if_neg h0]⟩
theorem stp_elem (S : Srt) (m : Nat) (q : T) (h0 : q.f0 = 0) (K : Nat) (hK : kindS S q.f1 = K) : (inL S.pr q.f1 = true → stp S m q = [⟨(K : Int), 0⟩] ∧ txs S q = []) ∧ (inL S.pr q.f1 = false → q.f4 = [] → stp S m q = [⟨(K : Int), 0⟩] ∧ txs S q = txsL S q.f4 ∧ stpL S m q.f4 = []) ∧ (inL S.pr q.f1 = false → q.f4 ≠ [] → stp S m q = [⟨(K : Int), 0⟩] ++ stpL S m q.f4 ++ [⟨(K : Int), 0⟩] ∧ txs S q = txsL S q.f4) := by
 obtain ⟨k, n, x, as_, ks⟩ := q
 have h0' : k = 0 := h0
 have hK' : kindS S n = K := hK
 subst h0'
 have e1 : stp S m ⟨0, n, x, as_, ks⟩ = if inL S.pr n = true then [⟨kindS S n, 0⟩] else ⟨kindS S n, 0⟩ :: (stpL S m ks ++ if ks.isEmpty = true then [] else [⟨kindS S n, 0⟩]) := by rw [stp, if_neg (by decide), if_pos rfl]
 have e2 : txs S ⟨0, n, x, as_, ks⟩ = if inL S.pr n = true then [] else txsL S ks := by rw [txs, if_neg (by decide), if_pos rfl]
 rw [hK'] at e1
 refine ⟨fun hp => ?_, fun hp he => ?_, fun hp he => ?_⟩
 ·have hp' : inL S.pr n = true := hp
  rw [if_pos hp'] at e1 e2
  exact ⟨e1, e2⟩
 ·have hp' : ¬ inL S.pr n = true := fun h => by rw [show inL S.pr n = false from hp] at h; cases h
  have he' : ks = [] := he
  subst he'
  rw [if_neg hp'] at e1 e2
  exact ⟨e1, e2, rfl⟩
 ·have hp' : ¬ inL S.pr n = true := fun h => by rw [show inL S.pr n = false from hp] at h; cases h
  have hemp : ¬ ks.isEmpty = true := fun h => he (by simpa using h)
  rw [if_neg hp'] at e1 e2
  rw [if_neg hemp] at e1
  exact ⟨e1, e2⟩
theorem cells_row (W : World) (X : Stp) (bk : Nat) (h : W.heap[bk]? = some (.cells #[.int .i64 X.f0, .int .i64 X.f1] 100 (0, 0))) : ReadsRow (fun (x : Stp) cs => cs = [Value.int .i64 x.f0, .int .i64 x.f1]) 2 W (some ⟨bk, 0, none⟩) 1 [X] := by
 refine ⟨rfl, by decide, fun _ => ⟨_, rfl, fun j p hj => ?_⟩⟩
 cases j with
 | zero =>
  have : X = p := by simpa using hj
  subst this
  refine ⟨_, rfl, rfl, fun i u hi => ?_⟩
  match i, hi with
  | 0, hi =>
   have : Value.int .i64 X.f0 = u := by simpa using hi
   rw [← this]
   exact blk_cell h 0
  | 1, hi =>
   have : Value.int .i64 X.f1 = u := by simpa using hi
   rw [← this]
   exact blk_cell h 1
  | i + 2, hi => simp at hi
 | succ j => simp at hj
theorem str_row (W : World) (X : ByteArray) (bk : Nat) (h : W.heap[bk]? = some (.cells #[.string X] 9 (0, 0))) : ReadsRow (fun (x : ByteArray) cs => cs = [Value.string x]) 1 W (some ⟨bk, 0, none⟩) 1 [X] := by
 refine ⟨rfl, by decide, fun _ => ⟨_, rfl, fun j p hj => ?_⟩⟩
 cases j with
 | zero =>
  have : X = p := by simpa using hj
  subst this
  refine ⟨_, rfl, rfl, fun i u hi => ?_⟩
  match i, hi with
  | 0, hi =>
   have : Value.string X = u := by simpa using hi
   rw [← this]
   exact blk_cell h 0
  | i + 1, hi => simp at hi
 | succ j => simp at hj
section
variable {c0 : Nat} {W0 W : World} {u2 u3 v2 v3 : Value} {L2 : List Stp} {L3 : List ByteArray} {ops : Array Oper} {o : Oper} {a : Act} {Q : Exit → Act → World → Prop} {K : Act → World → Prop} {E : Prop}
theorem ste_rows2 (hgd : o.guard = none) (s x : Operand) (X : Stp) (bk : Nat) (HS : Ste c0 W0 W u2 u3 v2 v3 L2 L3) (hb : W.heap[bk]? = some (.cells #[.int .i64 X.f0, .int .i64 X.f1] 100 (0, 0))) (ho : o.op = .call { callee := .builtin .append, args := #[s, x], argTypes := #[65, 65] })
  (hs : a.eval s = v2) (hx : a.eval x = .slice (some ⟨bk, 0, none⟩) 1 1) (hl : L2.length ≤ 8000000) (h : ∀ v1 w1, Ste c0 W0 w1 u2 u3 v1 v3 (L2 ++ [X]) L3 → (∀ k, k < W.heap.size → some k ≠ v2.ownBlock → w1.heap[k]? = W.heap[k]?) → K (a.put o.dst v1) w1) :
  if Region.wanted o (yielded ops a.tmps) = true then Oper.wp Try.prog o a W K Q else E := by
 have hw : Region.wanted o (yielded ops a.tmps) = true := by simp [Region.wanted, hgd]
 have := Kd.R_append_rows_step (P := Try.prog) (ops := ops) (o := o) (a := a) (Q := Q) (Kc := K) k100 (w0 := W) c0 hw s x 65 100 _ 16 ho Try.underlying65 info100 rfl (by decide) (by decide) v2 L2 [X] _ 1 1 (fun _ => True) (fun _ => False) hs hx HS.r2 (cells_row W X bk hb) (fun x cs e => by rw [e]; exact k100_mkM W c0 _ x) (fun _ h => h.elim) (fun _ _ => trivial) (Below.refl _ _) (Nat.le_trans HS.base HS.size) (by omega) (fun v1 w1 hr _ hg hat => h v1 w1 (HS.grow2 hr hg hat) hg.block)
 rw [if_pos hw] at this ⊢
 exact this
theorem ste_rows3 (hgd : o.guard = none) (s x : Operand) (X : ByteArray) (bk : Nat) (HS : Ste c0 W0 W u2 u3 v2 v3 L2 L3) (hb : W.heap[bk]? = some (.cells #[.string X] 9 (0, 0))) (ho : o.op = .call { callee := .builtin .append, args := #[s, x], argTypes := #[28, 28] })
  (hs : a.eval s = v3) (hx : a.eval x = .slice (some ⟨bk, 0, none⟩) 1 1) (hl : L3.length ≤ 8000000) (h : ∀ v1 w1, Ste c0 W0 w1 u2 u3 v2 v1 L2 (L3 ++ [X]) → (∀ k, k < W.heap.size → some k ≠ v3.ownBlock → w1.heap[k]? = W.heap[k]?) → K (a.put o.dst v1) w1) :
  if Region.wanted o (yielded ops a.tmps) = true then Oper.wp Try.prog o a W K Q else E := by
 have hw : Region.wanted o (yielded ops a.tmps) = true := by simp [Region.wanted, hgd]
 have := Kd.R_append_rows_step (P := Try.prog) (ops := ops) (o := o) (a := a) (Q := Q) (Kc := K) Kd.string (w0 := W) c0 hw s x 28 9 _ 16 ho Try.underlying28 infoStr rfl (by decide) (by decide) v3 L3 [X] _ 1 1 (fun _ => True) (fun _ => False) hs hx HS.r3 (str_row W X bk hb) (fun x cs e => e) (fun _ h => h.elim) (fun _ _ => trivial) (Below.refl _ _) (Nat.le_trans HS.base HS.size) (by omega) (fun v1 w1 hr _ hg hat => h v1 w1 (HS.grow3 hr hg hat) hg.block)
 rw [if_pos hw] at this ⊢
 exact this
end
theorem alloc_size (W : World) (o : Obj) : (W.alloc o).heap.size = W.heap.size + 1 := by
 show (W.heap.push o).size = _
 rw [Array.size_push]
theorem drew_size (W : World) : W.drew.heap.size = W.heap.size := rfl
theorem box_new {W : World} {o : Obj} {k : Nat} (h : k = W.heap.size) : (W.alloc o).heap[k]? = some o := by
 subst h
 show (W.heap.push o)[W.heap.size]? = some o
 rw [Array.getElem?_push, if_pos rfl]
theorem brL : brB.toList = [98, 114] := (ByteArray.toList_eq _).trans rfl
set_option maxHeartbeats 8000000 in
set_option maxRecDepth 100000 in
theorem stp_calls (S : Srt) : ∀ (n : Nat) (t : T), SizeOf.sizeOf t ≤ n → ∀ (w : World) (P : Nat → Prop) (A3 : Option Addr) (c3 : Nat) (A4 : Option Addr) (c4 : Nat) (B1 B2 B3 : Option Addr) (d1 d2 d3 c0 : Nat) (o2 o3 : Value) (L2 : List Stp) (L3 : List ByteArray),
  (∀ k, P k → k < w.heap.size ∧ some k ≠ o2.ownBlock ∧ some k ≠ o3.ownBlock) → Kd.F k25 w P A4 t.f4.length t.f4 → t.f4.length ≤ c4 →
  Kd.F Kd.string w P B1 S.bk.length S.bk → Kd.F Kd.string w P B2 S.vd.length S.vd → Kd.F Kd.string w P B3 S.pr.length S.pr →
  (S.bk.length ≤ d1 ∧ S.bk.length ≤ 4611686018427387904) → (S.vd.length ≤ d2 ∧ S.vd.length ≤ 4611686018427387904) → (S.pr.length ≤ d3 ∧ S.pr.length ≤ 4611686018427387904) →
  Kd.R k100 100 w c0 (fun _ => True) o2 L2 → Kd.R Kd.string 9 w c0 (fun _ => True) o3 L3 → c0 ≤ w.heap.size → L2.length + 2 * countTL t.f4 ≤ 4000000 → L3.length + countTL t.f4 ≤ 4000000 →
  Calls Try.prog 48 #[.agg #[.int .i64 t.f0, .string t.f1, .string t.f2, .slice A3 t.f3.length c3, .slice A4 t.f4.length c4], .agg #[.slice B1 S.bk.length d1, .slice B2 S.vd.length d2, .slice B3 S.pr.length d3], o2, o3] w fun e w' => ∃ v2 v3, e = .returned (.tuple #[v2, v3]) ∧ Ste c0 w w' o2 o3 v2 v3 (L2 ++ stpL S L3.length t.f4) (L3 ++ txsL S t.f4) := by
 intro n
 induction n with
 | zero =>
  intro t h
  cases t
  simp at h
 | succ n ih =>
  intro t hsz w P A3 c3 A4 c4 B1 B2 B3 d1 d2 d3 c0 o2 o3 L2 L3 hP h4 l4 hb1 hb2 hb3 hd1 hd2 hd3 hr2 hr3 hc0 hl2 hl3
  obtain ⟨W, hW⟩ : ∃ W, W = (w.alloc (.cells #[.int .i64 t.f0, .string t.f1, .string t.f2, .slice A3 t.f3.length c3, .slice A4 t.f4.length c4] 25)).alloc (.cells #[.slice B1 S.bk.length d1, .slice B2 S.vd.length d2, .slice B3 S.pr.length d3] 37) := ⟨_, rfl⟩
  obtain ⟨z0, z1, z2, z3⟩ := two_boxes w (.cells #[.int .i64 t.f0, .string t.f1, .string t.f2, .slice A3 t.f3.length c3, .slice A4 t.f4.length c4] 25) (.cells #[.slice B1 S.bk.length d1, .slice B2 S.vd.length d2, .slice B3 S.pr.length d3] 37)
  rw [← hW] at z0 z1 z2 z3
  have HW := Aside0.mk (show SteW S w W P o2 o3 B1 B2 B3 d1 d2 d3 A4 t.f4 from ⟨z0, hP, Kd.F_below hb1 z1, Kd.F_below hb2 z1, Kd.F_below hb3 z1, hd1, hd2, hd3, Kd.F_below h4 z1, z3, z1, Kd.R_lt hr2, Kd.R_lt hr3⟩)
  have HS0 := Aside0.mk (Ste.refl (Kd.R_below hr2 z1) (Kd.R_below hr3 z1) (Nat.le_trans hc0 z1.size))
  have HC0 := Aside0.mk hc0
  have hks : ∀ y ∈ t.f4, SizeOf.sizeOf y ≤ n := fun y hy => by have h1 := kid_lt (t := t) hy; omega
  have IH := Aside0.mk (fun (q : T) (hq : q ∈ t.f4) => ih q (hks q hq))
  obtain ⟨f0, f1, f2, f3, f4⟩ := t
  simp only at HW HS0 l4 hl2 hl3 IH hW z2 ⊢
  have HL2 := Aside0.mk hl2
  have HL3 := Aside0.mk hl3
  have hlen : f4.length ≤ 4000000 := by have := countTL_ge f4; omega
  have HLN := Aside0.mk hlen
  clear hsz hP h4 hb1 hb2 hb3 hd1 hd2 hd3 hr2 hr3 hc0 ih hks z0 z1 z3 hl2 hl3 hlen
  have y4 := blk_cell z2 4
  clear z2
  go_enter Try.func48, Try.ntmps48
  go_upto_region 1 with fail
  rw [← hW]
  clear hW
  go_wp2_with fail
  go_loopw [2, 3, 16] (fun s2 s3 vi wr => ∃ j : Nat, vi = .int .i64 j ∧ j ≤ f4.length ∧ Aside0 (Ste c0 W wr o2 o3 s2 s3 (L2 ++ stpL S L3.length (f4.take j)) (L3 ++ txsL S (f4.take j)))) (fun _ _ vi _ => f4.length - (intOf vi).toNat)
  case atStart => exact ⟨0, rfl, Nat.zero_le _, by simp only [List.take_zero, stpL, txsL, List.append_nil]; exact HS0⟩
  case round =>
   clear HS0 y4
   obtain ⟨j, rfl, hj, HS⟩ := hrel
   by_cases hlt2 : j < f4.length
   ·obtain ⟨hb1, hb2, hb3, hF⟩ := HW.out.rows HS.out
    obtain ⟨ad, A5, c5, A6, c6, rfl, y0, y1, y2, y3, y4, m3, g3, m4, g4⟩ := at_F hF (j : Int) (by omega) (by omega)
    have he : f4.getD (j : Int).toNat z25 = f4[j] := by simp [List.getD_eq_getElem?_getD, List.getElem?_eq_getElem hlt2]
    rw [he] at y0 y1 y2 y3 y4 m3 g3 m4 g4
    simp only [Int.toNat_natCast] at y0 y1 y2 y3 y4
    have hq : f4[j] ∈ f4 := List.getElem_mem _
    have hcnt := cTL_at f4 hlt2
    have hln := stpL_len S (f4.take j) L3.length
    have hA : (L2 ++ stpL S L3.length (f4.take j)).length + 2 * countT f4[j] ≤ 4000000 := by rw [List.length_append]; have := HL2.out; omega
    have hB : (L3 ++ txsL S (f4.take j)).length + countT f4[j] ≤ 4000000 := by rw [List.length_append]; have := HL3.out; omega
    have hsn : L2 ++ stpL S L3.length (f4.take (j + 1)) = (L2 ++ stpL S L3.length (f4.take j)) ++ stp S (L3 ++ txsL S (f4.take j)).length f4[j] := by rw [stpL_take S L3.length f4 hlt2, List.append_assoc, List.length_append]
    have htn : L3 ++ txsL S (f4.take (j + 1)) = (L3 ++ txsL S (f4.take j)) ++ txs S f4[j] := by rw [txsL_take S f4 hlt2, List.append_assoc]
    have hkc := IH.out f4[j] hq
    generalize f4[j] = q at *
    generalize L2 ++ stpL S L3.length (f4.take j) = a at *
    generalize L3 ++ txsL S (f4.take j) = b at *
    have hcq : countT q = 1 + countTL q.f4 := by cases q; rfl
    rw [hcq] at hA hB
    have HWJ := Aside0.mk (wrap_succ j (by have := HLN.out; omega))
    have HSN := Aside0.mk hsn
    have HTN := Aside0.mk htn
    have HA := Aside0.mk hA
    have HB := Aside0.mk hB
    have hlt := HS.out.size
    have hwz := HW.out.size
    have hgo := HW.out.go HS.out
    obtain ⟨hd1, hd1'⟩ := HW.out.l1
    obtain ⟨hd2, hd2'⟩ := HW.out.l2
    obtain ⟨hd3, hd3'⟩ := HW.out.l3
    have hsb := HW.out.boxat HS.out
    obtain ⟨A7, c7, e3⟩ := Kd.R_slice HS.out.r3
    have HE3 := Aside0.mk e3
    clear e3
    go_upto_region 4 with fail
    have hcp : (wr.alloc (.cells #[.int .i64 q.f0, .string q.f1, .string q.f2, .slice A5 q.f3.length c5, .slice A6 q.f4.length c6] 25)).heap[wr.heap.size]? = some (.cells #[.int .i64 q.f0, .string q.f1, .string q.f2, .slice A5 q.f3.length c5, .slice A6 q.f4.length c6] 25 (0, 0)) := heap_alloc_new wr _
    have hb8 := below_alloc (Below.refl wr.heap.size wr) (.cells #[.int .i64 q.f0, .string q.f1, .string q.f2, .slice A5 q.f3.length c5, .slice A6 q.f4.length c6] 25)
    generalize wr.alloc (.cells #[.int .i64 q.f0, .string q.f1, .string q.f2, .slice A5 q.f3.length c5, .slice A6 q.f4.length c6] 25) = w8 at hcp hb8 ⊢
    have HS8 := Aside0.mk (HS.out.below hb8)
    have HG := Aside0.mk (Ste.refl HS8.out.r2 HS8.out.r3 (Nat.le_trans HS8.out.base HS8.out.size))
    have hkn2 : some wr.heap.size ≠ u2.ownBlock := fun e => by have := Kd.R_lt HS.out.r2 _ e.symm; omega
    have hkn3 : some wr.heap.size ≠ u3.ownBlock := fun e => by have := Kd.R_lt HS.out.r3 _ e.symm; omega
    have hsn2 : some (w.heap.size + 1) ≠ u2.ownBlock := own_at HS.out.at2 (k := w.heap.size + 1) (by omega) (fun e => by have := HW.out.lt2 _ e.symm; omega)
    have hsn3 : some (w.heap.size + 1) ≠ u3.ownBlock := own_at HS.out.at3 (k := w.heap.size + 1) (by omega) (fun e => by have := HW.out.lt3 _ e.symm; omega)
    have hkl := blk_lt hcp
    have hsl : w.heap.size + 1 < wr.heap.size := by omega
    have hsb8 := (hb8.block _ hsl).trans hsb
    have HKB := Aside0.mk (show ∀ (wx : World) (v2 v3 : Value) (a' : List Stp) (b' : List ByteArray), Ste c0 w8 wx u2 u3 v2 v3 a' b' → wx.heap[wr.heap.size]? = some (.cells #[.int .i64 q.f0, .string q.f1, .string q.f2, .slice A5 q.f3.length c5, .slice A6 q.f4.length c6] 25 (0, 0)) ∧ wx.heap[w.heap.size + 1]? = some (.cells #[.slice B1 S.bk.length d1, .slice B2 S.vd.length d2, .slice B3 S.pr.length d3] 37 (0, 0)) from
     fun wx v2 v3 a' b' g => ⟨(g.keep _ hkl hkn2 hkn3).trans hcp, (g.keep _ (by omega) hsn2 hsn3).trans hsb8⟩)
    have hgo8 : ∀ (wx : World) (v2 v3 : Value) (a' : List Stp) (b' : List ByteArray), Ste c0 w8 wx u2 u3 v2 v3 a' b' → ∀ k, P k → wx.heap[k]? = wr.heap[k]? ∧ k < wx.heap.size ∧ some k ≠ v2.ownBlock ∧ some k ≠ v3.ownBlock := fun wx v2 v3 a' b' g k hk => by
     obtain ⟨p1, p2, p3⟩ := hgo k hk
     have p8 : k < w8.heap.size := Nat.lt_of_lt_of_le p1 hb8.size
     exact ⟨(g.keep k p8 p2 p3).trans (hb8.block k p1), Nat.lt_of_lt_of_le p8 g.size, own_at g.at2 p8 p2, own_at g.at3 p8 p3⟩
    have HN1 := Aside0.mk (fun (wx : World) (v2 v3 : Value) (a' : List Stp) (b' : List ByteArray) (g : Ste c0 w8 wx u2 u3 v2 v3 a' b') => names_calls S.bk hd1' q.f1 B1 d1 hd1 wx (Kd.F_now (Kd.F_step hb1 (fun k hk _ => (hgo8 wx v2 v3 a' b' g k hk).1))))
    have HN2 := Aside0.mk (fun (wx : World) (v2 v3 : Value) (a' : List Stp) (b' : List ByteArray) (g : Ste c0 w8 wx u2 u3 v2 v3 a' b') => names_calls S.vd hd2' q.f1 B2 d2 hd2 wx (Kd.F_now (Kd.F_step hb2 (fun k hk _ => (hgo8 wx v2 v3 a' b' g k hk).1))))
    have HN3 := Aside0.mk (fun (wx : World) (v2 v3 : Value) (a' : List Stp) (b' : List ByteArray) (g : Ste c0 w8 wx u2 u3 v2 v3 a' b') => names_calls S.pr hd3' q.f1 B3 d3 hd3 wx (Kd.F_now (Kd.F_step hb3 (fun k hk _ => (hgo8 wx v2 v3 a' b' g k hk).1))))
    have HRC := Aside0.mk (fun (wx : World) (v2 v3 : Value) (a' : List Stp) (b' : List ByteArray) (g : Ste c0 w8 wx u2 u3 v2 v3 a' b') (ha : a'.length + 2 * countTL q.f4 ≤ 4000000) (hb : b'.length + countTL q.f4 ≤ 4000000) =>
     hkc wx P A5 c5 A6 c6 B1 B2 B3 d1 d2 d3 c0 v2 v3 a' b' (fun k hk => (hgo8 wx v2 v3 a' b' g k hk).2) (Kd.F_step g4 (fun k hk _ => (hgo8 wx v2 v3 a' b' g k hk).1)) m4 (Kd.F_step hb1 (fun k hk _ => (hgo8 wx v2 v3 a' b' g k hk).1)) (Kd.F_step hb2 (fun k hk _ => (hgo8 wx v2 v3 a' b' g k hk).1)) (Kd.F_step hb3 (fun k hk _ => (hgo8 wx v2 v3 a' b' g k hk).1)) ⟨hd1, hd1'⟩ ⟨hd2, hd2'⟩ ⟨hd3, hd3'⟩ g.r2 g.r3 (Nat.le_trans g.base g.size) ha hb)
    clear hkn2 hkn3 hsn2 hsn3 hkl hsl hsb8 hgo8 hgo hd1 hd1' hd2 hd2' hd3 hd3' hsb hlt hwz hkc hb1 hb2 hb3 hF m3 g3 m4 g4 hcp hb8 hA hB hcq hsn htn hq he hcnt hln HS y0 y1 y2 y3 y4
    obtain ⟨hk8, hs8⟩ := HKB.out _ _ _ _ _ HG.out
    have y0 := blk_cell hk8 0
    have y1 := blk_cell hk8 1
    have y2 := blk_cell hk8 2
    have y3 := blk_cell hk8 3
    have y4 := blk_cell hk8 4
    have s0 := blk_cell hs8 0
    have s1 := blk_cell hs8 1
    have s2 := blk_cell hs8 2
    clear hk8 hs8
    by_cases k1 : q.f0 = 1
    ·obtain ⟨e1, e2⟩ := stp_text S b.length q k1
     have HE1 := Aside0.mk e1
     have HE2 := Aside0.mk e2
     clear e1 e2
     have d1_ : decide (q.f0 = 1) = true := decide_eq_true k1
     have b1_ : (q.f0 == 1) = true := beq_iff_eq.2 k1
     have e3 := HE3.out
     subst e3
     obtain ⟨bx1, hbx1⟩ : ∃ bx, bx = Obj.cells #[.int .i64 0, .int .i64 (b.length : Int)] 100 (0, 0) := ⟨_, rfl⟩
     have HLD := Aside0.mk (fun (wx : World) (hb : Below w8.heap.size w8 wx) => blk_cell (HKB.out _ _ _ _ _ (HG.out.below hb)).1 2)
     have ya := HLD.out w8.drew (below_drew (Below.refl _ _))
     have yb := HLD.out (w8.alloc (.cells #[.int .i64 0, .int .i64 (b.length : Int)] 100)) (below_alloc (Below.refl _ _) _)
     have yc := HLD.out (w8.drew.alloc (.cells #[.int .i64 0, .int .i64 (b.length : Int)] 100)) (below_alloc (below_drew (Below.refl _ _)) _)
     have yd := HLD.out (w8.alloc (.cells #[.int .i64 0, .int .i64 (b.length : Int)] 100)).drew (below_drew (below_alloc (Below.refl _ _) _))
     have ye := HLD.out (w8.drew.alloc (.cells #[.int .i64 0, .int .i64 (b.length : Int)] 100)).drew (below_drew (below_alloc (below_drew (Below.refl _ _)) _))
     clear hbx1
     clear bx1
     have HOWN := Aside0.mk (show ∀ k, w8.heap.size ≤ k → some k ≠ u2.ownBlock from fun k hk e => by have := Kd.R_lt HG.out.r2 _ e.symm; omega)
     go_upto_region 5 with fail
     go_region_law (first
      | (refine ste_rows2 rfl (.tmp 24) (.tmp 28) ⟨0, (b.length : Int)⟩ (w8.heap.size) (HG.out.below ?ax) ?bx rfl ?hs ?hx ?hl ?_; (case hx => (simp [Act.eval, Act.put]; done)); (case hs => (simp [Act.eval, Act.put]; done)); (case ax => ((repeat (first | with_reducible exact Below.refl _ _ | with_reducible refine below_alloc ?_ _ | with_reducible refine below_drew ?_)); done)); (case bx => ((repeat (first | (with_reducible refine box_new ?_; first | with_reducible rfl | (simp only [alloc_size, drew_size]; done)) | with_reducible refine blk_drew ?_ | with_reducible refine blk_alloc ?_ _)); done)); (case hl => (have := HA.out; omega)); intro v1 w9 hg9 hk9_; have HK9 := Aside0.mk hk9_; have HT := Aside0.mk hg9; have y2 := blk_cell (HKB.out _ _ _ _ _ hg9).1 2; have yd2 := blk_cell (HKB.out _ _ _ _ _ (hg9.below (below_drew (Below.refl _ _)))).1 2; clear hg9 hk9_)
      | (refine ste_rows2 rfl (.tmp 24) (.tmp 28) ⟨0, (b.length : Int)⟩ (w8.heap.size + 1) (HG.out.below ?ax) ?bx rfl ?hs ?hx ?hl ?_; (case hx => (simp [Act.eval, Act.put]; done)); (case hs => (simp [Act.eval, Act.put]; done)); (case ax => ((repeat (first | with_reducible exact Below.refl _ _ | with_reducible refine below_alloc ?_ _ | with_reducible refine below_drew ?_)); done)); (case bx => ((repeat (first | (with_reducible refine box_new ?_; first | with_reducible rfl | (simp only [alloc_size, drew_size]; done)) | with_reducible refine blk_drew ?_ | with_reducible refine blk_alloc ?_ _)); done)); (case hl => (have := HA.out; omega)); intro v1 w9 hg9 hk9_; have HK9 := Aside0.mk hk9_; have HT := Aside0.mk hg9; have y2 := blk_cell (HKB.out _ _ _ _ _ hg9).1 2; have yd2 := blk_cell (HKB.out _ _ _ _ _ (hg9.below (below_drew (Below.refl _ _)))).1 2; clear hg9 hk9_)
      | (refine ste_rows3 rfl (.tmp 30) (.tmp 33) q.f2 (w9.heap.size) (HT.out.below ?ax) ?bx rfl ?hs ?hx ?hl ?_; (case hx => (simp [Act.eval, Act.put]; done)); (case hs => (simp [Act.eval, Act.put]; done)); (case ax => ((repeat (first | with_reducible exact Below.refl _ _ | with_reducible refine below_alloc ?_ _ | with_reducible refine below_drew ?_)); done)); (case bx => ((repeat (first | (with_reducible refine box_new ?_; first | with_reducible rfl | (simp only [alloc_size, drew_size]; done)) | with_reducible refine blk_drew ?_ | with_reducible refine blk_alloc ?_ _)); done)); (case hl => (have := HB.out; omega)); intro v3 w10 hg10 hk10; have HF := Aside0.mk hg10; clear hg10 hk10)
      | (refine ste_rows3 rfl (.tmp 30) (.tmp 33) q.f2 (w8.heap.size + 1) (HT.out.below ?ax) ?bx rfl ?hs ?hx ?hl ?_; (case hx => (simp [Act.eval, Act.put]; done)); (case hs => (simp [Act.eval, Act.put]; done)); (case ax => ((repeat (first | with_reducible exact Below.refl _ _ | with_reducible refine below_alloc ?_ _ | with_reducible refine below_drew ?_)); done)); (case bx => ((repeat with_reducible refine blk_drew ?_); refine (HK9.out _ ?_ (HOWN.out _ ?_)).trans ?_; (first | omega | (simp only [alloc_size, drew_size]; omega)); omega; (repeat (first | (with_reducible refine box_new ?_; first | with_reducible rfl | (simp only [alloc_size, drew_size]; done)) | with_reducible refine blk_drew ?_ | with_reducible refine blk_alloc ?_ _)); done)); (case hl => (have := HB.out; omega)); intro v3 w10 hg10 hk10; have HF := Aside0.mk hg10; clear hg10 hk10)
      | (refine ste_rows3 rfl (.tmp 30) (.tmp 33) q.f2 (w8.heap.size) (HT.out.below ?ax) ?bx rfl ?hs ?hx ?hl ?_; (case hx => (simp [Act.eval, Act.put]; done)); (case hs => (simp [Act.eval, Act.put]; done)); (case ax => ((repeat (first | with_reducible exact Below.refl _ _ | with_reducible refine below_alloc ?_ _ | with_reducible refine below_drew ?_)); done)); (case bx => ((repeat with_reducible refine blk_drew ?_); refine (HK9.out _ ?_ (HOWN.out _ ?_)).trans ?_; (first | omega | (simp only [alloc_size, drew_size]; omega)); omega; (repeat (first | (with_reducible refine box_new ?_; first | with_reducible rfl | (simp only [alloc_size, drew_size]; done)) | with_reducible refine blk_drew ?_ | with_reducible refine blk_alloc ?_ _)); done)); (case hl => (have := HB.out; omega)); intro v3 w10 hg10 hk10; have HF := Aside0.mk hg10; clear hg10 hk10)
      | fail)
     all_goals (simp only [Exit.inBlock, Exit.then]; go_wp2_with fail; go_roundw)
     all_goals first
      | exact ⟨j + 1, by rw [HWJ.out], hlt2, by rw [HSN.out, HTN.out, HE1.out, HE2.out]; exact ⟨HS8.out.trans HF.out⟩⟩
      | (rw [HWJ.out]; simp [intOf]; omega)
    ·by_cases k0 : q.f0 = 0
     ·rw [k0] at HRC
      obtain ⟨E1, E2, E3⟩ := stp_elem S b.length q k0 (kindS S q.f1) rfl
      have HE1 := Aside0.mk E1
      have HE2 := Aside0.mk E2
      have HE3' := Aside0.mk E3
      clear E1 E2 E3
      have d1_ : decide (q.f0 = 1) = false := decide_eq_false k1
      have b1_ : (q.f0 == 1) = false := beq_eq_false_iff_ne.2 k1
      have b0_ : (q.f0 == 0) = true := beq_iff_eq.2 k0
      have n0_ : (q.f0 != 0) = false := by rw [bne, b0_]; rfl
      go_upto_region 8 with fail
      go_cut [48] (fun v48 wc => v48 = .bool (inL S.bk q.f1 || q.f1.toList == brB.toList) ∧ Aside0 (Ste c0 w8 wc u2 u3 u2 u3 a b))
      case first =>
       obtain ⟨r1, hr1⟩ : ∃ r, r = inL S.bk q.f1 := ⟨_, rfl⟩
       have HR1 := Aside0.mk hr1
       clear hr1
       cases r1 with
       | true =>
        go_wp2_with (go_at_call 37; go_must (refine (HN1.out _ _ _ _ _ HG.out).mono ?_; rintro e w9 ⟨rfl, hb9⟩; rw [← HR1.out]; have HG9 := Aside0.mk (HG.out.below hb9); obtain ⟨hk9, _⟩ := HKB.out _ _ _ _ _ HG9.out; have y1 := blk_cell hk9 1; clear hb9 hk9))
        go_meet
        exact ⟨by rw [← HR1.out]; rfl, HG9⟩
       | false =>
        go_wp2_with (go_at_call 37; go_must (refine (HN1.out _ _ _ _ _ HG.out).mono ?_; rintro e w9 ⟨rfl, hb9⟩; rw [← HR1.out]; have HG9 := Aside0.mk (HG.out.below hb9); obtain ⟨hk9, _⟩ := HKB.out _ _ _ _ _ HG9.out; have y1 := blk_cell hk9 1; clear hb9 hk9))
        go_meet
        exact ⟨by rw [← HR1.out, brL]; rfl, HG9⟩
      case rest =>
       obtain ⟨rfl, HGc⟩ := hcut
       have HGt := HGc
       obtain ⟨hk9, hs9⟩ := HKB.out _ _ _ _ _ HGt.out
       have y0 := blk_cell hk9 0
       have y1 := blk_cell hk9 1
       have y2 := blk_cell hk9 2
       have y3 := blk_cell hk9 3
       have y4 := blk_cell hk9 4
       have s0 := blk_cell hs9 0
       have s1 := blk_cell hs9 1
       have s2 := blk_cell hs9 2
       clear hk9 hs9 HG
       cases hB : (inL S.bk q.f1 || q.f1.toList == brB.toList) with
       | true =>
        have HK := Aside0.mk (show kindS S q.f1 = 1 from by unfold kindS; rw [if_pos hB])
        clear hB
        go_upto_region 12 with fail
        go_upto_region 13 with ((with_reducible refine gate_builtin (b := .append) (xs := #[.tmp 61, .tmp 64]) rfl ?_); at_builtin; go_must (refine ste_app2 rfl (.tmp 61) (.tmp 64) ⟨1, 0⟩ [.int .i64 1, .int .i64 0] HGt.out rfl rfl rfl rfl (by have := HA.out; omega) ?_; intro v5 w5 hg5; obtain ⟨hk5, hs5⟩ := HKB.out _ _ _ _ _ hg5; have y0 := blk_cell hk5 0; have y1 := blk_cell hk5 1; have y2 := blk_cell hk5 2; have y3 := blk_cell hk5 3; have y4 := blk_cell hk5 4; have s0 := blk_cell hs5 0; have s1 := blk_cell hs5 1; have s2 := blk_cell hs5 2; have HG5 := Aside0.mk hg5; clear hg5 hk5 hs5))
        obtain ⟨r3, hr3⟩ : ∃ r, r = inL S.pr q.f1 := ⟨_, rfl⟩
        have HR3 := Aside0.mk hr3
        clear hr3
        have HLA := Aside0.mk (show (a ++ [(⟨1, 0⟩ : Stp)]).length + 2 * countTL q.f4 ≤ 4000000 by have := HA.out; rw [List.length_append, List.length_singleton]; omega)
        have HLB := Aside0.mk (show b.length + countTL q.f4 ≤ 4000000 by have := HB.out; omega)
        cases r3 with
        | true =>
         go_wp2_with (go_at_call 37; go_must (refine (HN3.out _ _ _ _ _ HG5.out).mono ?_; rintro e w6 ⟨rfl, hb6⟩; rw [← HR3.out]; have HG6 := Aside0.mk (HG5.out.below hb6); clear hb6))
         go_roundw
         case rel => exact ⟨j + 1, by rw [HWJ.out], hlt2, by rw [HSN.out, HTN.out, (HE1.out HR3.out.symm).1, (HE1.out HR3.out.symm).2, HK.out, List.append_nil]; exact ⟨HS8.out.trans HG6.out⟩⟩
         case measure => rw [HWJ.out]; simp [intOf]; omega
        | false =>
         go_upto_region 15 with (first
          | (go_at_call 37; go_must (refine (HN3.out _ _ _ _ _ HG5.out).mono ?_; rintro e w6 ⟨rfl, hb6⟩; rw [← HR3.out]; have HG6 := Aside0.mk (HG5.out.below hb6); obtain ⟨hk6, hs6⟩ := HKB.out _ _ _ _ _ HG6.out; have y0 := blk_cell hk6 0; have y1 := blk_cell hk6 1; have y2 := blk_cell hk6 2; have y3 := blk_cell hk6 3; have y4 := blk_cell hk6 4; have s0 := blk_cell hs6 0; have s1 := blk_cell hs6 1; have s2 := blk_cell hs6 2; clear hb6 hk6 hs6))
          | (go_at_call 48; go_must (refine (HRC.out _ _ _ _ _ HG6.out HLA.out HLB.out).mono ?_; rintro e w7 ⟨v7, v8, rfl, hg7⟩; have HG7 := Aside0.mk (HG6.out.trans hg7); obtain ⟨hk7, hs7⟩ := HKB.out _ _ _ _ _ HG7.out; have y4 := blk_cell hk7 4; clear hg7 hk7 hs7)))
         by_cases hz : q.f4 = []
         ·have HZ := Aside0.mk hz
          have hz0 : q.f4.length = 0 := by rw [hz]; rfl
          clear hz
          go_wp2_with fail
          go_roundw
          case rel => exact ⟨j + 1, by rw [HWJ.out], hlt2, by
           have e1 := HE2.out HR3.out.symm HZ.out
           have g7 := HG7.out
           rw [e1.2.2, List.append_nil] at g7
           rw [HSN.out, HTN.out, e1.1, e1.2.1, HK.out]
           exact ⟨HS8.out.trans g7⟩⟩
          case measure => rw [HWJ.out]; simp [intOf]; omega
         ·have HZ := Aside0.mk hz
          have hz0 : 0 < q.f4.length := List.length_pos_iff.2 hz
          clear hz
          have HLL := Aside0.mk (show (a ++ [(⟨1, 0⟩ : Stp)] ++ stpL S b.length q.f4).length ≤ 8000000 by have := HLA.out; have := (stpL_len S q.f4 b.length).1; rw [List.length_append]; omega)
          go_wp2_with ((with_reducible refine gate_builtin (b := .append) (xs := #[.tmp 83, .tmp 86]) rfl ?_); at_builtin; go_must (refine ste_app2 rfl (.tmp 83) (.tmp 86) ⟨1, 0⟩ [.int .i64 1, .int .i64 0] HG7.out rfl rfl rfl rfl HLL.out ?_; intro v9 w9 hg9; have HG9 := Aside0.mk hg9; clear hg9))
          go_roundw
          case rel => exact ⟨j + 1, by rw [HWJ.out], hlt2, by
           have e1 := HE3'.out HR3.out.symm HZ.out
           rw [HSN.out, HTN.out, e1.1, e1.2, HK.out, ← List.append_assoc, ← List.append_assoc]
           exact ⟨HS8.out.trans HG9.out⟩⟩
          case measure => rw [HWJ.out]; simp [intOf]; omega
       | false =>
        have HB0 := Aside0.mk hB
        clear hB
        go_upto_region 10 with fail
        go_cut [60] (fun v60 wd => v60 = .bool (inL S.vd q.f1 || inL S.pr q.f1) ∧ Aside0 (Ste c0 w8 wd u2 u3 u2 u3 a b))
        case first =>
         obtain ⟨r1, hr1⟩ : ∃ r, r = inL S.vd q.f1 := ⟨_, rfl⟩
         have HR1 := Aside0.mk hr1
         clear hr1
         cases r1 with
         | true =>
          go_wp2_with (go_at_call_has 37 B2; go_must (refine (HN2.out _ _ _ _ _ HGt.out).mono ?_; rintro e w9 ⟨rfl, hb9⟩; rw [← HR1.out]; have HG9 := Aside0.mk (HGt.out.below hb9); obtain ⟨hk9, hs9⟩ := HKB.out _ _ _ _ _ HG9.out; have y1 := blk_cell hk9 1; have s2 := blk_cell hs9 2; clear hb9 hk9 hs9))
          go_meet
          exact ⟨by rw [← HR1.out]; rfl, HG9⟩
         | false =>
          go_wp2_with (first | (go_at_call_has 37 B2; go_must (refine (HN2.out _ _ _ _ _ HGt.out).mono ?_; rintro e w9 ⟨rfl, hb9⟩; rw [← HR1.out]; have HG9 := Aside0.mk (HGt.out.below hb9); obtain ⟨hk9, hs9⟩ := HKB.out _ _ _ _ _ HG9.out; have y1 := blk_cell hk9 1; have s2 := blk_cell hs9 2; clear hb9 hk9 hs9)) | (go_at_call_has 37 B3; go_must (refine (HN3.out _ _ _ _ _ HG9.out).mono ?_; rintro e w9 ⟨rfl, hb9⟩; have HG10 := Aside0.mk (HG9.out.below hb9); obtain ⟨hk9, hs9⟩ := HKB.out _ _ _ _ _ HG10.out; have y1 := blk_cell hk9 1; have s2 := blk_cell hs9 2; clear hb9 hk9 hs9)))
          go_meet
          exact ⟨by rw [← HR1.out]; rfl, HG10⟩
        case rest =>
         obtain ⟨rfl, HGd⟩ := hcut
         clear HGt HGc
         have HGt := HGd
         clear HGd
         obtain ⟨hk9, hs9⟩ := HKB.out _ _ _ _ _ HGt.out
         have y0 := blk_cell hk9 0
         have y1 := blk_cell hk9 1
         have y2 := blk_cell hk9 2
         have y3 := blk_cell hk9 3
         have y4 := blk_cell hk9 4
         have s0 := blk_cell hs9 0
         have s1 := blk_cell hs9 1
         have s2 := blk_cell hs9 2
         clear hk9 hs9
         cases hB2 : (inL S.vd q.f1 || inL S.pr q.f1) with
         | true =>
          have HK := Aside0.mk (show kindS S q.f1 = 2 from by unfold kindS; rw [if_neg (by rw [HB0.out]; simp), if_pos hB2])
          clear hB2
          go_upto_region 12 with fail
          go_upto_region 13 with ((with_reducible refine gate_builtin (b := .append) (xs := #[.tmp 61, .tmp 64]) rfl ?_); at_builtin; go_must (refine ste_app2 rfl (.tmp 61) (.tmp 64) ⟨2, 0⟩ [.int .i64 2, .int .i64 0] HGt.out rfl rfl rfl rfl (by have := HA.out; omega) ?_; intro v5 w5 hg5; obtain ⟨hk5, hs5⟩ := HKB.out _ _ _ _ _ hg5; have y0 := blk_cell hk5 0; have y1 := blk_cell hk5 1; have y2 := blk_cell hk5 2; have y3 := blk_cell hk5 3; have y4 := blk_cell hk5 4; have s0 := blk_cell hs5 0; have s1 := blk_cell hs5 1; have s2 := blk_cell hs5 2; have HG5 := Aside0.mk hg5; clear hg5 hk5 hs5))
          obtain ⟨r3, hr3⟩ : ∃ r, r = inL S.pr q.f1 := ⟨_, rfl⟩
          have HR3 := Aside0.mk hr3
          clear hr3
          have HLA := Aside0.mk (show (a ++ [(⟨2, 0⟩ : Stp)]).length + 2 * countTL q.f4 ≤ 4000000 by have := HA.out; rw [List.length_append, List.length_singleton]; omega)
          have HLB := Aside0.mk (show b.length + countTL q.f4 ≤ 4000000 by have := HB.out; omega)
          cases r3 with
          | true =>
           go_wp2_with (go_at_call 37; go_must (refine (HN3.out _ _ _ _ _ HG5.out).mono ?_; rintro e w6 ⟨rfl, hb6⟩; rw [← HR3.out]; have HG6 := Aside0.mk (HG5.out.below hb6); clear hb6))
           go_roundw
           case rel => exact ⟨j + 1, by rw [HWJ.out], hlt2, by rw [HSN.out, HTN.out, (HE1.out HR3.out.symm).1, (HE1.out HR3.out.symm).2, HK.out, List.append_nil]; exact ⟨HS8.out.trans HG6.out⟩⟩
           case measure => rw [HWJ.out]; simp [intOf]; omega
          | false =>
           go_upto_region 15 with (first
            | (go_at_call 37; go_must (refine (HN3.out _ _ _ _ _ HG5.out).mono ?_; rintro e w6 ⟨rfl, hb6⟩; rw [← HR3.out]; have HG6 := Aside0.mk (HG5.out.below hb6); obtain ⟨hk6, hs6⟩ := HKB.out _ _ _ _ _ HG6.out; have y0 := blk_cell hk6 0; have y1 := blk_cell hk6 1; have y2 := blk_cell hk6 2; have y3 := blk_cell hk6 3; have y4 := blk_cell hk6 4; have s0 := blk_cell hs6 0; have s1 := blk_cell hs6 1; have s2 := blk_cell hs6 2; clear hb6 hk6 hs6))
            | (go_at_call 48; go_must (refine (HRC.out _ _ _ _ _ HG6.out HLA.out HLB.out).mono ?_; rintro e w7 ⟨v7, v8, rfl, hg7⟩; have HG7 := Aside0.mk (HG6.out.trans hg7); obtain ⟨hk7, hs7⟩ := HKB.out _ _ _ _ _ HG7.out; have y4 := blk_cell hk7 4; clear hg7 hk7 hs7)))
           by_cases hz : q.f4 = []
           ·have HZ := Aside0.mk hz
            have hz0 : q.f4.length = 0 := by rw [hz]; rfl
            clear hz
            go_wp2_with fail
            go_roundw
            case rel => exact ⟨j + 1, by rw [HWJ.out], hlt2, by
             have e1 := HE2.out HR3.out.symm HZ.out
             have g7 := HG7.out
             rw [e1.2.2, List.append_nil] at g7
             rw [HSN.out, HTN.out, e1.1, e1.2.1, HK.out]
             exact ⟨HS8.out.trans g7⟩⟩
            case measure => rw [HWJ.out]; simp [intOf]; omega
           ·have HZ := Aside0.mk hz
            have hz0 : 0 < q.f4.length := List.length_pos_iff.2 hz
            clear hz
            have HLL := Aside0.mk (show (a ++ [(⟨2, 0⟩ : Stp)] ++ stpL S b.length q.f4).length ≤ 8000000 by have := HLA.out; have := (stpL_len S q.f4 b.length).1; rw [List.length_append]; omega)
            go_wp2_with ((with_reducible refine gate_builtin (b := .append) (xs := #[.tmp 83, .tmp 86]) rfl ?_); at_builtin; go_must (refine ste_app2 rfl (.tmp 83) (.tmp 86) ⟨2, 0⟩ [.int .i64 2, .int .i64 0] HG7.out rfl rfl rfl rfl HLL.out ?_; intro v9 w9 hg9; have HG9 := Aside0.mk hg9; clear hg9))
            go_roundw
            case rel => exact ⟨j + 1, by rw [HWJ.out], hlt2, by
             have e1 := HE3'.out HR3.out.symm HZ.out
             rw [HSN.out, HTN.out, e1.1, e1.2, HK.out, ← List.append_assoc, ← List.append_assoc]
             exact ⟨HS8.out.trans HG9.out⟩⟩
            case measure => rw [HWJ.out]; simp [intOf]; omega
         | false =>
          have HK := Aside0.mk (show kindS S q.f1 = 3 from by unfold kindS; rw [if_neg (by rw [HB0.out]; simp), if_neg (by rw [hB2]; simp)])
          clear hB2
          go_upto_region 12 with fail
          go_upto_region 13 with ((with_reducible refine gate_builtin (b := .append) (xs := #[.tmp 61, .tmp 64]) rfl ?_); at_builtin; go_must (refine ste_app2 rfl (.tmp 61) (.tmp 64) ⟨3, 0⟩ [.int .i64 3, .int .i64 0] HGt.out rfl rfl rfl rfl (by have := HA.out; omega) ?_; intro v5 w5 hg5; obtain ⟨hk5, hs5⟩ := HKB.out _ _ _ _ _ hg5; have y0 := blk_cell hk5 0; have y1 := blk_cell hk5 1; have y2 := blk_cell hk5 2; have y3 := blk_cell hk5 3; have y4 := blk_cell hk5 4; have s0 := blk_cell hs5 0; have s1 := blk_cell hs5 1; have s2 := blk_cell hs5 2; have HG5 := Aside0.mk hg5; clear hg5 hk5 hs5))
          obtain ⟨r3, hr3⟩ : ∃ r, r = inL S.pr q.f1 := ⟨_, rfl⟩
          have HR3 := Aside0.mk hr3
          clear hr3
          have HLA := Aside0.mk (show (a ++ [(⟨3, 0⟩ : Stp)]).length + 2 * countTL q.f4 ≤ 4000000 by have := HA.out; rw [List.length_append, List.length_singleton]; omega)
          have HLB := Aside0.mk (show b.length + countTL q.f4 ≤ 4000000 by have := HB.out; omega)
          cases r3 with
          | true =>
           go_wp2_with (go_at_call 37; go_must (refine (HN3.out _ _ _ _ _ HG5.out).mono ?_; rintro e w6 ⟨rfl, hb6⟩; rw [← HR3.out]; have HG6 := Aside0.mk (HG5.out.below hb6); clear hb6))
           go_roundw
           case rel => exact ⟨j + 1, by rw [HWJ.out], hlt2, by rw [HSN.out, HTN.out, (HE1.out HR3.out.symm).1, (HE1.out HR3.out.symm).2, HK.out, List.append_nil]; exact ⟨HS8.out.trans HG6.out⟩⟩
           case measure => rw [HWJ.out]; simp [intOf]; omega
          | false =>
           go_upto_region 15 with (first
            | (go_at_call 37; go_must (refine (HN3.out _ _ _ _ _ HG5.out).mono ?_; rintro e w6 ⟨rfl, hb6⟩; rw [← HR3.out]; have HG6 := Aside0.mk (HG5.out.below hb6); obtain ⟨hk6, hs6⟩ := HKB.out _ _ _ _ _ HG6.out; have y0 := blk_cell hk6 0; have y1 := blk_cell hk6 1; have y2 := blk_cell hk6 2; have y3 := blk_cell hk6 3; have y4 := blk_cell hk6 4; have s0 := blk_cell hs6 0; have s1 := blk_cell hs6 1; have s2 := blk_cell hs6 2; clear hb6 hk6 hs6))
            | (go_at_call 48; go_must (refine (HRC.out _ _ _ _ _ HG6.out HLA.out HLB.out).mono ?_; rintro e w7 ⟨v7, v8, rfl, hg7⟩; have HG7 := Aside0.mk (HG6.out.trans hg7); obtain ⟨hk7, hs7⟩ := HKB.out _ _ _ _ _ HG7.out; have y4 := blk_cell hk7 4; clear hg7 hk7 hs7)))
           by_cases hz : q.f4 = []
           ·have HZ := Aside0.mk hz
            have hz0 : q.f4.length = 0 := by rw [hz]; rfl
            clear hz
            go_wp2_with fail
            go_roundw
            case rel => exact ⟨j + 1, by rw [HWJ.out], hlt2, by
             have e1 := HE2.out HR3.out.symm HZ.out
             have g7 := HG7.out
             rw [e1.2.2, List.append_nil] at g7
             rw [HSN.out, HTN.out, e1.1, e1.2.1, HK.out]
             exact ⟨HS8.out.trans g7⟩⟩
            case measure => rw [HWJ.out]; simp [intOf]; omega
           ·have HZ := Aside0.mk hz
            have hz0 : 0 < q.f4.length := List.length_pos_iff.2 hz
            clear hz
            have HLL := Aside0.mk (show (a ++ [(⟨3, 0⟩ : Stp)] ++ stpL S b.length q.f4).length ≤ 8000000 by have := HLA.out; have := (stpL_len S q.f4 b.length).1; rw [List.length_append]; omega)
            go_wp2_with ((with_reducible refine gate_builtin (b := .append) (xs := #[.tmp 83, .tmp 86]) rfl ?_); at_builtin; go_must (refine ste_app2 rfl (.tmp 83) (.tmp 86) ⟨3, 0⟩ [.int .i64 3, .int .i64 0] HG7.out rfl rfl rfl rfl HLL.out ?_; intro v9 w9 hg9; have HG9 := Aside0.mk hg9; clear hg9))
            go_roundw
            case rel => exact ⟨j + 1, by rw [HWJ.out], hlt2, by
             have e1 := HE3'.out HR3.out.symm HZ.out
             rw [HSN.out, HTN.out, e1.1, e1.2, HK.out, ← List.append_assoc, ← List.append_assoc]
             exact ⟨HS8.out.trans HG9.out⟩⟩
            case measure => rw [HWJ.out]; simp [intOf]; omega
     ·obtain ⟨e1, e2⟩ := stp_other S b.length q k1 k0
      have HE1 := Aside0.mk e1
      have HE2 := Aside0.mk e2
      clear e1 e2
      have d1_ : decide (q.f0 = 1) = false := decide_eq_false k1
      have b1_ : (q.f0 == 1) = false := beq_eq_false_iff_ne.2 k1
      have b0_ : (q.f0 == 0) = false := beq_eq_false_iff_ne.2 k0
      have n0_ : (q.f0 != 0) = true := by rw [bne, b0_]; rfl
      go_wp2_with fail
      go_roundw
      case rel => exact ⟨j + 1, by rw [HWJ.out], hlt2, by rw [HSN.out, HTN.out, HE1.out, HE2.out, List.append_nil, List.append_nil]; exact HS8⟩
      case measure => rw [HWJ.out]; simp [intOf]; omega
   ·have hje : j = f4.length := by omega
    subst hje
    rw [List.take_of_length_le (Nat.le_refl _)] at HS
    have HE := Aside0.mk (HW.out.end HS.out HC0.out)
    clear HS
    go_wp2_with fail
    refine bodyPost_ret (v := .tuple #[u2, u3]) (by simp [results, Try.results48, go_sem]) rfl ?_
    exact ⟨_, _, rfl, HE.out⟩
end Go.Proofs.Ytmfjbljdbkmkgaa.Dom

/- The tree filled again: kid by kid. Plain facts. -/
namespace Go.Proofs.Ytmfjbljdbkmkgaa.Dom
open Go.RowKit Go.Proofs.YtmfjbljdbkmkgaaW.PrintWords Go.Proofs.YtmfjbljdbkmkgaaW.PrintLast Go.Proofs.YtmfjbljdbkmkgaaW.PrintMore Go.Proofs.Ytmfjbljdbkmkgaa.PDom Go.Proofs.Ytmfjbljdbkmkgaa.Txt Go.Proofs.Ytmfjbljdbkmkgaa.Blank
set_option linter.unusedVariables false
set_option linter.unusedSimpArgs false

/-- One kid. -/
def rf1 (S : Srt) (tx : List ByteArray) (k : T) : List T × List ByteArray :=
 if k.f0 = 1 then ((if (tx.getD 0 ⟨#[]⟩).toList = [] then [] else [⟨1, ⟨#[]⟩, tx.getD 0 ⟨#[]⟩, [], []⟩]), tx.drop 1)
 else if k.f0 = 2 ∨ (k.f0 = 0 ∧ inL S.pr k.f1 = true) then ([k], tx)
 else if k.f0 = 0 then ([(rfT S tx k).1], (rfT S tx k).2)
 else ([], tx)
theorem rfTL_cons (S : Srt) (tx : List ByteArray) (k : T) (ks : List T) : rfTL S tx (k :: ks) = ((rf1 S tx k).1 ++ (rfTL S (rf1 S tx k).2 ks).1, (rfTL S (rf1 S tx k).2 ks).2) := by
 rw [rfTL]
 unfold rf1
 split
 ·rfl
 ·split
  ·rfl
  ·split
   ·rfl
   ·rfl
theorem rfTL_append (S : Srt) (a b : List T) : ∀ tx, rfTL S tx (a ++ b) = ((rfTL S tx a).1 ++ (rfTL S (rfTL S tx a).2 b).1, (rfTL S (rfTL S tx a).2 b).2) := by
 induction a with
 | nil => intro tx; rw [List.nil_append, rfTL, List.nil_append]
 | cons k a ih =>
  intro tx
  rw [List.cons_append, rfTL_cons, ih, rfTL_cons, List.append_assoc]
theorem rfTL_take (S : Srt) (tx : List ByteArray) (l : List T) {j : Nat} (h : j < l.length) : rfTL S tx (l.take (j + 1)) = ((rfTL S tx (l.take j)).1 ++ (rf1 S (rfTL S tx (l.take j)).2 l[j]).1, (rf1 S (rfTL S tx (l.take j)).2 l[j]).2) := by
 rw [List.take_succ_eq_append_getElem h, rfTL_append, rfTL_cons]
 simp only [rfTL, List.append_nil]
/-- What is left of the texts. -/
theorem rf_rest (S : Srt) (t : T) : ∀ tx : List ByteArray, (rfTL S tx t.f4).2 = tx.drop (txsL S t.f4).length := by
 induction t using T_induct with
 | h t ih =>
  have hL : ∀ (l : List T), (∀ y ∈ l, y ∈ t.f4) → ∀ tx : List ByteArray, (rfTL S tx l).2 = tx.drop (txsL S l).length := by
   intro l
   induction l with
   | nil => intro _ tx; rfl
   | cons y l ih2 =>
    intro hm tx
    have hy := ih y (hm y (by simp))
    have h1 : (rf1 S tx y).2 = tx.drop (txs S y).length := by
     obtain ⟨k, n, x, as_, ks⟩ := y
     unfold rf1
     rw [txs]
     by_cases k1 : k = 1
     ·rw [if_pos k1, if_pos k1]
      rfl
     ·rw [if_neg k1, if_neg k1]
      by_cases k0 : k = 0
      ·subst k0
       cases hp : inL S.pr n with
       | true => rw [if_pos (.inr ⟨rfl, rfl⟩), if_pos rfl, if_pos rfl]; rfl
       | false =>
        rw [if_neg (by simp), if_pos rfl, if_pos rfl, if_neg Bool.false_ne_true, rfT]
        exact hy tx
      ·by_cases k2 : k = 2
       ·rw [if_pos (.inl k2), if_neg k0]; rfl
       ·rw [if_neg (by simp [k2, k0]), if_neg k0, if_neg k0]; rfl
    rw [rfTL_cons, txsL, List.length_append, ← List.drop_drop, ← h1]
    exact ih2 (fun z hz => hm z (by simp [hz])) _
  exact hL t.f4 (fun y hy => hy)
end Go.Proofs.Ytmfjbljdbkmkgaa.Dom

/- spec.refilled: what its world is like. -/
namespace Go.Proofs.Ytmfjbljdbkmkgaa.Dom
open Go.RowKit Go.Proofs.YtmfjbljdbkmkgaaW.PrintWords Go.Proofs.YtmfjbljdbkmkgaaW.PrintLast Go.Proofs.YtmfjbljdbkmkgaaW.PrintMore Go.Proofs.Ytmfjbljdbkmkgaa.PDom Go.Proofs.Ytmfjbljdbkmkgaa.Txt Go.Proofs.Ytmfjbljdbkmkgaa.Blank
set_option linter.unusedVariables false
set_option linter.unusedSimpArgs false

/-- The node that is being filled (w.size + 3), the result's (+ 2), the sort (+ 1). -/
structure KR (w wr : World) (P : Nat → Prop) (k : Int) (nm tx : ByteArray) (A3 : Option Addr) (c3 : Nat) (sc : Array Value) (v4 : Value) (l4 : List T) : Prop where
 box : wr.heap[w.heap.size + 3]? = some (.cells #[.int .i64 k, .string nm, .string tx, .slice A3 0 c3, v4] 25 (0, 0))
 res : wr.heap[w.heap.size + 2]? = some (.cells zeroN 25 (0, 0))
 srt : wr.heap[w.heap.size + 1]? = some (.cells sc 37 (0, 0))
 n4 : Kd.N k25 25 wr w.heap.size (fun k => P k ∨ w.heap.size + 4 ≤ k) v4 l4
 on : Below w.heap.size w wr
 out : ∀ k, P k → k < w.heap.size
section
variable {w wr w1 w2 w3 : World} {P : Nat → Prop} {k : Int} {nm tx : ByteArray} {A3 : Option Addr} {c3 : Nat} {sc : Array Value} {v4 v1 : Value} {l4 : List T}
theorem KR.size (h : KR w wr P k nm tx A3 c3 sc v4 l4) : w.heap.size + 4 ≤ wr.heap.size := blk_lt h.box
theorem KR.moved (h : KR w wr P k nm tx A3 c3 sc v4 l4) (hb : Below wr.heap.size wr w1) : KR w w1 P k nm tx A3 c3 sc v4 l4 :=
 ⟨(hb.block _ (blk_lt h.box)).trans h.box, (hb.block _ (blk_lt h.res)).trans h.res, (hb.block _ (blk_lt h.srt)).trans h.srt, Kd.N_below h.n4 hb, h.on.trans (hb.mono (by have := h.size; omega)), h.out⟩
theorem KR.own (h : KR w wr P k nm tx A3 c3 sc v4 l4) : ∀ b, v4.ownBlock = some b → w.heap.size + 4 ≤ b ∧ b < wr.heap.size := fun b e => by
 refine ⟨?_, Kd.N_lt h.n4 b e⟩
 rcases h.n4.1 b e with hp | hp
 ·have h1 := h.out b hp
  have h2 := Kd.N_base h.n4 b e
  omega
 ·exact hp
/-- What is a block of P's, or new, is not the row. -/
theorem KR.apart (h : KR w wr P k nm tx A3 c3 sc v4 l4) : ∀ b, P b ∨ wr.heap.size ≤ b → (P b ∨ w.heap.size + 4 ≤ b) ∧ some b ≠ v4.ownBlock := fun b hb => by
 have hs := h.size
 refine ⟨hb.imp_right (fun h => by omega), fun e => ?_⟩
 obtain ⟨h1, h2⟩ := h.own b e.symm
 rcases hb with hb | hb
 ·have := h.out b hb; omega
 ·omega
theorem KR.kid (h : KR w w2 P k nm tx A3 c3 sc v4 l4) {ys : List T} (ho : Kd.N k25 25 w3 w.heap.size (fun k => P k ∨ w.heap.size + 4 ≤ k) v1 ys) (hb3 : Below w.heap.size w2 w3) (hg : w2.grownBy w3 v4.ownBlock) :
  w3.cell? ⟨w.heap.size + 3, 4, none⟩ = some v4 ∧ w3.frozen? ⟨w.heap.size + 3, 4, none⟩ = false ∧ KR w (w3.setCell ⟨w.heap.size + 3, 4, none⟩ v1) P k nm tx A3 c3 sc v1 ys := by
 have n3 : some (w.heap.size + 3) ≠ v4.ownBlock := fun e => by have := h.own _ e.symm; omega
 have n2 : some (w.heap.size + 2) ≠ v4.ownBlock := fun e => by have := h.own _ e.symm; omega
 have n1 : some (w.heap.size + 1) ≠ v4.ownBlock := fun e => by have := h.own _ e.symm; omega
 have b3 := grown_kept hg h.box n3
 refine ⟨blk_cell b3 4, blk_frozen b3 4, blk_set b3 4 _, (Below.heap_setCell w3 _ _ _ (by show w.heap.size + 2 ≠ w.heap.size + 3; omega)).trans (grown_kept hg h.res n2), (Below.heap_setCell w3 _ _ _ (by show w.heap.size + 1 ≠ w.heap.size + 3; omega)).trans (grown_kept hg h.srt n1), ?_, ?_, h.out⟩
 ·refine Kd.N_far ho (fun k hk => ?_) _
  show k ≠ w.heap.size + 3
  rcases hk with hk | hk
  ·have := h.out k hk; omega
  ·omega
 ·exact h.on.trans (Below.setCell hb3 (p := ⟨w.heap.size + 3, 4, none⟩) (by show w.heap.size ≤ w.heap.size + 3; omega) _)
end
/-- What spec.refilled answers: a node and the texts that are left. -/
def Refd (w w' : World) (P : Nat → Prop) (A3 : Option Addr) (c3 : Nat) (u : T) (r : List ByteArray) (e : Ending) : Prop := ∃ A4 c4 V cV, e = .returned (.tuple #[.agg #[.int .i64 u.f0, .string u.f1, .string u.f2, .slice A3 0 c3, .slice A4 u.f4.length c4], .slice V r.length cV]) ∧ u.f3 = [] ∧ u.f4.length ≤ c4 ∧ Kd.N k25 25 w' w.heap.size (fun k => P k ∨ w.heap.size ≤ k) (.slice A4 u.f4.length c4) u.f4 ∧ r.length ≤ cV ∧ Kd.F Kd.string w' P V r.length r ∧ Below w.heap.size w w'
theorem F_drop {W : World} {P : Nat → Prop} {V : Option Addr} {l : List ByteArray} {c m : Nat} (h : Kd.F Kd.string W P V l.length l) (hm : m ≤ l.length) (hc : l.length ≤ c) : Kd.F Kd.string W P (if c = m then V else V.map (·.add (m * 1))) (l.drop m).length (l.drop m) :=
 Kd.F_imp h (fun W' hC => Kd.C_drop hC hm hc)
end Go.Proofs.Ytmfjbljdbkmkgaa.Dom
