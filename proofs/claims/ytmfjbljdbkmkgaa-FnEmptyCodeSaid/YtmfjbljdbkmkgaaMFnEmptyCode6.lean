/- A part of the proof of FnEmptyCode: FEmp, one behind the other. -/
import Derived.Test.YtmfjbljdbkmkgaaMFnEmptyCode2
import Derived.Test.YtmfjbljdbkmkgaaMFnEmptyCode3
import Derived.Test.YtmfjbljdbkmkgaaMFnEmptyCode4
import Derived.Test.YtmfjbljdbkmkgaaMFnEmptyCode5
/- Printed by the program extprint.py of this session, out of the kit's print and contracts of this session's own; Lean checks it. -/
namespace Go.Proofs.Ytmfjbljdbkmkgaa.PDom
open Go.RowKit Go.Proofs.YtmfjbljdbkmkgaaW.PrintWords Go.Proofs.YtmfjbljdbkmkgaaW.PrintLast Go.Proofs.YtmfjbljdbkmkgaaW.PrintMore
attribute [local go_sem] max2_int min2_int max_two min_two max_three min_three max_four min_four   -- for this text's walks alone
set_option linter.unusedVariables false
set_option linter.unusedSimpArgs false


/-! ### laws_FnEmptyCode: function 4 -/
def laws_FnEmptyCode.f (k : Nat) (a0_0 : Int) (a0_1 : ByteArray) (a0_2 : ByteArray) (l0_3 : List (S53)) (l0_4 : List (S25)) : Option (Bool) := (laws_zzFits2.f k a0_0 a0_1 a0_2 l0_3 l0_4).bind fun t200 => (if t200 = true then ((laws_inlineCutTree.f k a0_0 a0_1 a0_2 l0_3 l0_4).bind fun bt201 => ((impl_EmptyCode.f k bt201.1 bt201.2.1 bt201.2.2.1 bt201.2.2.2.1 bt201.2.2.2.2).bind fun bt210 => ((spec_TextOf.f k bt210.1 bt210.2.1 bt210.2.2.1 bt210.2.2.2.1 bt210.2.2.2.2).bind fun t220 => ((spec_Solid.f k t220).bind fun t221 => ((spec_TextOf.f k bt201.1 bt201.2.1 bt201.2.2.1 bt201.2.2.2.1 bt201.2.2.2.2).bind fun t222 => ((spec_Solid.f k t222).bind fun t223 => (if t221.toList = t223.toList then ((laws_inlineHas.f k bt201.1 bt201.2.1 bt201.2.2.1 bt201.2.2.2.1 bt201.2.2.2.2 (([(⟨#[99, 111, 100, 101]⟩ : ByteArray), (⟨#[112, 114, 101]⟩ : ByteArray)] : List ByteArray))).bind fun t227 => (if t227 = true then ((laws_inlineLives.f k).bind fun t228 => (some t228)) else ((spec_SameTree.f k bt210.1 bt210.2.1 bt210.2.2.1 bt210.2.2.2.1 bt210.2.2.2.2 bt201.1 bt201.2.1 bt201.2.2.1 bt201.2.2.2.1 bt201.2.2.2.2).bind fun t229 => (if t229 = true then ((laws_inlineLives.f k).bind fun t230 => (some t230)) else (some false))))) else (some false)))))))) else (some true))
theorem laws_FnEmptyCode.mono : ∀ a0 a1 a2 a3 a4 k, LeO (laws_FnEmptyCode.f k a0 a1 a2 a3 a4) (laws_FnEmptyCode.f (k + 1) a0 a1 a2 a3 a4) := by
  intro a0 a1 a2 a3 a4 k
  unfold laws_FnEmptyCode.f
  repeat' first
      | (with_reducible exact impl_EmptyCode.mono _ _ _ _ _ _)
      | (with_reducible exact laws_inlineCutTree.mono _ _ _ _ _ _)
      | (with_reducible exact laws_inlineHas.mono _ _ _ _ _ _ _)
      | (with_reducible exact laws_inlineLives.mono _)
      | (with_reducible exact laws_zzFits2.mono _ _ _ _ _ _)
      | (with_reducible exact spec_SameTree.mono _ _ _ _ _ _ _ _ _ _ _)
      | (with_reducible exact spec_Solid.mono _ _)
      | (with_reducible exact spec_TextOf.mono _ _ _ _ _ _)
      | (with_reducible exact LeO.refl _)
      | (with_reducible exact LeO.none _)
      | (with_reducible refine LeO.ite ?_ ?_)
      | (with_reducible refine LeO.bind ?_ (fun _ => ?_))
      | exact impl_EmptyCode.mono _ _ _ _ _ _
      | exact laws_inlineCutTree.mono _ _ _ _ _ _
      | exact laws_inlineHas.mono _ _ _ _ _ _ _
      | exact laws_inlineLives.mono _
      | exact laws_zzFits2.mono _ _ _ _ _ _
      | exact spec_SameTree.mono _ _ _ _ _ _ _ _ _ _ _
      | exact spec_Solid.mono _ _
      | exact spec_TextOf.mono _ _ _ _ _ _
      | exact LeO.none _
      | refine LeO.ite ?_ ?_
      | refine LeO.bind ?_ (fun _ => ?_)
def laws_FnEmptyCode.T5 : Bool × List (List Nat × List Nat) := (true, [([], []), ([0], [0]), ([1, 1], [1]), ([], []), ([3, 2], [3]), ([4, 4], [4]), ([2, 5], [2, 5]), ([6, 5], [6]), ([7], [7]), ([7], [7]), ([8, 9, 7, 7], [7, 8, 9]), ([10, 10, 7], [7, 10]), ([11], [11]), ([11], [11]), ([12, 13, 11, 11], [11, 12, 13]), ([11, 14, 7], [7, 11, 14]), ([7, 15], [7, 15]), ([16, 14], [16]), ([17, 17], [17]), ([17, 18], [17, 18]), ([19, 18, 0, 1, 2, 3, 4, 5, 6, 7, 8, 9, 10, 11, 12, 13, 14, 15, 16, 17, 18, 19], [19])])
def laws_FnEmptyCode.B5 : List Nat := [0, 1, 3, 0, 15, 31, 63, 127, 255, 255, 1023, 2047, 4095, 4095, 16383, 32767, 65535, 131071, 262143, 524287, 1048575]
theorem laws_FnEmptyCode.tab5 : rtab .any (opsOf Try.f4 5) = laws_FnEmptyCode.T5 := by kernel_rfl
theorem laws_FnEmptyCode.bits5 : waitsOk laws_FnEmptyCode.T5.2 laws_FnEmptyCode.B5 = true := by kernel_rfl
set_option maxHeartbeats 8000000 in
set_option maxRecDepth 100000 in
theorem laws_FnEmptyCode.calls (k : Nat) (a0_0 : Int) (a0_1 : ByteArray) (a0_2 : ByteArray) (A0_3 : Option Addr) (c0_3 : Nat) (l0_3 : List (S53)) (A0_4 : Option Addr) (c0_4 : Nat) (l0_4 : List (S25)) (r : Bool) (w : World) (hr0_3 : Kd.C k53 w A0_3 l0_3.length l0_3) (hc0_3 : l0_3.length ≤ c0_3) (hr0_4 : Kd.C k25 w A0_4 l0_4.length l0_4) (hc0_4 : l0_4.length ≤ c0_4) (h : laws_FnEmptyCode.f k a0_0 a0_1 a0_2 l0_3 l0_4 = some r) :
    Calls Try.prog 4 #[.agg #[.int .i64 a0_0, .string a0_1, .string a0_2, .slice A0_3 l0_3.length c0_3, .slice A0_4 l0_4.length c0_4]] w fun e w' => e = .returned (.bool r) ∧ Below w.heap.size w w' := by
  have hu25 := Try.underlying25
  have HR0_3 := Aside0.mk hr0_3
  have HC0_3 := Aside0.mk hc0_3
  clear hr0_3 hc0_3
  have HR0_4 := Aside0.mk hr0_4
  have HC0_4 := Aside0.mk hc0_4
  clear hr0_4 hc0_4
  have HB := Aside0.mk (Below.refl w.heap.size w)
  have H : ((laws_zzFits2.f k a0_0 a0_1 a0_2 l0_3 l0_4).bind fun t200 => (if t200 = true then ((laws_inlineCutTree.f k a0_0 a0_1 a0_2 l0_3 l0_4).bind fun bt201 => ((impl_EmptyCode.f k bt201.1 bt201.2.1 bt201.2.2.1 bt201.2.2.2.1 bt201.2.2.2.2).bind fun bt210 => ((spec_TextOf.f k bt210.1 bt210.2.1 bt210.2.2.1 bt210.2.2.2.1 bt210.2.2.2.2).bind fun t220 => ((spec_Solid.f k t220).bind fun t221 => ((spec_TextOf.f k bt201.1 bt201.2.1 bt201.2.2.1 bt201.2.2.2.1 bt201.2.2.2.2).bind fun t222 => ((spec_Solid.f k t222).bind fun t223 => (if t221.toList = t223.toList then ((laws_inlineHas.f k bt201.1 bt201.2.1 bt201.2.2.1 bt201.2.2.2.1 bt201.2.2.2.2 (([(⟨#[99, 111, 100, 101]⟩ : ByteArray), (⟨#[112, 114, 101]⟩ : ByteArray)] : List ByteArray))).bind fun t227 => (if t227 = true then ((laws_inlineLives.f k).bind fun t228 => (some t228)) else ((spec_SameTree.f k bt210.1 bt210.2.1 bt210.2.2.1 bt210.2.2.2.1 bt210.2.2.2.2 bt201.1 bt201.2.1 bt201.2.2.1 bt201.2.2.2.1 bt201.2.2.2.2).bind fun t229 => (if t229 = true then ((laws_inlineLives.f k).bind fun t230 => (some t230)) else (some false))))) else (some false)))))))) else (some true))) = some r := h
  clear h
  replace H := Option.bind_eq_some_iff.mp H
  obtain ⟨t200, A20, H⟩ := H
  replace H : (if t200 = true then ((laws_inlineCutTree.f k a0_0 a0_1 a0_2 l0_3 l0_4).bind fun bt201 => ((impl_EmptyCode.f k bt201.1 bt201.2.1 bt201.2.2.1 bt201.2.2.2.1 bt201.2.2.2.2).bind fun bt210 => ((spec_TextOf.f k bt210.1 bt210.2.1 bt210.2.2.1 bt210.2.2.2.1 bt210.2.2.2.2).bind fun t220 => ((spec_Solid.f k t220).bind fun t221 => ((spec_TextOf.f k bt201.1 bt201.2.1 bt201.2.2.1 bt201.2.2.2.1 bt201.2.2.2.2).bind fun t222 => ((spec_Solid.f k t222).bind fun t223 => (if t221.toList = t223.toList then ((laws_inlineHas.f k bt201.1 bt201.2.1 bt201.2.2.1 bt201.2.2.2.1 bt201.2.2.2.2 (([(⟨#[99, 111, 100, 101]⟩ : ByteArray), (⟨#[112, 114, 101]⟩ : ByteArray)] : List ByteArray))).bind fun t227 => (if t227 = true then ((laws_inlineLives.f k).bind fun t228 => (some t228)) else ((spec_SameTree.f k bt210.1 bt210.2.1 bt210.2.2.1 bt210.2.2.2.1 bt210.2.2.2.2 bt201.1 bt201.2.1 bt201.2.2.1 bt201.2.2.2.1 bt201.2.2.2.2).bind fun t229 => (if t229 = true then ((laws_inlineLives.f k).bind fun t230 => (some t230)) else (some false))))) else (some false)))))))) else (some true)) = some r := H
  have A2 := Aside0.mk A20
  clear A20
  by_cases c3 : t200 = true
  · subst c3
    have H1 : ((laws_inlineCutTree.f k a0_0 a0_1 a0_2 l0_3 l0_4).bind fun bt201 => ((impl_EmptyCode.f k bt201.1 bt201.2.1 bt201.2.2.1 bt201.2.2.2.1 bt201.2.2.2.2).bind fun bt210 => ((spec_TextOf.f k bt210.1 bt210.2.1 bt210.2.2.1 bt210.2.2.2.1 bt210.2.2.2.2).bind fun t220 => ((spec_Solid.f k t220).bind fun t221 => ((spec_TextOf.f k bt201.1 bt201.2.1 bt201.2.2.1 bt201.2.2.2.1 bt201.2.2.2.2).bind fun t222 => ((spec_Solid.f k t222).bind fun t223 => (if t221.toList = t223.toList then ((laws_inlineHas.f k bt201.1 bt201.2.1 bt201.2.2.1 bt201.2.2.2.1 bt201.2.2.2.2 (([(⟨#[99, 111, 100, 101]⟩ : ByteArray), (⟨#[112, 114, 101]⟩ : ByteArray)] : List ByteArray))).bind fun t227 => (if t227 = true then ((laws_inlineLives.f k).bind fun t228 => (some t228)) else ((spec_SameTree.f k bt210.1 bt210.2.1 bt210.2.2.1 bt210.2.2.2.1 bt210.2.2.2.2 bt201.1 bt201.2.1 bt201.2.2.1 bt201.2.2.2.1 bt201.2.2.2.2).bind fun t229 => (if t229 = true then ((laws_inlineLives.f k).bind fun t230 => (some t230)) else (some false))))) else (some false)))))))) = some r := by rw [if_pos rfl] at H; exact H
    clear H
    have H := H1
    clear H1
    replace H := Option.bind_eq_some_iff.mp H
    obtain ⟨⟨t201, t202, t203, t204, t207⟩, A40, H⟩ := H
    replace H : ((impl_EmptyCode.f k t201 t202 t203 t204 t207).bind fun bt210 => ((spec_TextOf.f k bt210.1 bt210.2.1 bt210.2.2.1 bt210.2.2.2.1 bt210.2.2.2.2).bind fun t220 => ((spec_Solid.f k t220).bind fun t221 => ((spec_TextOf.f k t201 t202 t203 t204 t207).bind fun t222 => ((spec_Solid.f k t222).bind fun t223 => (if t221.toList = t223.toList then ((laws_inlineHas.f k t201 t202 t203 t204 t207 (([(⟨#[99, 111, 100, 101]⟩ : ByteArray), (⟨#[112, 114, 101]⟩ : ByteArray)] : List ByteArray))).bind fun t227 => (if t227 = true then ((laws_inlineLives.f k).bind fun t228 => (some t228)) else ((spec_SameTree.f k bt210.1 bt210.2.1 bt210.2.2.1 bt210.2.2.2.1 bt210.2.2.2.2 t201 t202 t203 t204 t207).bind fun t229 => (if t229 = true then ((laws_inlineLives.f k).bind fun t230 => (some t230)) else (some false))))) else (some false))))))) = some r := H
    have A4 := Aside0.mk A40
    clear A40
    replace H := Option.bind_eq_some_iff.mp H
    obtain ⟨⟨t210, t211, t212, t213, t216⟩, A50, H⟩ := H
    replace H : ((spec_TextOf.f k t210 t211 t212 t213 t216).bind fun t220 => ((spec_Solid.f k t220).bind fun t221 => ((spec_TextOf.f k t201 t202 t203 t204 t207).bind fun t222 => ((spec_Solid.f k t222).bind fun t223 => (if t221.toList = t223.toList then ((laws_inlineHas.f k t201 t202 t203 t204 t207 (([(⟨#[99, 111, 100, 101]⟩ : ByteArray), (⟨#[112, 114, 101]⟩ : ByteArray)] : List ByteArray))).bind fun t227 => (if t227 = true then ((laws_inlineLives.f k).bind fun t228 => (some t228)) else ((spec_SameTree.f k t210 t211 t212 t213 t216 t201 t202 t203 t204 t207).bind fun t229 => (if t229 = true then ((laws_inlineLives.f k).bind fun t230 => (some t230)) else (some false))))) else (some false)))))) = some r := H
    have A5 := Aside0.mk A50
    clear A50
    replace H := Option.bind_eq_some_iff.mp H
    obtain ⟨t220, A60, H⟩ := H
    replace H : ((spec_Solid.f k t220).bind fun t221 => ((spec_TextOf.f k t201 t202 t203 t204 t207).bind fun t222 => ((spec_Solid.f k t222).bind fun t223 => (if t221.toList = t223.toList then ((laws_inlineHas.f k t201 t202 t203 t204 t207 (([(⟨#[99, 111, 100, 101]⟩ : ByteArray), (⟨#[112, 114, 101]⟩ : ByteArray)] : List ByteArray))).bind fun t227 => (if t227 = true then ((laws_inlineLives.f k).bind fun t228 => (some t228)) else ((spec_SameTree.f k t210 t211 t212 t213 t216 t201 t202 t203 t204 t207).bind fun t229 => (if t229 = true then ((laws_inlineLives.f k).bind fun t230 => (some t230)) else (some false))))) else (some false))))) = some r := H
    have A6 := Aside0.mk A60
    clear A60
    replace H := Option.bind_eq_some_iff.mp H
    obtain ⟨t221, A70, H⟩ := H
    replace H : ((spec_TextOf.f k t201 t202 t203 t204 t207).bind fun t222 => ((spec_Solid.f k t222).bind fun t223 => (if t221.toList = t223.toList then ((laws_inlineHas.f k t201 t202 t203 t204 t207 (([(⟨#[99, 111, 100, 101]⟩ : ByteArray), (⟨#[112, 114, 101]⟩ : ByteArray)] : List ByteArray))).bind fun t227 => (if t227 = true then ((laws_inlineLives.f k).bind fun t228 => (some t228)) else ((spec_SameTree.f k t210 t211 t212 t213 t216 t201 t202 t203 t204 t207).bind fun t229 => (if t229 = true then ((laws_inlineLives.f k).bind fun t230 => (some t230)) else (some false))))) else (some false)))) = some r := H
    have A7 := Aside0.mk A70
    clear A70
    replace H := Option.bind_eq_some_iff.mp H
    obtain ⟨t222, A80, H⟩ := H
    replace H : ((spec_Solid.f k t222).bind fun t223 => (if t221.toList = t223.toList then ((laws_inlineHas.f k t201 t202 t203 t204 t207 (([(⟨#[99, 111, 100, 101]⟩ : ByteArray), (⟨#[112, 114, 101]⟩ : ByteArray)] : List ByteArray))).bind fun t227 => (if t227 = true then ((laws_inlineLives.f k).bind fun t228 => (some t228)) else ((spec_SameTree.f k t210 t211 t212 t213 t216 t201 t202 t203 t204 t207).bind fun t229 => (if t229 = true then ((laws_inlineLives.f k).bind fun t230 => (some t230)) else (some false))))) else (some false))) = some r := H
    have A8 := Aside0.mk A80
    clear A80
    replace H := Option.bind_eq_some_iff.mp H
    obtain ⟨t223, A90, H⟩ := H
    replace H : (if t221.toList = t223.toList then ((laws_inlineHas.f k t201 t202 t203 t204 t207 (([(⟨#[99, 111, 100, 101]⟩ : ByteArray), (⟨#[112, 114, 101]⟩ : ByteArray)] : List ByteArray))).bind fun t227 => (if t227 = true then ((laws_inlineLives.f k).bind fun t228 => (some t228)) else ((spec_SameTree.f k t210 t211 t212 t213 t216 t201 t202 t203 t204 t207).bind fun t229 => (if t229 = true then ((laws_inlineLives.f k).bind fun t230 => (some t230)) else (some false))))) else (some false)) = some r := H
    have A9 := Aside0.mk A90
    clear A90
    by_cases c10 : t221.toList = t223.toList
    · rw [if_pos c10] at H
      have c10b0 : (t221.toList == t223.toList) = true := beq_iff_eq.mpr c10
      have c10b1 : (t221.toList != t223.toList) = false := bne_eq_false_iff_eq.mpr c10
      clear c10
      obtain ⟨y224, hy224⟩ : ∃ y_ : List ByteArray, y_ = (([(⟨#[99, 111, 100, 101]⟩ : ByteArray), (⟨#[112, 114, 101]⟩ : ByteArray)] : List ByteArray)) := ⟨_, rfl⟩
      replace H : ((laws_inlineHas.f k t201 t202 t203 t204 t207 y224).bind fun t227 => (if t227 = true then ((laws_inlineLives.f k).bind fun t228 => (some t228)) else ((spec_SameTree.f k t210 t211 t212 t213 t216 t201 t202 t203 t204 t207).bind fun t229 => (if t229 = true then ((laws_inlineLives.f k).bind fun t230 => (some t230)) else (some false))))) = some r := by first | (rw [hy224]; with_reducible exact H) | (have H2_ := (Option.bind_some _ _).symm.trans H; rw [hy224]; with_reducible exact H2_) | (have H2_ := (Option.bind_some _ _).symm.trans H; with_reducible exact H2_) | with_reducible exact H | (rw [hy224]; exact H) | exact H
      have Ny224 := Aside0.mk hy224
      clear hy224
      replace H := Option.bind_eq_some_iff.mp H
      obtain ⟨t227, A110, H⟩ := H
      replace H : (if t227 = true then ((laws_inlineLives.f k).bind fun t228 => (some t228)) else ((spec_SameTree.f k t210 t211 t212 t213 t216 t201 t202 t203 t204 t207).bind fun t229 => (if t229 = true then ((laws_inlineLives.f k).bind fun t230 => (some t230)) else (some false)))) = some r := H
      have A11 := Aside0.mk A110
      clear A110
      by_cases c12 : t227 = true
      · subst c12
        have H1 : ((laws_inlineLives.f k).bind fun t228 => (some t228)) = some r := by rw [if_pos rfl] at H; exact H
        clear H
        have H := H1
        clear H1
        replace H := Option.bind_eq_some_iff.mp H
        obtain ⟨t228, A130, H⟩ := H
        replace H : (some t228) = some r := H
        have A13 := Aside0.mk A130
        clear A130
        obtain rfl := Option.some.inj H
        go_enter Try.func4, Try.ntmps4
        try go_wp2_with (first | ((with_reducible refine gate_dst (N := 1) rfl ?_); (try (refine gate_guard (by rfl) ?_; dsimp only)); refine box_event ?hg (N := 1) ?hd (cs := #[.int .i64 a0_0, .string a0_1, .string a0_2, .slice A0_3 l0_3.length c0_3, .slice A0_4 l0_4.length c0_4]) (t := 25) ?hr ?_; (case hd => rfl); (case hg => rfl); (case hr => first | (go_simp; done) | (go_simp; rfl)); intro gb199 hg w14 hbox hb; have n0_ := Aside0.mk (below_step (by repeat (first | (with_reducible first | exact HB.out | apply below_alloc | apply pw_below_drewN | apply below_drew1) | exact HB.out)) hb); have n1_ := Aside0.mk (hbox); have n2_ := Aside0.mk ((by rw [hg]; exact (below_size (by repeat (first | (with_reducible first | exact HB.out | apply below_alloc | apply pw_below_drewN | apply below_drew1) | exact HB.out))) : w.heap.size ≤ gb199)); have n3_ := Aside0.mk ((by rw [hg]; exact (below_size (by repeat (first | (with_reducible first | exact HB.out | apply below_alloc | apply pw_below_drewN | apply below_drew1) | exact HB.out))) : w.heap.size ≤ gb199)); clear HB; have HB := n0_; have BK199 := n1_; have GW199 := n2_; have GE199 := n3_; clear n0_ n1_ n2_ n3_; clear hb hbox hg; have hcz15_0 : w14.cell? ⟨gb199, 0, none⟩ = some (.int .i64 a0_0) := (blk_cell BK199.out 0).trans rfl; have hcz15_1 : w14.cell? ⟨gb199, 1, none⟩ = some (.string a0_1) := (blk_cell BK199.out 1).trans rfl; have hcz15_2 : w14.cell? ⟨gb199, 2, none⟩ = some (.string a0_2) := (blk_cell BK199.out 2).trans rfl; have hcz15_3 : w14.cell? ⟨gb199, 3, none⟩ = some (.slice A0_3 l0_3.length c0_3) := (blk_cell BK199.out 3).trans rfl; have hcz15_4 : w14.cell? ⟨gb199, 4, none⟩ = some (.slice A0_4 l0_4.length c0_4) := (blk_cell BK199.out 4).trans rfl; have hfz15_0 := blk_frozen BK199.out 0; have hfz15_1 := blk_frozen BK199.out 1; have hfz15_2 := blk_frozen BK199.out 2; have hfz15_3 := blk_frozen BK199.out 3; have hfz15_4 := blk_frozen BK199.out 4) | ((with_reducible refine gate_callee (f := 9) rfl ?_); refine goesL_ (some 5) rfl rfl Try.func9 (by kernel_rfl) rfl #[.agg #[.int .i64 a0_0, .string a0_1, .string a0_2, .slice A0_3 l0_3.length c0_3, .slice A0_4 l0_4.length c0_4]] rfl (by (try simp only [List.map_toArray, List.map_cons, List.map_nil]); first | done | rfl | (simp only [List.length_drop, List.length_take]; rfl)) ?_; (with_reducible refine (laws_zzFits2.calls k a0_0 a0_1 a0_2 _ _ l0_3 _ _ l0_4 true _ ?side1 ?side2 ?side3 ?side4 A2.out).mono ?_); (case side1 => repeat (first | exact (Kd.C_below HR0_3.out HB.out) | (with_reducible refine Kd.C_alloc ?_ _) | (with_reducible refine Kd.C_drewN ?_ _) | (with_reducible refine Kd.C_drew ?_))); (case side2 => exact HC0_3.out); (case side3 => repeat (first | exact (Kd.C_below HR0_4.out HB.out) | (with_reducible refine Kd.C_alloc ?_ _) | (with_reducible refine Kd.C_drewN ?_ _) | (with_reducible refine Kd.C_drew ?_))); (case side4 => exact HC0_4.out); rintro e w16 ⟨rfl, hb⟩; refine ⟨_, rfl, ?_⟩; have n0_ := Aside0.mk (blk_below (g := gb199) (o := .cells #[.int .i64 a0_0, .string a0_1, .string a0_2, .slice A0_3 l0_3.length c0_3, .slice A0_4 l0_4.length c0_4] 25 (0, 0)) (by (with_reducible repeat (first | refine blk_drewN ?_ _ | refine blk_drew ?_ | refine blk_alloc ?_ _)); exact BK199.out) hb); have n1_ := Aside0.mk (below_step (by repeat (first | (with_reducible first | exact HB.out | apply below_alloc | apply pw_below_drewN | apply below_drew1 | refine below_set ?_ GE199.out) | exact HB.out)) hb); clear BK199; clear HB; have BK199 := n0_; have HB := n1_; clear n0_ n1_; (try clear hb); (try clear hb2); (try clear hk); (try clear hi); have hcz17_0 : w16.cell? ⟨gb199, 0, none⟩ = some (.int .i64 a0_0) := (blk_cell BK199.out 0).trans rfl; have hcz17_1 : w16.cell? ⟨gb199, 1, none⟩ = some (.string a0_1) := (blk_cell BK199.out 1).trans rfl; have hcz17_2 : w16.cell? ⟨gb199, 2, none⟩ = some (.string a0_2) := (blk_cell BK199.out 2).trans rfl; have hcz17_3 : w16.cell? ⟨gb199, 3, none⟩ = some (.slice A0_3 l0_3.length c0_3) := (blk_cell BK199.out 3).trans rfl; have hcz17_4 : w16.cell? ⟨gb199, 4, none⟩ = some (.slice A0_4 l0_4.length c0_4) := (blk_cell BK199.out 4).trans rfl; have hfz17_0 := blk_frozen BK199.out 0; have hfz17_1 := blk_frozen BK199.out 1; have hfz17_2 := blk_frozen BK199.out 2; have hfz17_3 := blk_frozen BK199.out 3; have hfz17_4 := blk_frozen BK199.out 4) | ((with_reducible refine gate_callee (f := 10) rfl ?_); refine goesL_ (some 8) rfl rfl Try.func10 (by kernel_rfl) rfl #[.agg #[.int .i64 a0_0, .string a0_1, .string a0_2, .slice A0_3 l0_3.length c0_3, .slice A0_4 l0_4.length c0_4]] rfl (by (try simp only [List.map_toArray, List.map_cons, List.map_nil]); first | done | rfl | (simp only [List.length_drop, List.length_take]; rfl)) ?_; (with_reducible refine (laws_inlineCutTree.calls k a0_0 a0_1 a0_2 _ _ l0_3 _ _ l0_4 t201 t202 t203 t204 t207 _ ?side1 ?side2 ?side3 ?side4 A4.out).mono ?_); (case side1 => repeat (first | exact (Kd.C_below HR0_3.out HB.out) | (with_reducible refine Kd.C_alloc ?_ _) | (with_reducible refine Kd.C_drewN ?_ _) | (with_reducible refine Kd.C_drew ?_))); (case side2 => exact HC0_3.out); (case side3 => repeat (first | exact (Kd.C_below HR0_4.out HB.out) | (with_reducible refine Kd.C_alloc ?_ _) | (with_reducible refine Kd.C_drewN ?_ _) | (with_reducible refine Kd.C_drew ?_))); (case side4 => exact HC0_4.out); rintro e w18 ⟨v205, v208, rfl, ho0, ho1, hb⟩; refine ⟨_, rfl, ?_⟩; have n0_ := Aside0.mk (Kd.R_lower (Kd.R_mono (ok' := fun k_ => True) ho0 (fun _ hk_ => trivial)) (below_size (by repeat (first | (with_reducible first | exact HB.out | apply below_alloc | apply pw_below_drewN | apply below_drew1 | refine below_set ?_ GE199.out) | exact HB.out)))); have n1_ := Aside0.mk (Kd.N_lower (Kd.N_mono (ok' := fun k_ => some k_ ≠ (v205 : Value).ownBlock ∧ k_ ≠ gb199) ho1 (fun k_ hk_ => ⟨hk_.2, (Kd.freshB (g := gb199) (o := .cells #[.int .i64 a0_0, .string a0_1, .string a0_2, .slice A0_3 l0_3.length c0_3, .slice A0_4 l0_4.length c0_4] 25 (0, 0)) (by (with_reducible repeat (first | refine blk_drewN ?_ _ | refine blk_drew ?_ | refine blk_alloc ?_ _)); exact BK199.out) k_ hk_.1)⟩)) (below_size (by repeat (first | (with_reducible first | exact HB.out | apply below_alloc | apply pw_below_drewN | apply below_drew1 | refine below_set ?_ GE199.out) | exact HB.out)))); have n2_ := Aside0.mk (blk_below (g := gb199) (o := .cells #[.int .i64 a0_0, .string a0_1, .string a0_2, .slice A0_3 l0_3.length c0_3, .slice A0_4 l0_4.length c0_4] 25 (0, 0)) (by (with_reducible repeat (first | refine blk_drewN ?_ _ | refine blk_drew ?_ | refine blk_alloc ?_ _)); exact BK199.out) hb); have n3_ := Aside0.mk (below_step (by repeat (first | (with_reducible first | exact HB.out | apply below_alloc | apply pw_below_drewN | apply below_drew1 | refine below_set ?_ GE199.out) | exact HB.out)) hb); clear BK199; clear HB; have HO206 := n0_; have HO209 := n1_; have BK199 := n2_; have HB := n3_; clear n0_ n1_ n2_ n3_; (try clear hb); (try clear hb2); (try clear hk); (try clear hi); (try clear ho0); (try clear ho1); have hcz19_0 : w18.cell? ⟨gb199, 0, none⟩ = some (.int .i64 a0_0) := (blk_cell BK199.out 0).trans rfl; have hcz19_1 : w18.cell? ⟨gb199, 1, none⟩ = some (.string a0_1) := (blk_cell BK199.out 1).trans rfl; have hcz19_2 : w18.cell? ⟨gb199, 2, none⟩ = some (.string a0_2) := (blk_cell BK199.out 2).trans rfl; have hcz19_3 : w18.cell? ⟨gb199, 3, none⟩ = some (.slice A0_3 l0_3.length c0_3) := (blk_cell BK199.out 3).trans rfl; have hcz19_4 : w18.cell? ⟨gb199, 4, none⟩ = some (.slice A0_4 l0_4.length c0_4) := (blk_cell BK199.out 4).trans rfl; have hfz19_0 := blk_frozen BK199.out 0; have hfz19_1 := blk_frozen BK199.out 1; have hfz19_2 := blk_frozen BK199.out 2; have hfz19_3 := blk_frozen BK199.out 3; have hfz19_4 := blk_frozen BK199.out 4; obtain ⟨Ao20, co20, eo20⟩ := Kd.R_slice HO206.out; subst eo20; obtain ⟨Ao21, co21, eo21⟩ := Kd.N_slice HO209.out; subst eo21) | ((with_reducible refine gate_callee (f := 16) rfl ?_); refine goesL_ (some 10) rfl rfl Try.func16 (by kernel_rfl) rfl #[.agg #[.int .i64 t201, .string t202, .string t203, .slice Ao20 t204.length co20, .slice Ao21 t207.length co21]] rfl (by (try simp only [List.map_toArray, List.map_cons, List.map_nil]); first | done | rfl | (simp only [List.length_drop, List.length_take]; rfl)) ?_; (with_reducible refine (impl_EmptyCode.calls k t201 t202 t203 _ _ t204 _ _ t207 t210 t211 t212 t213 t216 _ ?side1 ?side2 ?side3 ?side4 A5.out).mono ?_); (case side1 => refine (Kd.R_reads' (e := 53) (base := w.heap.size) (ok := fun k_ => True) (n := t204.length) (c := co20) ?_).2.2; exact (by (with_reducible repeat (first | apply Kd.R_alloc | apply Kd.R_drewN | apply Kd.R_drew)); exact (Kd.R_mono (Kd.R_far (p := ⟨gb199, 4, none⟩) (Kd.R_far (p := ⟨gb199, 3, none⟩) (Kd.R_far (p := ⟨gb199, 2, none⟩) (Kd.R_far (p := ⟨gb199, 1, none⟩) (Kd.R_far (p := ⟨gb199, 0, none⟩) (Kd.R_types HO206.out BK199.out (by decide)) (fun _ hk => hk.2) (.int .i64 t201)) (fun _ hk => hk.2) (.string t202)) (fun _ hk => hk.2) (.string t203)) (fun _ hk => hk.2) (.slice Ao20 t204.length co20)) (fun _ hk => hk.2) (.slice Ao21 t207.length co21)) (fun _ h_ => h_.1)))); (case side2 => exact (Kd.R_reads' HO206.out).2.1); (case side3 => refine (Kd.N_reads' (e := 25) (base := w.heap.size) (ok := fun k_ => (some k_ ≠ (.slice Ao20 t204.length co20 : Value).ownBlock ∧ k_ ≠ gb199)) (n := t207.length) (c := co21) ?_).2.2; exact (by (with_reducible repeat (first | apply Kd.N_alloc | apply Kd.N_drewN | apply Kd.N_drew)); exact (Kd.N_mono (Kd.N_far (p := ⟨gb199, 4, none⟩) (Kd.N_far (p := ⟨gb199, 3, none⟩) (Kd.N_far (p := ⟨gb199, 2, none⟩) (Kd.N_far (p := ⟨gb199, 1, none⟩) (Kd.N_far (p := ⟨gb199, 0, none⟩) (Kd.N_mono HO209.out (fun k_ hk => (⟨hk, hk.2⟩ : _ ∧ k_ ≠ gb199))) (fun _ hk => hk.2) (.int .i64 t201)) (fun _ hk => hk.2) (.string t202)) (fun _ hk => hk.2) (.string t203)) (fun _ hk => hk.2) (.slice Ao20 t204.length co20)) (fun _ hk => hk.2) (.slice Ao21 t207.length co21)) (fun _ h_ => h_.1)))); (case side4 => exact (Kd.N_reads' HO209.out).2.1); rintro e w22 ⟨v214, v217, rfl, ho0, ho1, hb⟩; refine ⟨_, rfl, ?_⟩; have n0_ := Aside0.mk (Kd.R_elder' (by (with_reducible repeat (first | apply Kd.R_alloc | apply Kd.R_drewN | apply Kd.R_drew)); exact (Kd.R_mono (Kd.R_far (p := ⟨gb199, 4, none⟩) (Kd.R_far (p := ⟨gb199, 3, none⟩) (Kd.R_far (p := ⟨gb199, 2, none⟩) (Kd.R_far (p := ⟨gb199, 1, none⟩) (Kd.R_far (p := ⟨gb199, 0, none⟩) (Kd.R_types HO206.out BK199.out (by decide)) (fun _ hk => hk.2) (.int .i64 t201)) (fun _ hk => hk.2) (.string t202)) (fun _ hk => hk.2) (.string t203)) (fun _ hk => hk.2) (.slice Ao20 t204.length co20)) (fun _ hk => hk.2) (.slice Ao21 t207.length co21)) (fun _ h_ => h_.1))) (Kd.R_base ho0) hb); have n1_ := Aside0.mk (Kd.N_mono (Kd.N_told (Kd.N_told (Kd.N_old (by (with_reducible repeat (first | apply Kd.N_alloc | apply Kd.N_drewN | apply Kd.N_drew)); exact (Kd.N_mono (Kd.N_far (p := ⟨gb199, 4, none⟩) (Kd.N_far (p := ⟨gb199, 3, none⟩) (Kd.N_far (p := ⟨gb199, 2, none⟩) (Kd.N_far (p := ⟨gb199, 1, none⟩) (Kd.N_far (p := ⟨gb199, 0, none⟩) (Kd.N_mono HO209.out (fun k_ hk => (⟨hk, hk.2⟩ : _ ∧ k_ ≠ gb199))) (fun _ hk => hk.2) (.int .i64 t201)) (fun _ hk => hk.2) (.string t202)) (fun _ hk => hk.2) (.string t203)) (fun _ hk => hk.2) (.slice Ao20 t204.length co20)) (fun _ hk => hk.2) (.slice Ao21 t207.length co21)) (fun _ h_ => h_.1))) hb) (Kd.R_base ho0)) (Kd.N_base ho1)) (fun _ h_ => h_.1)); have n2_ := Aside0.mk (Kd.R_lower (Kd.R_new' (Kd.R_mono (ok' := fun k_ => True) ho0 (fun _ hk_ => trivial)) (Kd.R_lt (by (with_reducible repeat (first | apply Kd.R_alloc | apply Kd.R_drewN | apply Kd.R_drew)); exact (Kd.R_mono (Kd.R_far (p := ⟨gb199, 4, none⟩) (Kd.R_far (p := ⟨gb199, 3, none⟩) (Kd.R_far (p := ⟨gb199, 2, none⟩) (Kd.R_far (p := ⟨gb199, 1, none⟩) (Kd.R_far (p := ⟨gb199, 0, none⟩) (Kd.R_types HO206.out BK199.out (by decide)) (fun _ hk => hk.2) (.int .i64 t201)) (fun _ hk => hk.2) (.string t202)) (fun _ hk => hk.2) (.string t203)) (fun _ hk => hk.2) (.slice Ao20 t204.length co20)) (fun _ hk => hk.2) (.slice Ao21 t207.length co21)) (fun _ h_ => h_.1))))) (below_size (by repeat (first | (with_reducible first | exact HB.out | apply below_alloc | apply pw_below_drewN | apply below_drew1 | refine below_set ?_ GE199.out) | exact HB.out)))); have n3_ := Aside0.mk (Kd.N_lower (Kd.N_mono (ok' := fun k_ => some k_ ≠ (v214 : Value).ownBlock ∧ some k_ ≠ (.slice Ao20 t204.length co20 : Value).ownBlock ∧ some k_ ≠ (.slice Ao21 t207.length co21 : Value).ownBlock ∧ k_ ≠ gb199) ho1 (fun k_ hk_ => ⟨hk_.2, (Kd.fresh' (Kd.R_lt (by (with_reducible repeat (first | apply Kd.R_alloc | apply Kd.R_drewN | apply Kd.R_drew)); exact (Kd.R_mono (Kd.R_far (p := ⟨gb199, 4, none⟩) (Kd.R_far (p := ⟨gb199, 3, none⟩) (Kd.R_far (p := ⟨gb199, 2, none⟩) (Kd.R_far (p := ⟨gb199, 1, none⟩) (Kd.R_far (p := ⟨gb199, 0, none⟩) (Kd.R_types HO206.out BK199.out (by decide)) (fun _ hk => hk.2) (.int .i64 t201)) (fun _ hk => hk.2) (.string t202)) (fun _ hk => hk.2) (.string t203)) (fun _ hk => hk.2) (.slice Ao20 t204.length co20)) (fun _ hk => hk.2) (.slice Ao21 t207.length co21)) (fun _ h_ => h_.1)))) k_ hk_.1), (Kd.fresh' (Kd.N_lt (by (with_reducible repeat (first | apply Kd.N_alloc | apply Kd.N_drewN | apply Kd.N_drew)); exact (Kd.N_mono (Kd.N_far (p := ⟨gb199, 4, none⟩) (Kd.N_far (p := ⟨gb199, 3, none⟩) (Kd.N_far (p := ⟨gb199, 2, none⟩) (Kd.N_far (p := ⟨gb199, 1, none⟩) (Kd.N_far (p := ⟨gb199, 0, none⟩) (Kd.N_mono HO209.out (fun k_ hk => (⟨hk, hk.2⟩ : _ ∧ k_ ≠ gb199))) (fun _ hk => hk.2) (.int .i64 t201)) (fun _ hk => hk.2) (.string t202)) (fun _ hk => hk.2) (.string t203)) (fun _ hk => hk.2) (.slice Ao20 t204.length co20)) (fun _ hk => hk.2) (.slice Ao21 t207.length co21)) (fun _ h_ => h_.1)))) k_ hk_.1), (Kd.freshB (g := gb199) (o := .cells #[.int .i64 t201, .string t202, .string t203, .slice Ao20 t204.length co20, .slice Ao21 t207.length co21] 25 (0, 0)) (by (with_reducible repeat (first | refine blk_drewN ?_ _ | refine blk_drew ?_ | refine blk_alloc ?_ _)); refine blk_put (cs := #[.int .i64 t201, .string t202, .string t203, .slice Ao20 t204.length co20, .slice A0_4 l0_4.length c0_4]) ?_ 4 _ rfl; (with_reducible repeat (first | refine blk_drewN ?_ _ | refine blk_drew ?_ | refine blk_alloc ?_ _)); refine blk_put (cs := #[.int .i64 t201, .string t202, .string t203, .slice A0_3 l0_3.length c0_3, .slice A0_4 l0_4.length c0_4]) ?_ 3 _ rfl; (with_reducible repeat (first | refine blk_drewN ?_ _ | refine blk_drew ?_ | refine blk_alloc ?_ _)); refine blk_put (cs := #[.int .i64 t201, .string t202, .string a0_2, .slice A0_3 l0_3.length c0_3, .slice A0_4 l0_4.length c0_4]) ?_ 2 _ rfl; (with_reducible repeat (first | refine blk_drewN ?_ _ | refine blk_drew ?_ | refine blk_alloc ?_ _)); refine blk_put (cs := #[.int .i64 t201, .string a0_1, .string a0_2, .slice A0_3 l0_3.length c0_3, .slice A0_4 l0_4.length c0_4]) ?_ 1 _ rfl; (with_reducible repeat (first | refine blk_drewN ?_ _ | refine blk_drew ?_ | refine blk_alloc ?_ _)); refine blk_put (cs := #[.int .i64 a0_0, .string a0_1, .string a0_2, .slice A0_3 l0_3.length c0_3, .slice A0_4 l0_4.length c0_4]) ?_ 0 _ rfl; (with_reducible repeat (first | refine blk_drewN ?_ _ | refine blk_drew ?_ | refine blk_alloc ?_ _)); exact BK199.out) k_ hk_.1)⟩)) (below_size (by repeat (first | (with_reducible first | exact HB.out | apply below_alloc | apply pw_below_drewN | apply below_drew1 | refine below_set ?_ GE199.out) | exact HB.out)))); have n4_ := Aside0.mk (blk_below (g := gb199) (o := .cells #[.int .i64 t201, .string t202, .string t203, .slice Ao20 t204.length co20, .slice Ao21 t207.length co21] 25 (0, 0)) (by (with_reducible repeat (first | refine blk_drewN ?_ _ | refine blk_drew ?_ | refine blk_alloc ?_ _)); refine blk_put (cs := #[.int .i64 t201, .string t202, .string t203, .slice Ao20 t204.length co20, .slice A0_4 l0_4.length c0_4]) ?_ 4 _ rfl; (with_reducible repeat (first | refine blk_drewN ?_ _ | refine blk_drew ?_ | refine blk_alloc ?_ _)); refine blk_put (cs := #[.int .i64 t201, .string t202, .string t203, .slice A0_3 l0_3.length c0_3, .slice A0_4 l0_4.length c0_4]) ?_ 3 _ rfl; (with_reducible repeat (first | refine blk_drewN ?_ _ | refine blk_drew ?_ | refine blk_alloc ?_ _)); refine blk_put (cs := #[.int .i64 t201, .string t202, .string a0_2, .slice A0_3 l0_3.length c0_3, .slice A0_4 l0_4.length c0_4]) ?_ 2 _ rfl; (with_reducible repeat (first | refine blk_drewN ?_ _ | refine blk_drew ?_ | refine blk_alloc ?_ _)); refine blk_put (cs := #[.int .i64 t201, .string a0_1, .string a0_2, .slice A0_3 l0_3.length c0_3, .slice A0_4 l0_4.length c0_4]) ?_ 1 _ rfl; (with_reducible repeat (first | refine blk_drewN ?_ _ | refine blk_drew ?_ | refine blk_alloc ?_ _)); refine blk_put (cs := #[.int .i64 a0_0, .string a0_1, .string a0_2, .slice A0_3 l0_3.length c0_3, .slice A0_4 l0_4.length c0_4]) ?_ 0 _ rfl; (with_reducible repeat (first | refine blk_drewN ?_ _ | refine blk_drew ?_ | refine blk_alloc ?_ _)); exact BK199.out) hb); have n5_ := Aside0.mk (below_step (by repeat (first | (with_reducible first | exact HB.out | apply below_alloc | apply pw_below_drewN | apply below_drew1 | refine below_set ?_ GE199.out) | exact HB.out)) hb); clear HO206; clear HO209; clear BK199; clear HB; have HO206 := n0_; have HO209 := n1_; have HO215 := n2_; have HO218 := n3_; have BK199 := n4_; have HB := n5_; clear n0_ n1_ n2_ n3_ n4_ n5_; (try clear hb); (try clear hb2); (try clear hk); (try clear hi); (try clear ho0); (try clear ho1)) | ((with_reducible refine gate_dst (N := 3) rfl ?_); (try (refine gate_guard (by rfl) ?_; dsimp only)); refine box_event ?hg (N := 3) ?hd (cs := #[.int .i64 0, .string (⟨#[]⟩ : ByteArray), .string (⟨#[]⟩ : ByteArray), .slice none 0 0, .slice none 0 0]) (t := 25) ?hr ?_; (case hd => rfl); (case hg => rfl); (case hr => first | (go_simp; done) | (go_simp; rfl)); intro gb219 hg w23 hbox hb; have n0_ := Aside0.mk (Kd.R_below (by (with_reducible repeat (first | apply Kd.R_alloc | apply Kd.R_drewN | apply Kd.R_drew)); exact HO206.out) hb); have n1_ := Aside0.mk (Kd.N_below (Kd.N_elderB (by (with_reducible repeat (first | apply Kd.N_alloc | apply Kd.N_drewN | apply Kd.N_drew)); exact HO209.out) gb219 (Nat.le_of_eq hg.symm)) hb); have n2_ := Aside0.mk (Kd.R_below (by (with_reducible repeat (first | apply Kd.R_alloc | apply Kd.R_drewN | apply Kd.R_drew)); exact HO215.out) hb); have n3_ := Aside0.mk (Kd.N_below (Kd.N_elderB (by (with_reducible repeat (first | apply Kd.N_alloc | apply Kd.N_drewN | apply Kd.N_drew)); exact HO218.out) gb219 (Nat.le_of_eq hg.symm)) hb); have n4_ := Aside0.mk (blk_below (g := gb199) (o := .cells #[.int .i64 t201, .string t202, .string t203, .slice Ao20 t204.length co20, .slice Ao21 t207.length co21] 25 (0, 0)) (by (with_reducible repeat (first | refine blk_drewN ?_ _ | refine blk_drew ?_ | refine blk_alloc ?_ _)); exact BK199.out) hb); have n5_ := Aside0.mk (below_step (by repeat (first | (with_reducible first | exact HB.out | apply below_alloc | apply pw_below_drewN | apply below_drew1 | refine below_set ?_ GE199.out) | exact HB.out)) hb); have n6_ := Aside0.mk (hbox); have n7_ := Aside0.mk ((by rw [hg]; exact (below_size (by repeat (first | (with_reducible first | exact HB.out | apply below_alloc | apply pw_below_drewN | apply below_drew1 | refine below_set ?_ GE199.out) | exact HB.out))) : w.heap.size ≤ gb219)); have n8_ := Aside0.mk ((by rw [hg]; exact (below_size (by repeat (first | (with_reducible first | exact HB.out | apply below_alloc | apply pw_below_drewN | apply below_drew1 | refine below_set ?_ GE199.out) | exact HB.out))) : w.heap.size ≤ gb219)); have n9_ := Aside0.mk ((by rw [hg]; exact Nat.ne_of_lt (blk_lt (g := gb199) (o := .cells #[.int .i64 t201, .string t202, .string t203, .slice Ao20 t204.length co20, .slice Ao21 t207.length co21] 25 (0, 0)) (by (with_reducible repeat (first | refine blk_drewN ?_ _ | refine blk_drew ?_ | refine blk_alloc ?_ _)); exact BK199.out)) : gb199 ≠ gb219)); have n10_ := Aside0.mk ((by rw [hg]; exact Nat.ne_of_gt (blk_lt (g := gb199) (o := .cells #[.int .i64 t201, .string t202, .string t203, .slice Ao20 t204.length co20, .slice Ao21 t207.length co21] 25 (0, 0)) (by (with_reducible repeat (first | refine blk_drewN ?_ _ | refine blk_drew ?_ | refine blk_alloc ?_ _)); exact BK199.out)) : gb219 ≠ gb199)); clear HO206; clear HO209; clear HO215; clear HO218; clear BK199; clear HB; have HO206 := n0_; have HO209 := n1_; have HO215 := n2_; have HO218 := n3_; have BK199 := n4_; have HB := n5_; have BK219 := n6_; have GW219 := n7_; have GE219 := n8_; have NB199_219 := n9_; have NB219_199 := n10_; clear n0_ n1_ n2_ n3_ n4_ n5_ n6_ n7_ n8_ n9_ n10_; clear hb hbox hg; have hnb24 := NB219_199.out; have hnc24 := NB199_219.out; have hcz25_0 : w23.cell? ⟨gb219, 0, none⟩ = some (.int .i64 0) := (blk_cell BK219.out 0).trans rfl; have hcz25_1 : w23.cell? ⟨gb219, 1, none⟩ = some (.string (⟨#[]⟩ : ByteArray)) := (blk_cell BK219.out 1).trans rfl; have hcz25_2 : w23.cell? ⟨gb219, 2, none⟩ = some (.string (⟨#[]⟩ : ByteArray)) := (blk_cell BK219.out 2).trans rfl; have hcz25_3 : w23.cell? ⟨gb219, 3, none⟩ = some (.slice none 0 0) := (blk_cell BK219.out 3).trans rfl; have hcz25_4 : w23.cell? ⟨gb219, 4, none⟩ = some (.slice none 0 0) := (blk_cell BK219.out 4).trans rfl; have hfz25_0 := blk_frozen BK219.out 0; have hfz25_1 := blk_frozen BK219.out 1; have hfz25_2 := blk_frozen BK219.out 2; have hfz25_3 := blk_frozen BK219.out 3; have hfz25_4 := blk_frozen BK219.out 4; obtain ⟨Ao26, co26, eo26⟩ := Kd.R_slice HO215.out; subst eo26; obtain ⟨Ao27, co27, eo27⟩ := Kd.N_slice HO218.out; subst eo27))
        have n0_ : Aside0 (Kd.R k53 53 (((((w23.setCell ⟨gb219, 0, none⟩ (.int .i64 t210)).setCell ⟨gb219, 1, none⟩ (.string t211)).setCell ⟨gb219, 2, none⟩ (.string t212)).setCell ⟨gb219, 3, none⟩ (.slice Ao26 t213.length co26)).setCell ⟨gb219, 4, none⟩ (.slice Ao27 t216.length co27)) w.heap.size (fun k_ => some k_ ≠ (.slice Ao26 t213.length co26 : Value).ownBlock) (.slice Ao20 t204.length co20) t204) := ⟨by (with_reducible repeat (first | apply Kd.R_alloc | apply Kd.R_drewN | apply Kd.R_drew)); exact Kd.R_mono (Kd.R_far (p := ⟨gb219, 4, none⟩) (Kd.R_far (p := ⟨gb219, 3, none⟩) (Kd.R_far (p := ⟨gb219, 2, none⟩) (Kd.R_far (p := ⟨gb219, 1, none⟩) (Kd.R_far (p := ⟨gb219, 0, none⟩) (Kd.R_types HO206.out BK219.out (by decide)) (fun _ hk => hk.2) (.int .i64 t210)) (fun _ hk => hk.2) (.string t211)) (fun _ hk => hk.2) (.string t212)) (fun _ hk => hk.2) (.slice Ao26 t213.length co26)) (fun _ hk => hk.2) (.slice Ao27 t216.length co27)) (fun _ hk => hk.1.2)⟩
        have n1_ : Aside0 (Kd.N k25 25 (((((w23.setCell ⟨gb219, 0, none⟩ (.int .i64 t210)).setCell ⟨gb219, 1, none⟩ (.string t211)).setCell ⟨gb219, 2, none⟩ (.string t212)).setCell ⟨gb219, 3, none⟩ (.slice Ao26 t213.length co26)).setCell ⟨gb219, 4, none⟩ (.slice Ao27 t216.length co27)) w.heap.size (fun k_ => some k_ ≠ (.slice Ao20 t204.length co20 : Value).ownBlock ∧ some k_ ≠ (.slice Ao26 t213.length co26 : Value).ownBlock ∧ some k_ ≠ (.slice Ao27 t216.length co27 : Value).ownBlock ∧ k_ ≠ gb199 ∧ k_ ≠ gb219) (.slice Ao21 t207.length co21) t207) := ⟨by (with_reducible repeat (first | apply Kd.N_alloc | apply Kd.N_drewN | apply Kd.N_drew)); exact Kd.N_mono (Kd.N_far (p := ⟨gb219, 4, none⟩) (Kd.N_far (p := ⟨gb219, 3, none⟩) (Kd.N_far (p := ⟨gb219, 2, none⟩) (Kd.N_far (p := ⟨gb219, 1, none⟩) (Kd.N_far (p := ⟨gb219, 0, none⟩) (Kd.N_mono HO209.out (fun k_ hk => (⟨hk, hk.2⟩ : _ ∧ k_ ≠ gb219))) (fun _ hk => hk.2) (.int .i64 t210)) (fun _ hk => hk.2) (.string t211)) (fun _ hk => hk.2) (.string t212)) (fun _ hk => hk.2) (.slice Ao26 t213.length co26)) (fun _ hk => hk.2) (.slice Ao27 t216.length co27)) (fun _ hk => ⟨hk.1.1.1.1.1, ⟨hk.1.1.1.2, ⟨hk.1.1.2, ⟨hk.1.1.1.1.2, hk.1.2⟩⟩⟩⟩)⟩
        have n2_ : Aside0 (Kd.R k53 53 (((((w23.setCell ⟨gb219, 0, none⟩ (.int .i64 t210)).setCell ⟨gb219, 1, none⟩ (.string t211)).setCell ⟨gb219, 2, none⟩ (.string t212)).setCell ⟨gb219, 3, none⟩ (.slice Ao26 t213.length co26)).setCell ⟨gb219, 4, none⟩ (.slice Ao27 t216.length co27)) w.heap.size (fun k_ => some k_ ≠ (.slice Ao20 t204.length co20 : Value).ownBlock) (.slice Ao26 t213.length co26) t213) := ⟨by (with_reducible repeat (first | apply Kd.R_alloc | apply Kd.R_drewN | apply Kd.R_drew)); exact Kd.R_mono (Kd.R_far (p := ⟨gb219, 4, none⟩) (Kd.R_far (p := ⟨gb219, 3, none⟩) (Kd.R_far (p := ⟨gb219, 2, none⟩) (Kd.R_far (p := ⟨gb219, 1, none⟩) (Kd.R_far (p := ⟨gb219, 0, none⟩) (Kd.R_types HO215.out BK219.out (by decide)) (fun _ hk => hk.2) (.int .i64 t210)) (fun _ hk => hk.2) (.string t211)) (fun _ hk => hk.2) (.string t212)) (fun _ hk => hk.2) (.slice Ao26 t213.length co26)) (fun _ hk => hk.2) (.slice Ao27 t216.length co27)) (fun _ hk => hk.1.2)⟩
        have n3_ : Aside0 (Kd.N k25 25 (((((w23.setCell ⟨gb219, 0, none⟩ (.int .i64 t210)).setCell ⟨gb219, 1, none⟩ (.string t211)).setCell ⟨gb219, 2, none⟩ (.string t212)).setCell ⟨gb219, 3, none⟩ (.slice Ao26 t213.length co26)).setCell ⟨gb219, 4, none⟩ (.slice Ao27 t216.length co27)) w.heap.size (fun k_ => some k_ ≠ (.slice Ao20 t204.length co20 : Value).ownBlock ∧ some k_ ≠ (.slice Ao21 t207.length co21 : Value).ownBlock ∧ some k_ ≠ (.slice Ao26 t213.length co26 : Value).ownBlock ∧ k_ ≠ gb199 ∧ k_ ≠ gb219) (.slice Ao27 t216.length co27) t216) := ⟨by (with_reducible repeat (first | apply Kd.N_alloc | apply Kd.N_drewN | apply Kd.N_drew)); exact Kd.N_mono (Kd.N_far (p := ⟨gb219, 4, none⟩) (Kd.N_far (p := ⟨gb219, 3, none⟩) (Kd.N_far (p := ⟨gb219, 2, none⟩) (Kd.N_far (p := ⟨gb219, 1, none⟩) (Kd.N_far (p := ⟨gb219, 0, none⟩) (Kd.N_mono HO218.out (fun k_ hk => (⟨hk, hk.2⟩ : _ ∧ k_ ≠ gb219))) (fun _ hk => hk.2) (.int .i64 t210)) (fun _ hk => hk.2) (.string t211)) (fun _ hk => hk.2) (.string t212)) (fun _ hk => hk.2) (.slice Ao26 t213.length co26)) (fun _ hk => hk.2) (.slice Ao27 t216.length co27)) (fun _ hk => ⟨hk.1.1.2.1, ⟨hk.1.1.2.2.1, ⟨hk.1.1.1, ⟨hk.1.1.2.2.2, hk.1.2⟩⟩⟩⟩)⟩
        have n4_ : Aside0 ((((((w23.setCell ⟨gb219, 0, none⟩ (.int .i64 t210)).setCell ⟨gb219, 1, none⟩ (.string t211)).setCell ⟨gb219, 2, none⟩ (.string t212)).setCell ⟨gb219, 3, none⟩ (.slice Ao26 t213.length co26)).setCell ⟨gb219, 4, none⟩ (.slice Ao27 t216.length co27)).heap[gb199]? = some (.cells #[.int .i64 t201, .string t202, .string t203, .slice Ao20 t204.length co20, .slice Ao21 t207.length co21] 25 (0, 0))) := ⟨by (with_reducible repeat (first | refine blk_drewN ?_ _ | refine blk_drew ?_ | refine blk_alloc ?_ _)); refine blk_far ?_ NB199_219.out _; (with_reducible repeat (first | refine blk_drewN ?_ _ | refine blk_drew ?_ | refine blk_alloc ?_ _)); refine blk_far ?_ NB199_219.out _; (with_reducible repeat (first | refine blk_drewN ?_ _ | refine blk_drew ?_ | refine blk_alloc ?_ _)); refine blk_far ?_ NB199_219.out _; (with_reducible repeat (first | refine blk_drewN ?_ _ | refine blk_drew ?_ | refine blk_alloc ?_ _)); refine blk_far ?_ NB199_219.out _; (with_reducible repeat (first | refine blk_drewN ?_ _ | refine blk_drew ?_ | refine blk_alloc ?_ _)); refine blk_far ?_ NB199_219.out _; (with_reducible repeat (first | refine blk_drewN ?_ _ | refine blk_drew ?_ | refine blk_alloc ?_ _)); exact BK199.out⟩
        have n5_ : Aside0 ((((((w23.setCell ⟨gb219, 0, none⟩ (.int .i64 t210)).setCell ⟨gb219, 1, none⟩ (.string t211)).setCell ⟨gb219, 2, none⟩ (.string t212)).setCell ⟨gb219, 3, none⟩ (.slice Ao26 t213.length co26)).setCell ⟨gb219, 4, none⟩ (.slice Ao27 t216.length co27)).heap[gb219]? = some (.cells #[.int .i64 t210, .string t211, .string t212, .slice Ao26 t213.length co26, .slice Ao27 t216.length co27] 25 (0, 0))) := ⟨by (with_reducible repeat (first | refine blk_drewN ?_ _ | refine blk_drew ?_ | refine blk_alloc ?_ _)); refine blk_put (cs := #[.int .i64 t210, .string t211, .string t212, .slice Ao26 t213.length co26, .slice none 0 0]) ?_ 4 _ rfl; (with_reducible repeat (first | refine blk_drewN ?_ _ | refine blk_drew ?_ | refine blk_alloc ?_ _)); refine blk_put (cs := #[.int .i64 t210, .string t211, .string t212, .slice none 0 0, .slice none 0 0]) ?_ 3 _ rfl; (with_reducible repeat (first | refine blk_drewN ?_ _ | refine blk_drew ?_ | refine blk_alloc ?_ _)); refine blk_put (cs := #[.int .i64 t210, .string t211, .string (⟨#[]⟩ : ByteArray), .slice none 0 0, .slice none 0 0]) ?_ 2 _ rfl; (with_reducible repeat (first | refine blk_drewN ?_ _ | refine blk_drew ?_ | refine blk_alloc ?_ _)); refine blk_put (cs := #[.int .i64 t210, .string (⟨#[]⟩ : ByteArray), .string (⟨#[]⟩ : ByteArray), .slice none 0 0, .slice none 0 0]) ?_ 1 _ rfl; (with_reducible repeat (first | refine blk_drewN ?_ _ | refine blk_drew ?_ | refine blk_alloc ?_ _)); refine blk_put (cs := #[.int .i64 0, .string (⟨#[]⟩ : ByteArray), .string (⟨#[]⟩ : ByteArray), .slice none 0 0, .slice none 0 0]) ?_ 0 _ rfl; (with_reducible repeat (first | refine blk_drewN ?_ _ | refine blk_drew ?_ | refine blk_alloc ?_ _)); exact BK219.out⟩
        have n6_ : Aside0 (Below w.heap.size w (((((w23.setCell ⟨gb219, 0, none⟩ (.int .i64 t210)).setCell ⟨gb219, 1, none⟩ (.string t211)).setCell ⟨gb219, 2, none⟩ (.string t212)).setCell ⟨gb219, 3, none⟩ (.slice Ao26 t213.length co26)).setCell ⟨gb219, 4, none⟩ (.slice Ao27 t216.length co27))) := ⟨by repeat (first | (with_reducible first | exact HB.out | apply below_alloc | apply pw_below_drewN | apply below_drew1 | refine below_set ?_ GE199.out | refine below_set ?_ GE219.out) | exact HB.out)⟩
        (try clear HO206)
        (try clear HO209)
        (try clear HO215)
        (try clear HO218)
        (try clear BK199)
        (try clear BK219)
        (try clear HB)
        generalize (((((w23.setCell ⟨gb219, 0, none⟩ (.int .i64 t210)).setCell ⟨gb219, 1, none⟩ (.string t211)).setCell ⟨gb219, 2, none⟩ (.string t212)).setCell ⟨gb219, 3, none⟩ (.slice Ao26 t213.length co26)).setCell ⟨gb219, 4, none⟩ (.slice Ao27 t216.length co27)) = w28 at n0_ n1_ n2_ n3_ n4_ n5_ n6_ ⊢
        have HO206 := n0_
        have HO209 := n1_
        have HO215 := n2_
        have HO218 := n3_
        have BK199 := n4_
        have BK219 := n5_
        have HB := n6_
        clear n0_ n1_ n2_ n3_ n4_ n5_ n6_
        have n0_ := Aside0.mk (Kd.R_drew HO206.out)
        have n1_ := Aside0.mk (Kd.N_drew HO209.out)
        have n2_ := Aside0.mk (Kd.R_drew HO215.out)
        have n3_ := Aside0.mk (Kd.N_drew HO218.out)
        have n4_ := Aside0.mk (blk_drew BK199.out)
        have n5_ := Aside0.mk (blk_drew BK219.out)
        have n6_ := Aside0.mk (below_drew1 HB.out)
        clear HO206
        clear HO209
        clear HO215
        clear HO218
        clear BK199
        clear BK219
        clear HB
        have HO206 := n0_
        have HO209 := n1_
        have HO215 := n2_
        have HO218 := n3_
        have BK199 := n4_
        have BK219 := n5_
        have HB := n6_
        clear n0_ n1_ n2_ n3_ n4_ n5_ n6_
        refine start_ (n := 21) (S := fun w' => w'.cell? ⟨gb219, 0, none⟩ = some (.int .i64 t210) ∧ w'.cell? ⟨gb219, 1, none⟩ = some (.string t211) ∧ w'.cell? ⟨gb219, 2, none⟩ = some (.string t212) ∧ w'.cell? ⟨gb219, 3, none⟩ = some (.slice Ao26 t213.length co26) ∧ w'.cell? ⟨gb219, 4, none⟩ = some (.slice Ao27 t216.length co27) ∧ w'.cell? ⟨gb199, 0, none⟩ = some (.int .i64 t201) ∧ w'.cell? ⟨gb199, 1, none⟩ = some (.string t202) ∧ w'.cell? ⟨gb199, 2, none⟩ = some (.string t203) ∧ w'.cell? ⟨gb199, 3, none⟩ = some (.slice Ao20 t204.length co20) ∧ w'.cell? ⟨gb199, 4, none⟩ = some (.slice Ao21 t207.length co21)) (ds := []) #[false, false, false, false, false, false, false, false, false, false, false, false, false, false, false, false, false, false, false, false, false] (by kernel_rfl) rfl rfl ⟨(blk_cell BK219.out 0).trans rfl, (blk_cell BK219.out 1).trans rfl, (blk_cell BK219.out 2).trans rfl, (blk_cell BK219.out 3).trans rfl, (blk_cell BK219.out 4).trans rfl, (blk_cell BK199.out 0).trans rfl, (blk_cell BK199.out 1).trans rfl, (blk_cell BK199.out 2).trans rfl, (blk_cell BK199.out 3).trans rfl, (blk_cell BK199.out 4).trans rfl⟩ (fun hHeld => ?_); refine with_tabW laws_FnEmptyCode.tab5 laws_FnEmptyCode.bits5 (fun HT_ HW_ => ?_)
        generalize w28.drew = w29 at HO206 HO209 HO215 HO218 BK199 BK219 HB hHeld ⊢
        refine take_ (i := 0) (N := some 11) (v := ?_) (a' := ?_) #[true, false, false, false, false, false, false, false, false, false, false, false, false, false, false, false, false, false, false, false, false] rfl rfl (take_ofW HT_.out HW_.out (by kernel_rfl)) (fun _ _ _ h => h) (Or.inl ⟨by rfl, ?_⟩) hHeld ?_ ?_
        rotate_left
        · rintro w' ⟨s0, s1, s2, s3, s4, s5, s6, s7, s8, s9⟩
          go_simp
          with_reducible rfl
        rotate_left
        · simp only [Act.put, List.setIfInBounds_toArray, List.set_cons_zero, List.set_cons_succ, i64_w, i32_w]
          rfl
        refine take_ (i := 3) (N := some 14) (v := ?_) (a' := ?_) #[true, false, false, true, false, false, false, false, false, false, false, false, false, false, false, false, false, false, false, false, false] rfl rfl (take_ofW HT_.out HW_.out (by kernel_rfl)) (fun _ _ _ h => h) (Or.inl ⟨by rfl, ?_⟩) hHeld ?_ ?_
        rotate_left
        · rintro w' ⟨s0, s1, s2, s3, s4, s5, s6, s7, s8, s9⟩
          go_simp
          with_reducible rfl
        rotate_left
        · simp only [Act.put, List.setIfInBounds_toArray, List.set_cons_zero, List.set_cons_succ, i64_w, i32_w]
          rfl
        refine one_ (i := 1) (N := some 12) #[true, true, false, true, false, false, false, false, false, false, false, false, false, false, false, false, false, false, false, false, false] rfl rfl (one_of HT_.out (by kernel_rfl)) (by decide) (fun K hK => ?_)
        refine goes_ Try.func13 (by kernel_rfl) rfl #[.agg #[.int .i64 t210, .string t211, .string t212, .slice Ao26 t213.length co26, .slice Ao27 t216.length co27]] (by rfl) rfl rfl (by (try simp only [List.map_toArray, List.map_cons, List.map_nil]); first | done | rfl | (simp only [List.length_drop, List.length_take]; rfl)) ?_
        with_reducible refine (spec_TextOf.calls k t210 t211 t212 _ _ t213 _ _ t216 t220 _ ?side1 ?side2 ?side3 ?side4 A6.out).mono ?_
        (case side1 => repeat (first | exact (Kd.R_reads' HO215.out).2.2 | (with_reducible refine Kd.C_alloc ?_ _) | (with_reducible refine Kd.C_drewN ?_ _) | (with_reducible refine Kd.C_drew ?_)))
        (case side2 => exact (Kd.R_reads' HO215.out).2.1)
        (case side3 => repeat (first | exact (Kd.N_reads' HO218.out).2.2 | (with_reducible refine Kd.C_alloc ?_ _) | (with_reducible refine Kd.C_drewN ?_ _) | (with_reducible refine Kd.C_drew ?_)))
        (case side4 => exact (Kd.N_reads' HO218.out).2.1)
        rintro e w30 ⟨rfl, hb⟩
        refine ⟨_, rfl, ?_⟩
        have n0_ := Aside0.mk (Kd.R_below (by (with_reducible repeat (first | apply Kd.R_alloc | apply Kd.R_drewN | apply Kd.R_drew)); exact HO206.out) hb)
        have n1_ := Aside0.mk (Kd.N_below (by (with_reducible repeat (first | apply Kd.N_alloc | apply Kd.N_drewN | apply Kd.N_drew)); exact HO209.out) hb)
        have n2_ := Aside0.mk (Kd.R_below (by (with_reducible repeat (first | apply Kd.R_alloc | apply Kd.R_drewN | apply Kd.R_drew)); exact HO215.out) hb)
        have n3_ := Aside0.mk (Kd.N_below (by (with_reducible repeat (first | apply Kd.N_alloc | apply Kd.N_drewN | apply Kd.N_drew)); exact HO218.out) hb)
        have n4_ := Aside0.mk (blk_below (g := gb199) (o := .cells #[.int .i64 t201, .string t202, .string t203, .slice Ao20 t204.length co20, .slice Ao21 t207.length co21] 25 (0, 0)) (by (with_reducible repeat (first | refine blk_drewN ?_ _ | refine blk_drew ?_ | refine blk_alloc ?_ _)); exact BK199.out) hb)
        have n5_ := Aside0.mk (blk_below (g := gb219) (o := .cells #[.int .i64 t210, .string t211, .string t212, .slice Ao26 t213.length co26, .slice Ao27 t216.length co27] 25 (0, 0)) (by (with_reducible repeat (first | refine blk_drewN ?_ _ | refine blk_drew ?_ | refine blk_alloc ?_ _)); exact BK219.out) hb)
        have n6_ := Aside0.mk (below_step (by repeat (first | (with_reducible first | exact HB.out | apply below_alloc | apply pw_below_drewN | apply below_drew1 | refine below_set ?_ GE199.out | refine below_set ?_ GE219.out) | exact HB.out)) hb)
        clear HO206
        clear HO209
        clear HO215
        clear HO218
        clear BK199
        clear BK219
        clear HB
        have HO206 := n0_
        have HO209 := n1_
        have HO215 := n2_
        have HO218 := n3_
        have BK199 := n4_
        have BK219 := n5_
        have HB := n6_
        clear n0_ n1_ n2_ n3_ n4_ n5_ n6_
        (try clear hb)
        (try clear hb2)
        (try clear hk)
        (try clear hi)
        refine hK.out _ _ ⟨(blk_cell BK219.out 0).trans rfl, (blk_cell BK219.out 1).trans rfl, (blk_cell BK219.out 2).trans rfl, (blk_cell BK219.out 3).trans rfl, (blk_cell BK219.out 4).trans rfl, (blk_cell BK199.out 0).trans rfl, (blk_cell BK199.out 1).trans rfl, (blk_cell BK199.out 2).trans rfl, (blk_cell BK199.out 3).trans rfl, (blk_cell BK199.out 4).trans rfl⟩ (fun hHeld => ?_)
        clear hK K
        refine norm_ (a' := ?_) ?_ ?_
        rotate_left
        · show Act.put _ (some 12) _ = _
          simp only [Act.put, List.setIfInBounds_toArray, List.set_cons_zero, List.set_cons_succ, i64_w, i32_w]
          rfl
        refine one_ (i := 2) (N := some 13) #[true, true, true, true, false, false, false, false, false, false, false, false, false, false, false, false, false, false, false, false, false] rfl rfl (one_of HT_.out (by kernel_rfl)) (by decide) (fun K hK => ?_)
        refine goes_ Try.func17 (by kernel_rfl) rfl #[.string t220] (by rfl) rfl rfl (by (try simp only [List.map_toArray, List.map_cons, List.map_nil]); first | done | rfl | (simp only [List.length_drop, List.length_take]; rfl)) ?_
        with_reducible refine (spec_Solid.calls k t220 t221 _ A7.out).mono ?_
        rintro e w31 ⟨rfl, hb⟩
        refine ⟨_, rfl, ?_⟩
        have n0_ := Aside0.mk (Kd.R_below (by (with_reducible repeat (first | apply Kd.R_alloc | apply Kd.R_drewN | apply Kd.R_drew)); exact HO206.out) hb)
        have n1_ := Aside0.mk (Kd.N_below (by (with_reducible repeat (first | apply Kd.N_alloc | apply Kd.N_drewN | apply Kd.N_drew)); exact HO209.out) hb)
        have n2_ := Aside0.mk (Kd.R_below (by (with_reducible repeat (first | apply Kd.R_alloc | apply Kd.R_drewN | apply Kd.R_drew)); exact HO215.out) hb)
        have n3_ := Aside0.mk (Kd.N_below (by (with_reducible repeat (first | apply Kd.N_alloc | apply Kd.N_drewN | apply Kd.N_drew)); exact HO218.out) hb)
        have n4_ := Aside0.mk (blk_below (g := gb199) (o := .cells #[.int .i64 t201, .string t202, .string t203, .slice Ao20 t204.length co20, .slice Ao21 t207.length co21] 25 (0, 0)) (by (with_reducible repeat (first | refine blk_drewN ?_ _ | refine blk_drew ?_ | refine blk_alloc ?_ _)); exact BK199.out) hb)
        have n5_ := Aside0.mk (blk_below (g := gb219) (o := .cells #[.int .i64 t210, .string t211, .string t212, .slice Ao26 t213.length co26, .slice Ao27 t216.length co27] 25 (0, 0)) (by (with_reducible repeat (first | refine blk_drewN ?_ _ | refine blk_drew ?_ | refine blk_alloc ?_ _)); exact BK219.out) hb)
        have n6_ := Aside0.mk (below_step (by repeat (first | (with_reducible first | exact HB.out | apply below_alloc | apply pw_below_drewN | apply below_drew1 | refine below_set ?_ GE199.out | refine below_set ?_ GE219.out) | exact HB.out)) hb)
        clear HO206
        clear HO209
        clear HO215
        clear HO218
        clear BK199
        clear BK219
        clear HB
        have HO206 := n0_
        have HO209 := n1_
        have HO215 := n2_
        have HO218 := n3_
        have BK199 := n4_
        have BK219 := n5_
        have HB := n6_
        clear n0_ n1_ n2_ n3_ n4_ n5_ n6_
        (try clear hb)
        (try clear hb2)
        (try clear hk)
        (try clear hi)
        refine hK.out _ _ ⟨(blk_cell BK219.out 0).trans rfl, (blk_cell BK219.out 1).trans rfl, (blk_cell BK219.out 2).trans rfl, (blk_cell BK219.out 3).trans rfl, (blk_cell BK219.out 4).trans rfl, (blk_cell BK199.out 0).trans rfl, (blk_cell BK199.out 1).trans rfl, (blk_cell BK199.out 2).trans rfl, (blk_cell BK199.out 3).trans rfl, (blk_cell BK199.out 4).trans rfl⟩ (fun hHeld => ?_)
        clear hK K
        refine norm_ (a' := ?_) ?_ ?_
        rotate_left
        · show Act.put _ (some 13) _ = _
          simp only [Act.put, List.setIfInBounds_toArray, List.set_cons_zero, List.set_cons_succ, i64_w, i32_w]
          rfl
        refine one_ (i := 4) (N := some 15) #[true, true, true, true, true, false, false, false, false, false, false, false, false, false, false, false, false, false, false, false, false] rfl rfl (one_of HT_.out (by kernel_rfl)) (by decide) (fun K hK => ?_)
        refine goes_ Try.func13 (by kernel_rfl) rfl #[.agg #[.int .i64 t201, .string t202, .string t203, .slice Ao20 t204.length co20, .slice Ao21 t207.length co21]] (by rfl) rfl rfl (by (try simp only [List.map_toArray, List.map_cons, List.map_nil]); first | done | rfl | (simp only [List.length_drop, List.length_take]; rfl)) ?_
        with_reducible refine (spec_TextOf.calls k t201 t202 t203 _ _ t204 _ _ t207 t222 _ ?side1 ?side2 ?side3 ?side4 A8.out).mono ?_
        (case side1 => repeat (first | exact (Kd.R_reads' HO206.out).2.2 | (with_reducible refine Kd.C_alloc ?_ _) | (with_reducible refine Kd.C_drewN ?_ _) | (with_reducible refine Kd.C_drew ?_)))
        (case side2 => exact (Kd.R_reads' HO206.out).2.1)
        (case side3 => repeat (first | exact (Kd.N_reads' HO209.out).2.2 | (with_reducible refine Kd.C_alloc ?_ _) | (with_reducible refine Kd.C_drewN ?_ _) | (with_reducible refine Kd.C_drew ?_)))
        (case side4 => exact (Kd.N_reads' HO209.out).2.1)
        rintro e w32 ⟨rfl, hb⟩
        refine ⟨_, rfl, ?_⟩
        have n0_ := Aside0.mk (Kd.R_below (by (with_reducible repeat (first | apply Kd.R_alloc | apply Kd.R_drewN | apply Kd.R_drew)); exact HO206.out) hb)
        have n1_ := Aside0.mk (Kd.N_below (by (with_reducible repeat (first | apply Kd.N_alloc | apply Kd.N_drewN | apply Kd.N_drew)); exact HO209.out) hb)
        have n2_ := Aside0.mk (Kd.R_below (by (with_reducible repeat (first | apply Kd.R_alloc | apply Kd.R_drewN | apply Kd.R_drew)); exact HO215.out) hb)
        have n3_ := Aside0.mk (Kd.N_below (by (with_reducible repeat (first | apply Kd.N_alloc | apply Kd.N_drewN | apply Kd.N_drew)); exact HO218.out) hb)
        have n4_ := Aside0.mk (blk_below (g := gb199) (o := .cells #[.int .i64 t201, .string t202, .string t203, .slice Ao20 t204.length co20, .slice Ao21 t207.length co21] 25 (0, 0)) (by (with_reducible repeat (first | refine blk_drewN ?_ _ | refine blk_drew ?_ | refine blk_alloc ?_ _)); exact BK199.out) hb)
        have n5_ := Aside0.mk (blk_below (g := gb219) (o := .cells #[.int .i64 t210, .string t211, .string t212, .slice Ao26 t213.length co26, .slice Ao27 t216.length co27] 25 (0, 0)) (by (with_reducible repeat (first | refine blk_drewN ?_ _ | refine blk_drew ?_ | refine blk_alloc ?_ _)); exact BK219.out) hb)
        have n6_ := Aside0.mk (below_step (by repeat (first | (with_reducible first | exact HB.out | apply below_alloc | apply pw_below_drewN | apply below_drew1 | refine below_set ?_ GE199.out | refine below_set ?_ GE219.out) | exact HB.out)) hb)
        clear HO206
        clear HO209
        clear HO215
        clear HO218
        clear BK199
        clear BK219
        clear HB
        have HO206 := n0_
        have HO209 := n1_
        have HO215 := n2_
        have HO218 := n3_
        have BK199 := n4_
        have BK219 := n5_
        have HB := n6_
        clear n0_ n1_ n2_ n3_ n4_ n5_ n6_
        (try clear hb)
        (try clear hb2)
        (try clear hk)
        (try clear hi)
        refine hK.out _ _ ⟨(blk_cell BK219.out 0).trans rfl, (blk_cell BK219.out 1).trans rfl, (blk_cell BK219.out 2).trans rfl, (blk_cell BK219.out 3).trans rfl, (blk_cell BK219.out 4).trans rfl, (blk_cell BK199.out 0).trans rfl, (blk_cell BK199.out 1).trans rfl, (blk_cell BK199.out 2).trans rfl, (blk_cell BK199.out 3).trans rfl, (blk_cell BK199.out 4).trans rfl⟩ (fun hHeld => ?_)
        clear hK K
        refine norm_ (a' := ?_) ?_ ?_
        rotate_left
        · show Act.put _ (some 15) _ = _
          simp only [Act.put, List.setIfInBounds_toArray, List.set_cons_zero, List.set_cons_succ, i64_w, i32_w]
          rfl
        refine one_ (i := 5) (N := some 16) #[true, true, true, true, true, true, false, false, false, false, false, false, false, false, false, false, false, false, false, false, false] rfl rfl (one_of HT_.out (by kernel_rfl)) (by decide) (fun K hK => ?_)
        refine goes_ Try.func17 (by kernel_rfl) rfl #[.string t222] (by rfl) rfl rfl (by (try simp only [List.map_toArray, List.map_cons, List.map_nil]); first | done | rfl | (simp only [List.length_drop, List.length_take]; rfl)) ?_
        with_reducible refine (spec_Solid.calls k t222 t223 _ A9.out).mono ?_
        rintro e w33 ⟨rfl, hb⟩
        refine ⟨_, rfl, ?_⟩
        have n0_ := Aside0.mk (Kd.R_below (by (with_reducible repeat (first | apply Kd.R_alloc | apply Kd.R_drewN | apply Kd.R_drew)); exact HO206.out) hb)
        have n1_ := Aside0.mk (Kd.N_below (by (with_reducible repeat (first | apply Kd.N_alloc | apply Kd.N_drewN | apply Kd.N_drew)); exact HO209.out) hb)
        have n2_ := Aside0.mk (Kd.R_below (by (with_reducible repeat (first | apply Kd.R_alloc | apply Kd.R_drewN | apply Kd.R_drew)); exact HO215.out) hb)
        have n3_ := Aside0.mk (Kd.N_below (by (with_reducible repeat (first | apply Kd.N_alloc | apply Kd.N_drewN | apply Kd.N_drew)); exact HO218.out) hb)
        have n4_ := Aside0.mk (blk_below (g := gb199) (o := .cells #[.int .i64 t201, .string t202, .string t203, .slice Ao20 t204.length co20, .slice Ao21 t207.length co21] 25 (0, 0)) (by (with_reducible repeat (first | refine blk_drewN ?_ _ | refine blk_drew ?_ | refine blk_alloc ?_ _)); exact BK199.out) hb)
        have n5_ := Aside0.mk (blk_below (g := gb219) (o := .cells #[.int .i64 t210, .string t211, .string t212, .slice Ao26 t213.length co26, .slice Ao27 t216.length co27] 25 (0, 0)) (by (with_reducible repeat (first | refine blk_drewN ?_ _ | refine blk_drew ?_ | refine blk_alloc ?_ _)); exact BK219.out) hb)
        have n6_ := Aside0.mk (below_step (by repeat (first | (with_reducible first | exact HB.out | apply below_alloc | apply pw_below_drewN | apply below_drew1 | refine below_set ?_ GE199.out | refine below_set ?_ GE219.out) | exact HB.out)) hb)
        clear HO206
        clear HO209
        clear HO215
        clear HO218
        clear BK199
        clear BK219
        clear HB
        have HO206 := n0_
        have HO209 := n1_
        have HO215 := n2_
        have HO218 := n3_
        have BK199 := n4_
        have BK219 := n5_
        have HB := n6_
        clear n0_ n1_ n2_ n3_ n4_ n5_ n6_
        (try clear hb)
        (try clear hb2)
        (try clear hk)
        (try clear hi)
        refine hK.out _ _ ⟨(blk_cell BK219.out 0).trans rfl, (blk_cell BK219.out 1).trans rfl, (blk_cell BK219.out 2).trans rfl, (blk_cell BK219.out 3).trans rfl, (blk_cell BK219.out 4).trans rfl, (blk_cell BK199.out 0).trans rfl, (blk_cell BK199.out 1).trans rfl, (blk_cell BK199.out 2).trans rfl, (blk_cell BK199.out 3).trans rfl, (blk_cell BK199.out 4).trans rfl⟩ (fun hHeld => ?_)
        clear hK K
        refine norm_ (a' := ?_) ?_ ?_
        rotate_left
        · show Act.put _ (some 16) _ = _
          simp only [Act.put, List.setIfInBounds_toArray, List.set_cons_zero, List.set_cons_succ, i64_w, i32_w]
          rfl
        refine pure_ (i := 6) (N := some 17) (v := ?_) (a' := ?_) #[true, true, true, true, true, true, true, false, false, false, false, false, false, false, false, false, false, false, false, false, false] rfl rfl (any_of HT_.out (by kernel_rfl)) (fun _ _ _ h => h) (Or.inl ⟨by rfl, ?_⟩) ?_ ?_
        rotate_left
        · intro w'
          go_simp
          with_reducible rfl
        rotate_left
        · simp only [Act.put, List.setIfInBounds_toArray, List.set_cons_zero, List.set_cons_succ, i64_w, i32_w]
          rfl
        refine pure_ (i := 7) (N := some 18) (v := ?_) (a' := ?_) #[true, true, true, true, true, true, true, true, false, false, false, false, false, false, false, false, false, false, false, false, false] rfl rfl (any_of HT_.out (by kernel_rfl)) (fun _ _ _ h => h) (Or.inl ⟨by rfl, ?_⟩) ?_ ?_
        rotate_left
        · intro w'
          go_simp
          with_reducible rfl
        rotate_left
        · simp only [Act.put, List.setIfInBounds_toArray, List.set_cons_zero, List.set_cons_succ, i64_w, i32_w]
          rfl
        refine take_ (i := 8) (N := some 19) (v := ?_) (a' := ?_) #[true, true, true, true, true, true, true, true, true, false, false, false, false, false, false, false, false, false, false, false, false] rfl rfl (take_ofW HT_.out HW_.out (by kernel_rfl)) (fun _ _ _ h => h) (Or.inl ⟨by rfl, ?_⟩) hHeld ?_ ?_
        rotate_left
        · rintro w' ⟨s0, s1, s2, s3, s4, s5, s6, s7, s8, s9⟩
          go_simp
          with_reducible rfl
        rotate_left
        · simp only [Act.put, List.setIfInBounds_toArray, List.set_cons_zero, List.set_cons_succ, i64_w, i32_w]
          rfl
        refine one_ (i := 9) (N := some 20) #[true, true, true, true, true, true, true, true, true, true, false, false, false, false, false, false, false, false, false, false, false] rfl rfl (one_of HT_.out (by kernel_rfl)) (by decide) (fun K hK => ?_)
        refine Kd.R_lit_step Kd.string _ 9 ?hg (N := 20) ?hd (xs := ([(⟨#[99, 111, 100, 101]⟩ : ByteArray), (⟨#[112, 114, 101]⟩ : ByteArray)] : List ByteArray)) (inner := [.string (⟨#[99, 111, 100, 101]⟩ : ByteArray), .string (⟨#[112, 114, 101]⟩ : ByteArray)]) (ok := fun _ => True) (okp := fun _ => True) ?hr ?hp (fun _ hk => hk) trivial (Below.refl _ _) (Nat.le_refl _) (by simp) ?_; (case hd => rfl); (case hg => rfl); (case hr => first | (go_simp; done) | (go_simp; rfl)); (case hp => exact (Reps.one (show Kd.M Kd.string _ _ _ (⟨#[99, 111, 100, 101]⟩ : ByteArray) [.string (⟨#[99, 111, 100, 101]⟩ : ByteArray)] from rfl) (Reps.one (show Kd.M Kd.string _ _ _ (⟨#[112, 114, 101]⟩ : ByteArray) [.string (⟨#[112, 114, 101]⟩ : ByteArray)] from rfl) (Reps.none _ _))))
        intro v225 w34 ho35 hb hg_ hnew_
        clear hg_ hnew_
        (first | rw [← Ny224.out] at ho35 | (simp only [Int.reduceToNat] at ho35; rw [← Ny224.out] at ho35))
        have n0_ := Aside0.mk (Kd.R_below (by (with_reducible repeat (first | apply Kd.R_alloc | apply Kd.R_drewN | apply Kd.R_drew)); exact HO206.out) hb)
        have n1_ := Aside0.mk (Kd.N_elder' (by (with_reducible repeat (first | apply Kd.N_alloc | apply Kd.N_drewN | apply Kd.N_drew)); exact HO209.out) (Kd.R_base ho35) hb)
        have n2_ := Aside0.mk (Kd.R_below (by (with_reducible repeat (first | apply Kd.R_alloc | apply Kd.R_drewN | apply Kd.R_drew)); exact HO215.out) hb)
        have n3_ := Aside0.mk (Kd.N_elder' (by (with_reducible repeat (first | apply Kd.N_alloc | apply Kd.N_drewN | apply Kd.N_drew)); exact HO218.out) (Kd.R_base ho35) hb)
        have n4_ := Aside0.mk (Kd.R_lower ho35 (below_size (by repeat (first | (with_reducible first | exact HB.out | apply below_alloc | apply pw_below_drewN | apply below_drew1 | refine below_set ?_ GE199.out | refine below_set ?_ GE219.out) | exact HB.out))))
        have n5_ := Aside0.mk (blk_below (g := gb199) (o := .cells #[.int .i64 t201, .string t202, .string t203, .slice Ao20 t204.length co20, .slice Ao21 t207.length co21] 25 (0, 0)) (by (with_reducible repeat (first | refine blk_drewN ?_ _ | refine blk_drew ?_ | refine blk_alloc ?_ _)); exact BK199.out) hb)
        have n6_ := Aside0.mk (blk_below (g := gb219) (o := .cells #[.int .i64 t210, .string t211, .string t212, .slice Ao26 t213.length co26, .slice Ao27 t216.length co27] 25 (0, 0)) (by (with_reducible repeat (first | refine blk_drewN ?_ _ | refine blk_drew ?_ | refine blk_alloc ?_ _)); exact BK219.out) hb)
        have n7_ := Aside0.mk (below_step (by repeat (first | (with_reducible first | exact HB.out | apply below_alloc | apply pw_below_drewN | apply below_drew1 | refine below_set ?_ GE199.out | refine below_set ?_ GE219.out) | exact HB.out)) hb)
        clear HO206
        clear HO209
        clear HO215
        clear HO218
        clear BK199
        clear BK219
        clear HB
        have HO206 := n0_
        have HO209 := n1_
        have HO215 := n2_
        have HO218 := n3_
        have HO226 := n4_
        have BK199 := n5_
        have BK219 := n6_
        have HB := n7_
        clear n0_ n1_ n2_ n3_ n4_ n5_ n6_ n7_
        clear hb ho35
        obtain ⟨Ao36, co36, eo36⟩ := Kd.R_slice HO226.out
        (first | subst eo36 | (injection eo36 with f1_ f2_ f3_; have f4_ := f1_.symm; have f5_ := f3_.symm; clear f1_ f2_ f3_; subst f4_; subst f5_))
        refine hK.out _ _ ⟨(blk_cell BK219.out 0).trans rfl, (blk_cell BK219.out 1).trans rfl, (blk_cell BK219.out 2).trans rfl, (blk_cell BK219.out 3).trans rfl, (blk_cell BK219.out 4).trans rfl, (blk_cell BK199.out 0).trans rfl, (blk_cell BK199.out 1).trans rfl, (blk_cell BK199.out 2).trans rfl, (blk_cell BK199.out 3).trans rfl, (blk_cell BK199.out 4).trans rfl⟩ (fun hHeld => ?_)
        clear hK K
        refine norm_ (a' := ?_) ?_ ?_
        rotate_left
        · show Act.put _ (some 20) _ = _
          simp only [Act.put, List.setIfInBounds_toArray, List.set_cons_zero, List.set_cons_succ, i64_w, i32_w]
          rfl
        refine one_ (i := 10) (N := some 21) #[true, true, true, true, true, true, true, true, true, true, true, false, false, false, false, false, false, false, false, false, false] rfl rfl (one_of HT_.out (by kernel_rfl)) (by decide) (fun K hK => ?_)
        refine goes_ Try.func18 (by kernel_rfl) rfl #[.agg #[.int .i64 t201, .string t202, .string t203, .slice Ao20 t204.length co20, .slice Ao21 t207.length co21], .slice Ao36 y224.length co36] (by rfl) rfl rfl (by (try simp only [List.map_toArray, List.map_cons, List.map_nil]); first | done | rfl | (simp only [List.length_drop, List.length_take]; rfl)) ?_
        with_reducible refine (laws_inlineHas.calls k t201 t202 t203 _ _ t204 _ _ t207 _ _ y224 true _ ?side1 ?side2 ?side3 ?side4 ?side5 ?side6 A11.out).mono ?_
        (case side1 => repeat (first | exact (Kd.R_reads' HO206.out).2.2 | (with_reducible refine Kd.C_alloc ?_ _) | (with_reducible refine Kd.C_drewN ?_ _) | (with_reducible refine Kd.C_drew ?_)))
        (case side2 => exact (Kd.R_reads' HO206.out).2.1)
        (case side3 => repeat (first | exact (Kd.N_reads' HO209.out).2.2 | (with_reducible refine Kd.C_alloc ?_ _) | (with_reducible refine Kd.C_drewN ?_ _) | (with_reducible refine Kd.C_drew ?_)))
        (case side4 => exact (Kd.N_reads' HO209.out).2.1)
        (case side5 => repeat (first | exact (Kd.R_reads' HO226.out).2.2 | (with_reducible refine Kd.C_alloc ?_ _) | (with_reducible refine Kd.C_drewN ?_ _) | (with_reducible refine Kd.C_drew ?_)))
        (case side6 => exact (Kd.R_reads' HO226.out).2.1)
        rintro e w37 ⟨rfl, hb⟩
        refine ⟨_, rfl, ?_⟩
        have n0_ := Aside0.mk (Kd.R_below (by (with_reducible repeat (first | apply Kd.R_alloc | apply Kd.R_drewN | apply Kd.R_drew)); exact HO206.out) hb)
        have n1_ := Aside0.mk (Kd.N_below (by (with_reducible repeat (first | apply Kd.N_alloc | apply Kd.N_drewN | apply Kd.N_drew)); exact HO209.out) hb)
        have n2_ := Aside0.mk (Kd.R_below (by (with_reducible repeat (first | apply Kd.R_alloc | apply Kd.R_drewN | apply Kd.R_drew)); exact HO215.out) hb)
        have n3_ := Aside0.mk (Kd.N_below (by (with_reducible repeat (first | apply Kd.N_alloc | apply Kd.N_drewN | apply Kd.N_drew)); exact HO218.out) hb)
        have n4_ := Aside0.mk (Kd.R_below (by (with_reducible repeat (first | apply Kd.R_alloc | apply Kd.R_drewN | apply Kd.R_drew)); exact HO226.out) hb)
        have n5_ := Aside0.mk (blk_below (g := gb199) (o := .cells #[.int .i64 t201, .string t202, .string t203, .slice Ao20 t204.length co20, .slice Ao21 t207.length co21] 25 (0, 0)) (by (with_reducible repeat (first | refine blk_drewN ?_ _ | refine blk_drew ?_ | refine blk_alloc ?_ _)); exact BK199.out) hb)
        have n6_ := Aside0.mk (blk_below (g := gb219) (o := .cells #[.int .i64 t210, .string t211, .string t212, .slice Ao26 t213.length co26, .slice Ao27 t216.length co27] 25 (0, 0)) (by (with_reducible repeat (first | refine blk_drewN ?_ _ | refine blk_drew ?_ | refine blk_alloc ?_ _)); exact BK219.out) hb)
        have n7_ := Aside0.mk (below_step (by repeat (first | (with_reducible first | exact HB.out | apply below_alloc | apply pw_below_drewN | apply below_drew1 | refine below_set ?_ GE199.out | refine below_set ?_ GE219.out) | exact HB.out)) hb)
        clear HO206
        clear HO209
        clear HO215
        clear HO218
        clear HO226
        clear BK199
        clear BK219
        clear HB
        have HO206 := n0_
        have HO209 := n1_
        have HO215 := n2_
        have HO218 := n3_
        have HO226 := n4_
        have BK199 := n5_
        have BK219 := n6_
        have HB := n7_
        clear n0_ n1_ n2_ n3_ n4_ n5_ n6_ n7_
        (try clear hb)
        (try clear hb2)
        (try clear hk)
        (try clear hi)
        refine hK.out _ _ ⟨(blk_cell BK219.out 0).trans rfl, (blk_cell BK219.out 1).trans rfl, (blk_cell BK219.out 2).trans rfl, (blk_cell BK219.out 3).trans rfl, (blk_cell BK219.out 4).trans rfl, (blk_cell BK199.out 0).trans rfl, (blk_cell BK199.out 1).trans rfl, (blk_cell BK199.out 2).trans rfl, (blk_cell BK199.out 3).trans rfl, (blk_cell BK199.out 4).trans rfl⟩ (fun hHeld => ?_)
        clear hK K
        refine norm_ (a' := ?_) ?_ ?_
        rotate_left
        · show Act.put _ (some 21) _ = _
          simp only [Act.put, List.setIfInBounds_toArray, List.set_cons_zero, List.set_cons_succ, i64_w, i32_w]
          rfl
        refine pure_ (i := 11) (N := some 22) (v := ?_) (a' := ?_) #[true, true, true, true, true, true, true, true, true, true, true, true, false, false, false, false, false, false, false, false, false] rfl rfl (any_of HT_.out (by kernel_rfl)) (fun _ _ _ h => h) (Or.inl ⟨by rfl, ?_⟩) ?_ ?_
        rotate_left
        · intro w'
          go_simp
          with_reducible rfl
        rotate_left
        · simp only [Act.put, List.setIfInBounds_toArray, List.set_cons_zero, List.set_cons_succ, i64_w, i32_w]
          rfl
        refine pure_ (i := 12) (N := some 23) (v := undef) (a' := ?_) #[true, true, true, true, true, true, true, true, true, true, true, true, true, false, false, false, false, false, false, false, false] rfl rfl (any_of HT_.out (by kernel_rfl)) (fun _ _ _ h => h) (Or.inr ⟨by rfl, rfl⟩) ?_ ?_
        rotate_left
        · simp only [Act.put, List.setIfInBounds_toArray, List.set_cons_zero, List.set_cons_succ, i64_w, i32_w]
          rfl
        refine pure_ (i := 13) (N := some 24) (v := undef) (a' := ?_) #[true, true, true, true, true, true, true, true, true, true, true, true, true, true, false, false, false, false, false, false, false] rfl rfl (any_of HT_.out (by kernel_rfl)) (fun _ _ _ h => h) (Or.inr ⟨by rfl, rfl⟩) ?_ ?_
        rotate_left
        · simp only [Act.put, List.setIfInBounds_toArray, List.set_cons_zero, List.set_cons_succ, i64_w, i32_w]
          rfl
        refine pure_ (i := 14) (N := some 25) (v := undef) (a' := ?_) #[true, true, true, true, true, true, true, true, true, true, true, true, true, true, true, false, false, false, false, false, false] rfl rfl (any_of HT_.out (by kernel_rfl)) (fun _ _ _ h => h) (Or.inr ⟨by rfl, rfl⟩) ?_ ?_
        rotate_left
        · simp only [Act.put, List.setIfInBounds_toArray, List.set_cons_zero, List.set_cons_succ, i64_w, i32_w]
          rfl
        refine pure_ (i := 15) (N := some 26) (v := ?_) (a' := ?_) #[true, true, true, true, true, true, true, true, true, true, true, true, true, true, true, true, false, false, false, false, false] rfl rfl (any_of HT_.out (by kernel_rfl)) (fun _ _ _ h => h) (Or.inl ⟨by rfl, ?_⟩) ?_ ?_
        rotate_left
        · intro w'
          go_simp
          with_reducible rfl
        rotate_left
        · simp only [Act.put, List.setIfInBounds_toArray, List.set_cons_zero, List.set_cons_succ, i64_w, i32_w]
          rfl
        refine pure_ (i := 16) (N := some 27) (v := ?_) (a' := ?_) #[true, true, true, true, true, true, true, true, true, true, true, true, true, true, true, true, true, false, false, false, false] rfl rfl (any_of HT_.out (by kernel_rfl)) (fun _ _ _ h => h) (Or.inl ⟨by rfl, ?_⟩) ?_ ?_
        rotate_left
        · intro w'
          go_simp
          with_reducible rfl
        rotate_left
        · simp only [Act.put, List.setIfInBounds_toArray, List.set_cons_zero, List.set_cons_succ, i64_w, i32_w]
          rfl
        refine pure_ (i := 17) (N := some 28) (v := ?_) (a' := ?_) #[true, true, true, true, true, true, true, true, true, true, true, true, true, true, true, true, true, true, false, false, false] rfl rfl (any_of HT_.out (by kernel_rfl)) (fun _ _ _ h => h) (Or.inl ⟨by rfl, ?_⟩) ?_ ?_
        rotate_left
        · intro w'
          go_simp
          with_reducible rfl
        rotate_left
        · simp only [Act.put, List.setIfInBounds_toArray, List.set_cons_zero, List.set_cons_succ, i64_w, i32_w]
          rfl
        refine one_ (i := 18) (N := some 29) #[true, true, true, true, true, true, true, true, true, true, true, true, true, true, true, true, true, true, true, false, false] rfl rfl (one_of HT_.out (by kernel_rfl)) (by decide) (fun K hK => ?_)
        refine goes_ Try.func15 (by kernel_rfl) rfl #[] (by rfl) rfl rfl (by (try simp only [List.map_toArray, List.map_cons, List.map_nil]); first | done | rfl | (simp only [List.length_drop, List.length_take]; rfl)) ?_
        with_reducible refine (laws_inlineLives.calls k  t228 _ A13.out).mono ?_
        rintro e w38 ⟨rfl, hb⟩
        refine ⟨_, rfl, ?_⟩
        have n0_ := Aside0.mk (Kd.R_below (by (with_reducible repeat (first | apply Kd.R_alloc | apply Kd.R_drewN | apply Kd.R_drew)); exact HO206.out) hb)
        have n1_ := Aside0.mk (Kd.N_below (by (with_reducible repeat (first | apply Kd.N_alloc | apply Kd.N_drewN | apply Kd.N_drew)); exact HO209.out) hb)
        have n2_ := Aside0.mk (Kd.R_below (by (with_reducible repeat (first | apply Kd.R_alloc | apply Kd.R_drewN | apply Kd.R_drew)); exact HO215.out) hb)
        have n3_ := Aside0.mk (Kd.N_below (by (with_reducible repeat (first | apply Kd.N_alloc | apply Kd.N_drewN | apply Kd.N_drew)); exact HO218.out) hb)
        have n4_ := Aside0.mk (Kd.R_below (by (with_reducible repeat (first | apply Kd.R_alloc | apply Kd.R_drewN | apply Kd.R_drew)); exact HO226.out) hb)
        have n5_ := Aside0.mk (blk_below (g := gb199) (o := .cells #[.int .i64 t201, .string t202, .string t203, .slice Ao20 t204.length co20, .slice Ao21 t207.length co21] 25 (0, 0)) (by (with_reducible repeat (first | refine blk_drewN ?_ _ | refine blk_drew ?_ | refine blk_alloc ?_ _)); exact BK199.out) hb)
        have n6_ := Aside0.mk (blk_below (g := gb219) (o := .cells #[.int .i64 t210, .string t211, .string t212, .slice Ao26 t213.length co26, .slice Ao27 t216.length co27] 25 (0, 0)) (by (with_reducible repeat (first | refine blk_drewN ?_ _ | refine blk_drew ?_ | refine blk_alloc ?_ _)); exact BK219.out) hb)
        have n7_ := Aside0.mk (below_step (by repeat (first | (with_reducible first | exact HB.out | apply below_alloc | apply pw_below_drewN | apply below_drew1 | refine below_set ?_ GE199.out | refine below_set ?_ GE219.out) | exact HB.out)) hb)
        clear HO206
        clear HO209
        clear HO215
        clear HO218
        clear HO226
        clear BK199
        clear BK219
        clear HB
        have HO206 := n0_
        have HO209 := n1_
        have HO215 := n2_
        have HO218 := n3_
        have HO226 := n4_
        have BK199 := n5_
        have BK219 := n6_
        have HB := n7_
        clear n0_ n1_ n2_ n3_ n4_ n5_ n6_ n7_
        (try clear hb)
        (try clear hb2)
        (try clear hk)
        (try clear hi)
        refine hK.out _ _ ⟨(blk_cell BK219.out 0).trans rfl, (blk_cell BK219.out 1).trans rfl, (blk_cell BK219.out 2).trans rfl, (blk_cell BK219.out 3).trans rfl, (blk_cell BK219.out 4).trans rfl, (blk_cell BK199.out 0).trans rfl, (blk_cell BK199.out 1).trans rfl, (blk_cell BK199.out 2).trans rfl, (blk_cell BK199.out 3).trans rfl, (blk_cell BK199.out 4).trans rfl⟩ (fun hHeld => ?_)
        clear hK K
        refine norm_ (a' := ?_) ?_ ?_
        rotate_left
        · show Act.put _ (some 29) _ = _
          simp only [Act.put, List.setIfInBounds_toArray, List.set_cons_zero, List.set_cons_succ, i64_w, i32_w]
          rfl
        refine pure_ (i := 19) (N := some 30) (v := ?_) (a' := ?_) #[true, true, true, true, true, true, true, true, true, true, true, true, true, true, true, true, true, true, true, true, false] rfl rfl (any_of HT_.out (by kernel_rfl)) (fun _ _ _ h => h) (Or.inl ⟨by rfl, ?_⟩) ?_ ?_
        rotate_left
        · intro w'
          go_simp
          with_reducible rfl
        rotate_left
        · simp only [Act.put, List.setIfInBounds_toArray, List.set_cons_zero, List.set_cons_succ, i64_w, i32_w]
          rfl
        refine pure_ (i := 20) (N := some 2) (v := ?_) (a' := ?_) #[true, true, true, true, true, true, true, true, true, true, true, true, true, true, true, true, true, true, true, true, true] rfl rfl (any_of HT_.out (by kernel_rfl)) (fun _ _ _ h => h) (Or.inl ⟨by rfl, ?_⟩) ?_ ?_
        rotate_left
        · intro w'
          go_simp
          with_reducible rfl
        rotate_left
        · simp only [Act.put, List.setIfInBounds_toArray, List.set_cons_zero, List.set_cons_succ, i64_w, i32_w]
          rfl
        refine done_ (done_of HT_.out (by kernel_rfl)) ?_
        try go_wp2
        go_ret
        exact ⟨by first | rfl | (simp [errW_none, errW_some] <;> rfl) | (simp [*, errW_none, errW_some] <;> rfl), by repeat (first | (with_reducible first | exact HB.out | apply below_alloc | apply pw_below_drewN | apply below_drew1 | refine below_set ?_ GE199.out | refine below_set ?_ GE219.out) | exact HB.out)⟩
      · replace c12 := Bool.eq_false_iff.mpr c12
        subst c12
        have H1 : ((spec_SameTree.f k t210 t211 t212 t213 t216 t201 t202 t203 t204 t207).bind fun t229 => (if t229 = true then ((laws_inlineLives.f k).bind fun t230 => (some t230)) else (some false))) = some r := by rw [if_neg (show ¬ (false = true) by decide)] at H; exact H
        clear H
        have H := H1
        clear H1
        replace H := Option.bind_eq_some_iff.mp H
        obtain ⟨t229, A390, H⟩ := H
        replace H : (if t229 = true then ((laws_inlineLives.f k).bind fun t230 => (some t230)) else (some false)) = some r := H
        have A39 := Aside0.mk A390
        clear A390
        by_cases c40 : t229 = true
        · subst c40
          have H1 : ((laws_inlineLives.f k).bind fun t230 => (some t230)) = some r := by rw [if_pos rfl] at H; exact H
          clear H
          have H := H1
          clear H1
          replace H := Option.bind_eq_some_iff.mp H
          obtain ⟨t230, A410, H⟩ := H
          replace H : (some t230) = some r := H
          have A41 := Aside0.mk A410
          clear A410
          obtain rfl := Option.some.inj H
          go_enter Try.func4, Try.ntmps4
          try go_wp2_with (first | ((with_reducible refine gate_dst (N := 1) rfl ?_); (try (refine gate_guard (by rfl) ?_; dsimp only)); refine box_event ?hg (N := 1) ?hd (cs := #[.int .i64 a0_0, .string a0_1, .string a0_2, .slice A0_3 l0_3.length c0_3, .slice A0_4 l0_4.length c0_4]) (t := 25) ?hr ?_; (case hd => rfl); (case hg => rfl); (case hr => first | (go_simp; done) | (go_simp; rfl)); intro gb199 hg w42 hbox hb; have n0_ := Aside0.mk (below_step (by repeat (first | (with_reducible first | exact HB.out | apply below_alloc | apply pw_below_drewN | apply below_drew1) | exact HB.out)) hb); have n1_ := Aside0.mk (hbox); have n2_ := Aside0.mk ((by rw [hg]; exact (below_size (by repeat (first | (with_reducible first | exact HB.out | apply below_alloc | apply pw_below_drewN | apply below_drew1) | exact HB.out))) : w.heap.size ≤ gb199)); have n3_ := Aside0.mk ((by rw [hg]; exact (below_size (by repeat (first | (with_reducible first | exact HB.out | apply below_alloc | apply pw_below_drewN | apply below_drew1) | exact HB.out))) : w.heap.size ≤ gb199)); clear HB; have HB := n0_; have BK199 := n1_; have GW199 := n2_; have GE199 := n3_; clear n0_ n1_ n2_ n3_; clear hb hbox hg; have hcz43_0 : w42.cell? ⟨gb199, 0, none⟩ = some (.int .i64 a0_0) := (blk_cell BK199.out 0).trans rfl; have hcz43_1 : w42.cell? ⟨gb199, 1, none⟩ = some (.string a0_1) := (blk_cell BK199.out 1).trans rfl; have hcz43_2 : w42.cell? ⟨gb199, 2, none⟩ = some (.string a0_2) := (blk_cell BK199.out 2).trans rfl; have hcz43_3 : w42.cell? ⟨gb199, 3, none⟩ = some (.slice A0_3 l0_3.length c0_3) := (blk_cell BK199.out 3).trans rfl; have hcz43_4 : w42.cell? ⟨gb199, 4, none⟩ = some (.slice A0_4 l0_4.length c0_4) := (blk_cell BK199.out 4).trans rfl; have hfz43_0 := blk_frozen BK199.out 0; have hfz43_1 := blk_frozen BK199.out 1; have hfz43_2 := blk_frozen BK199.out 2; have hfz43_3 := blk_frozen BK199.out 3; have hfz43_4 := blk_frozen BK199.out 4) | ((with_reducible refine gate_callee (f := 9) rfl ?_); refine goesL_ (some 5) rfl rfl Try.func9 (by kernel_rfl) rfl #[.agg #[.int .i64 a0_0, .string a0_1, .string a0_2, .slice A0_3 l0_3.length c0_3, .slice A0_4 l0_4.length c0_4]] rfl (by (try simp only [List.map_toArray, List.map_cons, List.map_nil]); first | done | rfl | (simp only [List.length_drop, List.length_take]; rfl)) ?_; (with_reducible refine (laws_zzFits2.calls k a0_0 a0_1 a0_2 _ _ l0_3 _ _ l0_4 true _ ?side1 ?side2 ?side3 ?side4 A2.out).mono ?_); (case side1 => repeat (first | exact (Kd.C_below HR0_3.out HB.out) | (with_reducible refine Kd.C_alloc ?_ _) | (with_reducible refine Kd.C_drewN ?_ _) | (with_reducible refine Kd.C_drew ?_))); (case side2 => exact HC0_3.out); (case side3 => repeat (first | exact (Kd.C_below HR0_4.out HB.out) | (with_reducible refine Kd.C_alloc ?_ _) | (with_reducible refine Kd.C_drewN ?_ _) | (with_reducible refine Kd.C_drew ?_))); (case side4 => exact HC0_4.out); rintro e w44 ⟨rfl, hb⟩; refine ⟨_, rfl, ?_⟩; have n0_ := Aside0.mk (blk_below (g := gb199) (o := .cells #[.int .i64 a0_0, .string a0_1, .string a0_2, .slice A0_3 l0_3.length c0_3, .slice A0_4 l0_4.length c0_4] 25 (0, 0)) (by (with_reducible repeat (first | refine blk_drewN ?_ _ | refine blk_drew ?_ | refine blk_alloc ?_ _)); exact BK199.out) hb); have n1_ := Aside0.mk (below_step (by repeat (first | (with_reducible first | exact HB.out | apply below_alloc | apply pw_below_drewN | apply below_drew1 | refine below_set ?_ GE199.out) | exact HB.out)) hb); clear BK199; clear HB; have BK199 := n0_; have HB := n1_; clear n0_ n1_; (try clear hb); (try clear hb2); (try clear hk); (try clear hi); have hcz45_0 : w44.cell? ⟨gb199, 0, none⟩ = some (.int .i64 a0_0) := (blk_cell BK199.out 0).trans rfl; have hcz45_1 : w44.cell? ⟨gb199, 1, none⟩ = some (.string a0_1) := (blk_cell BK199.out 1).trans rfl; have hcz45_2 : w44.cell? ⟨gb199, 2, none⟩ = some (.string a0_2) := (blk_cell BK199.out 2).trans rfl; have hcz45_3 : w44.cell? ⟨gb199, 3, none⟩ = some (.slice A0_3 l0_3.length c0_3) := (blk_cell BK199.out 3).trans rfl; have hcz45_4 : w44.cell? ⟨gb199, 4, none⟩ = some (.slice A0_4 l0_4.length c0_4) := (blk_cell BK199.out 4).trans rfl; have hfz45_0 := blk_frozen BK199.out 0; have hfz45_1 := blk_frozen BK199.out 1; have hfz45_2 := blk_frozen BK199.out 2; have hfz45_3 := blk_frozen BK199.out 3; have hfz45_4 := blk_frozen BK199.out 4) | ((with_reducible refine gate_callee (f := 10) rfl ?_); refine goesL_ (some 8) rfl rfl Try.func10 (by kernel_rfl) rfl #[.agg #[.int .i64 a0_0, .string a0_1, .string a0_2, .slice A0_3 l0_3.length c0_3, .slice A0_4 l0_4.length c0_4]] rfl (by (try simp only [List.map_toArray, List.map_cons, List.map_nil]); first | done | rfl | (simp only [List.length_drop, List.length_take]; rfl)) ?_; (with_reducible refine (laws_inlineCutTree.calls k a0_0 a0_1 a0_2 _ _ l0_3 _ _ l0_4 t201 t202 t203 t204 t207 _ ?side1 ?side2 ?side3 ?side4 A4.out).mono ?_); (case side1 => repeat (first | exact (Kd.C_below HR0_3.out HB.out) | (with_reducible refine Kd.C_alloc ?_ _) | (with_reducible refine Kd.C_drewN ?_ _) | (with_reducible refine Kd.C_drew ?_))); (case side2 => exact HC0_3.out); (case side3 => repeat (first | exact (Kd.C_below HR0_4.out HB.out) | (with_reducible refine Kd.C_alloc ?_ _) | (with_reducible refine Kd.C_drewN ?_ _) | (with_reducible refine Kd.C_drew ?_))); (case side4 => exact HC0_4.out); rintro e w46 ⟨v205, v208, rfl, ho0, ho1, hb⟩; refine ⟨_, rfl, ?_⟩; have n0_ := Aside0.mk (Kd.R_lower (Kd.R_mono (ok' := fun k_ => True) ho0 (fun _ hk_ => trivial)) (below_size (by repeat (first | (with_reducible first | exact HB.out | apply below_alloc | apply pw_below_drewN | apply below_drew1 | refine below_set ?_ GE199.out) | exact HB.out)))); have n1_ := Aside0.mk (Kd.N_lower (Kd.N_mono (ok' := fun k_ => some k_ ≠ (v205 : Value).ownBlock ∧ k_ ≠ gb199) ho1 (fun k_ hk_ => ⟨hk_.2, (Kd.freshB (g := gb199) (o := .cells #[.int .i64 a0_0, .string a0_1, .string a0_2, .slice A0_3 l0_3.length c0_3, .slice A0_4 l0_4.length c0_4] 25 (0, 0)) (by (with_reducible repeat (first | refine blk_drewN ?_ _ | refine blk_drew ?_ | refine blk_alloc ?_ _)); exact BK199.out) k_ hk_.1)⟩)) (below_size (by repeat (first | (with_reducible first | exact HB.out | apply below_alloc | apply pw_below_drewN | apply below_drew1 | refine below_set ?_ GE199.out) | exact HB.out)))); have n2_ := Aside0.mk (blk_below (g := gb199) (o := .cells #[.int .i64 a0_0, .string a0_1, .string a0_2, .slice A0_3 l0_3.length c0_3, .slice A0_4 l0_4.length c0_4] 25 (0, 0)) (by (with_reducible repeat (first | refine blk_drewN ?_ _ | refine blk_drew ?_ | refine blk_alloc ?_ _)); exact BK199.out) hb); have n3_ := Aside0.mk (below_step (by repeat (first | (with_reducible first | exact HB.out | apply below_alloc | apply pw_below_drewN | apply below_drew1 | refine below_set ?_ GE199.out) | exact HB.out)) hb); clear BK199; clear HB; have HO206 := n0_; have HO209 := n1_; have BK199 := n2_; have HB := n3_; clear n0_ n1_ n2_ n3_; (try clear hb); (try clear hb2); (try clear hk); (try clear hi); (try clear ho0); (try clear ho1); have hcz47_0 : w46.cell? ⟨gb199, 0, none⟩ = some (.int .i64 a0_0) := (blk_cell BK199.out 0).trans rfl; have hcz47_1 : w46.cell? ⟨gb199, 1, none⟩ = some (.string a0_1) := (blk_cell BK199.out 1).trans rfl; have hcz47_2 : w46.cell? ⟨gb199, 2, none⟩ = some (.string a0_2) := (blk_cell BK199.out 2).trans rfl; have hcz47_3 : w46.cell? ⟨gb199, 3, none⟩ = some (.slice A0_3 l0_3.length c0_3) := (blk_cell BK199.out 3).trans rfl; have hcz47_4 : w46.cell? ⟨gb199, 4, none⟩ = some (.slice A0_4 l0_4.length c0_4) := (blk_cell BK199.out 4).trans rfl; have hfz47_0 := blk_frozen BK199.out 0; have hfz47_1 := blk_frozen BK199.out 1; have hfz47_2 := blk_frozen BK199.out 2; have hfz47_3 := blk_frozen BK199.out 3; have hfz47_4 := blk_frozen BK199.out 4; obtain ⟨Ao48, co48, eo48⟩ := Kd.R_slice HO206.out; subst eo48; obtain ⟨Ao49, co49, eo49⟩ := Kd.N_slice HO209.out; subst eo49) | ((with_reducible refine gate_callee (f := 16) rfl ?_); refine goesL_ (some 10) rfl rfl Try.func16 (by kernel_rfl) rfl #[.agg #[.int .i64 t201, .string t202, .string t203, .slice Ao48 t204.length co48, .slice Ao49 t207.length co49]] rfl (by (try simp only [List.map_toArray, List.map_cons, List.map_nil]); first | done | rfl | (simp only [List.length_drop, List.length_take]; rfl)) ?_; (with_reducible refine (impl_EmptyCode.calls k t201 t202 t203 _ _ t204 _ _ t207 t210 t211 t212 t213 t216 _ ?side1 ?side2 ?side3 ?side4 A5.out).mono ?_); (case side1 => refine (Kd.R_reads' (e := 53) (base := w.heap.size) (ok := fun k_ => True) (n := t204.length) (c := co48) ?_).2.2; exact (by (with_reducible repeat (first | apply Kd.R_alloc | apply Kd.R_drewN | apply Kd.R_drew)); exact (Kd.R_mono (Kd.R_far (p := ⟨gb199, 4, none⟩) (Kd.R_far (p := ⟨gb199, 3, none⟩) (Kd.R_far (p := ⟨gb199, 2, none⟩) (Kd.R_far (p := ⟨gb199, 1, none⟩) (Kd.R_far (p := ⟨gb199, 0, none⟩) (Kd.R_types HO206.out BK199.out (by decide)) (fun _ hk => hk.2) (.int .i64 t201)) (fun _ hk => hk.2) (.string t202)) (fun _ hk => hk.2) (.string t203)) (fun _ hk => hk.2) (.slice Ao48 t204.length co48)) (fun _ hk => hk.2) (.slice Ao49 t207.length co49)) (fun _ h_ => h_.1)))); (case side2 => exact (Kd.R_reads' HO206.out).2.1); (case side3 => refine (Kd.N_reads' (e := 25) (base := w.heap.size) (ok := fun k_ => (some k_ ≠ (.slice Ao48 t204.length co48 : Value).ownBlock ∧ k_ ≠ gb199)) (n := t207.length) (c := co49) ?_).2.2; exact (by (with_reducible repeat (first | apply Kd.N_alloc | apply Kd.N_drewN | apply Kd.N_drew)); exact (Kd.N_mono (Kd.N_far (p := ⟨gb199, 4, none⟩) (Kd.N_far (p := ⟨gb199, 3, none⟩) (Kd.N_far (p := ⟨gb199, 2, none⟩) (Kd.N_far (p := ⟨gb199, 1, none⟩) (Kd.N_far (p := ⟨gb199, 0, none⟩) (Kd.N_mono HO209.out (fun k_ hk => (⟨hk, hk.2⟩ : _ ∧ k_ ≠ gb199))) (fun _ hk => hk.2) (.int .i64 t201)) (fun _ hk => hk.2) (.string t202)) (fun _ hk => hk.2) (.string t203)) (fun _ hk => hk.2) (.slice Ao48 t204.length co48)) (fun _ hk => hk.2) (.slice Ao49 t207.length co49)) (fun _ h_ => h_.1)))); (case side4 => exact (Kd.N_reads' HO209.out).2.1); rintro e w50 ⟨v214, v217, rfl, ho0, ho1, hb⟩; refine ⟨_, rfl, ?_⟩; have n0_ := Aside0.mk (Kd.R_elder' (by (with_reducible repeat (first | apply Kd.R_alloc | apply Kd.R_drewN | apply Kd.R_drew)); exact (Kd.R_mono (Kd.R_far (p := ⟨gb199, 4, none⟩) (Kd.R_far (p := ⟨gb199, 3, none⟩) (Kd.R_far (p := ⟨gb199, 2, none⟩) (Kd.R_far (p := ⟨gb199, 1, none⟩) (Kd.R_far (p := ⟨gb199, 0, none⟩) (Kd.R_types HO206.out BK199.out (by decide)) (fun _ hk => hk.2) (.int .i64 t201)) (fun _ hk => hk.2) (.string t202)) (fun _ hk => hk.2) (.string t203)) (fun _ hk => hk.2) (.slice Ao48 t204.length co48)) (fun _ hk => hk.2) (.slice Ao49 t207.length co49)) (fun _ h_ => h_.1))) (Kd.R_base ho0) hb); have n1_ := Aside0.mk (Kd.N_mono (Kd.N_told (Kd.N_told (Kd.N_old (by (with_reducible repeat (first | apply Kd.N_alloc | apply Kd.N_drewN | apply Kd.N_drew)); exact (Kd.N_mono (Kd.N_far (p := ⟨gb199, 4, none⟩) (Kd.N_far (p := ⟨gb199, 3, none⟩) (Kd.N_far (p := ⟨gb199, 2, none⟩) (Kd.N_far (p := ⟨gb199, 1, none⟩) (Kd.N_far (p := ⟨gb199, 0, none⟩) (Kd.N_mono HO209.out (fun k_ hk => (⟨hk, hk.2⟩ : _ ∧ k_ ≠ gb199))) (fun _ hk => hk.2) (.int .i64 t201)) (fun _ hk => hk.2) (.string t202)) (fun _ hk => hk.2) (.string t203)) (fun _ hk => hk.2) (.slice Ao48 t204.length co48)) (fun _ hk => hk.2) (.slice Ao49 t207.length co49)) (fun _ h_ => h_.1))) hb) (Kd.R_base ho0)) (Kd.N_base ho1)) (fun _ h_ => h_.1)); have n2_ := Aside0.mk (Kd.R_lower (Kd.R_new' (Kd.R_mono (ok' := fun k_ => True) ho0 (fun _ hk_ => trivial)) (Kd.R_lt (by (with_reducible repeat (first | apply Kd.R_alloc | apply Kd.R_drewN | apply Kd.R_drew)); exact (Kd.R_mono (Kd.R_far (p := ⟨gb199, 4, none⟩) (Kd.R_far (p := ⟨gb199, 3, none⟩) (Kd.R_far (p := ⟨gb199, 2, none⟩) (Kd.R_far (p := ⟨gb199, 1, none⟩) (Kd.R_far (p := ⟨gb199, 0, none⟩) (Kd.R_types HO206.out BK199.out (by decide)) (fun _ hk => hk.2) (.int .i64 t201)) (fun _ hk => hk.2) (.string t202)) (fun _ hk => hk.2) (.string t203)) (fun _ hk => hk.2) (.slice Ao48 t204.length co48)) (fun _ hk => hk.2) (.slice Ao49 t207.length co49)) (fun _ h_ => h_.1))))) (below_size (by repeat (first | (with_reducible first | exact HB.out | apply below_alloc | apply pw_below_drewN | apply below_drew1 | refine below_set ?_ GE199.out) | exact HB.out)))); have n3_ := Aside0.mk (Kd.N_lower (Kd.N_mono (ok' := fun k_ => some k_ ≠ (v214 : Value).ownBlock ∧ some k_ ≠ (.slice Ao48 t204.length co48 : Value).ownBlock ∧ some k_ ≠ (.slice Ao49 t207.length co49 : Value).ownBlock ∧ k_ ≠ gb199) ho1 (fun k_ hk_ => ⟨hk_.2, (Kd.fresh' (Kd.R_lt (by (with_reducible repeat (first | apply Kd.R_alloc | apply Kd.R_drewN | apply Kd.R_drew)); exact (Kd.R_mono (Kd.R_far (p := ⟨gb199, 4, none⟩) (Kd.R_far (p := ⟨gb199, 3, none⟩) (Kd.R_far (p := ⟨gb199, 2, none⟩) (Kd.R_far (p := ⟨gb199, 1, none⟩) (Kd.R_far (p := ⟨gb199, 0, none⟩) (Kd.R_types HO206.out BK199.out (by decide)) (fun _ hk => hk.2) (.int .i64 t201)) (fun _ hk => hk.2) (.string t202)) (fun _ hk => hk.2) (.string t203)) (fun _ hk => hk.2) (.slice Ao48 t204.length co48)) (fun _ hk => hk.2) (.slice Ao49 t207.length co49)) (fun _ h_ => h_.1)))) k_ hk_.1), (Kd.fresh' (Kd.N_lt (by (with_reducible repeat (first | apply Kd.N_alloc | apply Kd.N_drewN | apply Kd.N_drew)); exact (Kd.N_mono (Kd.N_far (p := ⟨gb199, 4, none⟩) (Kd.N_far (p := ⟨gb199, 3, none⟩) (Kd.N_far (p := ⟨gb199, 2, none⟩) (Kd.N_far (p := ⟨gb199, 1, none⟩) (Kd.N_far (p := ⟨gb199, 0, none⟩) (Kd.N_mono HO209.out (fun k_ hk => (⟨hk, hk.2⟩ : _ ∧ k_ ≠ gb199))) (fun _ hk => hk.2) (.int .i64 t201)) (fun _ hk => hk.2) (.string t202)) (fun _ hk => hk.2) (.string t203)) (fun _ hk => hk.2) (.slice Ao48 t204.length co48)) (fun _ hk => hk.2) (.slice Ao49 t207.length co49)) (fun _ h_ => h_.1)))) k_ hk_.1), (Kd.freshB (g := gb199) (o := .cells #[.int .i64 t201, .string t202, .string t203, .slice Ao48 t204.length co48, .slice Ao49 t207.length co49] 25 (0, 0)) (by (with_reducible repeat (first | refine blk_drewN ?_ _ | refine blk_drew ?_ | refine blk_alloc ?_ _)); refine blk_put (cs := #[.int .i64 t201, .string t202, .string t203, .slice Ao48 t204.length co48, .slice A0_4 l0_4.length c0_4]) ?_ 4 _ rfl; (with_reducible repeat (first | refine blk_drewN ?_ _ | refine blk_drew ?_ | refine blk_alloc ?_ _)); refine blk_put (cs := #[.int .i64 t201, .string t202, .string t203, .slice A0_3 l0_3.length c0_3, .slice A0_4 l0_4.length c0_4]) ?_ 3 _ rfl; (with_reducible repeat (first | refine blk_drewN ?_ _ | refine blk_drew ?_ | refine blk_alloc ?_ _)); refine blk_put (cs := #[.int .i64 t201, .string t202, .string a0_2, .slice A0_3 l0_3.length c0_3, .slice A0_4 l0_4.length c0_4]) ?_ 2 _ rfl; (with_reducible repeat (first | refine blk_drewN ?_ _ | refine blk_drew ?_ | refine blk_alloc ?_ _)); refine blk_put (cs := #[.int .i64 t201, .string a0_1, .string a0_2, .slice A0_3 l0_3.length c0_3, .slice A0_4 l0_4.length c0_4]) ?_ 1 _ rfl; (with_reducible repeat (first | refine blk_drewN ?_ _ | refine blk_drew ?_ | refine blk_alloc ?_ _)); refine blk_put (cs := #[.int .i64 a0_0, .string a0_1, .string a0_2, .slice A0_3 l0_3.length c0_3, .slice A0_4 l0_4.length c0_4]) ?_ 0 _ rfl; (with_reducible repeat (first | refine blk_drewN ?_ _ | refine blk_drew ?_ | refine blk_alloc ?_ _)); exact BK199.out) k_ hk_.1)⟩)) (below_size (by repeat (first | (with_reducible first | exact HB.out | apply below_alloc | apply pw_below_drewN | apply below_drew1 | refine below_set ?_ GE199.out) | exact HB.out)))); have n4_ := Aside0.mk (blk_below (g := gb199) (o := .cells #[.int .i64 t201, .string t202, .string t203, .slice Ao48 t204.length co48, .slice Ao49 t207.length co49] 25 (0, 0)) (by (with_reducible repeat (first | refine blk_drewN ?_ _ | refine blk_drew ?_ | refine blk_alloc ?_ _)); refine blk_put (cs := #[.int .i64 t201, .string t202, .string t203, .slice Ao48 t204.length co48, .slice A0_4 l0_4.length c0_4]) ?_ 4 _ rfl; (with_reducible repeat (first | refine blk_drewN ?_ _ | refine blk_drew ?_ | refine blk_alloc ?_ _)); refine blk_put (cs := #[.int .i64 t201, .string t202, .string t203, .slice A0_3 l0_3.length c0_3, .slice A0_4 l0_4.length c0_4]) ?_ 3 _ rfl; (with_reducible repeat (first | refine blk_drewN ?_ _ | refine blk_drew ?_ | refine blk_alloc ?_ _)); refine blk_put (cs := #[.int .i64 t201, .string t202, .string a0_2, .slice A0_3 l0_3.length c0_3, .slice A0_4 l0_4.length c0_4]) ?_ 2 _ rfl; (with_reducible repeat (first | refine blk_drewN ?_ _ | refine blk_drew ?_ | refine blk_alloc ?_ _)); refine blk_put (cs := #[.int .i64 t201, .string a0_1, .string a0_2, .slice A0_3 l0_3.length c0_3, .slice A0_4 l0_4.length c0_4]) ?_ 1 _ rfl; (with_reducible repeat (first | refine blk_drewN ?_ _ | refine blk_drew ?_ | refine blk_alloc ?_ _)); refine blk_put (cs := #[.int .i64 a0_0, .string a0_1, .string a0_2, .slice A0_3 l0_3.length c0_3, .slice A0_4 l0_4.length c0_4]) ?_ 0 _ rfl; (with_reducible repeat (first | refine blk_drewN ?_ _ | refine blk_drew ?_ | refine blk_alloc ?_ _)); exact BK199.out) hb); have n5_ := Aside0.mk (below_step (by repeat (first | (with_reducible first | exact HB.out | apply below_alloc | apply pw_below_drewN | apply below_drew1 | refine below_set ?_ GE199.out) | exact HB.out)) hb); clear HO206; clear HO209; clear BK199; clear HB; have HO206 := n0_; have HO209 := n1_; have HO215 := n2_; have HO218 := n3_; have BK199 := n4_; have HB := n5_; clear n0_ n1_ n2_ n3_ n4_ n5_; (try clear hb); (try clear hb2); (try clear hk); (try clear hi); (try clear ho0); (try clear ho1)) | ((with_reducible refine gate_dst (N := 3) rfl ?_); (try (refine gate_guard (by rfl) ?_; dsimp only)); refine box_event ?hg (N := 3) ?hd (cs := #[.int .i64 0, .string (⟨#[]⟩ : ByteArray), .string (⟨#[]⟩ : ByteArray), .slice none 0 0, .slice none 0 0]) (t := 25) ?hr ?_; (case hd => rfl); (case hg => rfl); (case hr => first | (go_simp; done) | (go_simp; rfl)); intro gb219 hg w51 hbox hb; have n0_ := Aside0.mk (Kd.R_below (by (with_reducible repeat (first | apply Kd.R_alloc | apply Kd.R_drewN | apply Kd.R_drew)); exact HO206.out) hb); have n1_ := Aside0.mk (Kd.N_below (Kd.N_elderB (by (with_reducible repeat (first | apply Kd.N_alloc | apply Kd.N_drewN | apply Kd.N_drew)); exact HO209.out) gb219 (Nat.le_of_eq hg.symm)) hb); have n2_ := Aside0.mk (Kd.R_below (by (with_reducible repeat (first | apply Kd.R_alloc | apply Kd.R_drewN | apply Kd.R_drew)); exact HO215.out) hb); have n3_ := Aside0.mk (Kd.N_below (Kd.N_elderB (by (with_reducible repeat (first | apply Kd.N_alloc | apply Kd.N_drewN | apply Kd.N_drew)); exact HO218.out) gb219 (Nat.le_of_eq hg.symm)) hb); have n4_ := Aside0.mk (blk_below (g := gb199) (o := .cells #[.int .i64 t201, .string t202, .string t203, .slice Ao48 t204.length co48, .slice Ao49 t207.length co49] 25 (0, 0)) (by (with_reducible repeat (first | refine blk_drewN ?_ _ | refine blk_drew ?_ | refine blk_alloc ?_ _)); exact BK199.out) hb); have n5_ := Aside0.mk (below_step (by repeat (first | (with_reducible first | exact HB.out | apply below_alloc | apply pw_below_drewN | apply below_drew1 | refine below_set ?_ GE199.out) | exact HB.out)) hb); have n6_ := Aside0.mk (hbox); have n7_ := Aside0.mk ((by rw [hg]; exact (below_size (by repeat (first | (with_reducible first | exact HB.out | apply below_alloc | apply pw_below_drewN | apply below_drew1 | refine below_set ?_ GE199.out) | exact HB.out))) : w.heap.size ≤ gb219)); have n8_ := Aside0.mk ((by rw [hg]; exact (below_size (by repeat (first | (with_reducible first | exact HB.out | apply below_alloc | apply pw_below_drewN | apply below_drew1 | refine below_set ?_ GE199.out) | exact HB.out))) : w.heap.size ≤ gb219)); have n9_ := Aside0.mk ((by rw [hg]; exact Nat.ne_of_lt (blk_lt (g := gb199) (o := .cells #[.int .i64 t201, .string t202, .string t203, .slice Ao48 t204.length co48, .slice Ao49 t207.length co49] 25 (0, 0)) (by (with_reducible repeat (first | refine blk_drewN ?_ _ | refine blk_drew ?_ | refine blk_alloc ?_ _)); exact BK199.out)) : gb199 ≠ gb219)); have n10_ := Aside0.mk ((by rw [hg]; exact Nat.ne_of_gt (blk_lt (g := gb199) (o := .cells #[.int .i64 t201, .string t202, .string t203, .slice Ao48 t204.length co48, .slice Ao49 t207.length co49] 25 (0, 0)) (by (with_reducible repeat (first | refine blk_drewN ?_ _ | refine blk_drew ?_ | refine blk_alloc ?_ _)); exact BK199.out)) : gb219 ≠ gb199)); clear HO206; clear HO209; clear HO215; clear HO218; clear BK199; clear HB; have HO206 := n0_; have HO209 := n1_; have HO215 := n2_; have HO218 := n3_; have BK199 := n4_; have HB := n5_; have BK219 := n6_; have GW219 := n7_; have GE219 := n8_; have NB199_219 := n9_; have NB219_199 := n10_; clear n0_ n1_ n2_ n3_ n4_ n5_ n6_ n7_ n8_ n9_ n10_; clear hb hbox hg; have hnb52 := NB219_199.out; have hnc52 := NB199_219.out; have hcz53_0 : w51.cell? ⟨gb219, 0, none⟩ = some (.int .i64 0) := (blk_cell BK219.out 0).trans rfl; have hcz53_1 : w51.cell? ⟨gb219, 1, none⟩ = some (.string (⟨#[]⟩ : ByteArray)) := (blk_cell BK219.out 1).trans rfl; have hcz53_2 : w51.cell? ⟨gb219, 2, none⟩ = some (.string (⟨#[]⟩ : ByteArray)) := (blk_cell BK219.out 2).trans rfl; have hcz53_3 : w51.cell? ⟨gb219, 3, none⟩ = some (.slice none 0 0) := (blk_cell BK219.out 3).trans rfl; have hcz53_4 : w51.cell? ⟨gb219, 4, none⟩ = some (.slice none 0 0) := (blk_cell BK219.out 4).trans rfl; have hfz53_0 := blk_frozen BK219.out 0; have hfz53_1 := blk_frozen BK219.out 1; have hfz53_2 := blk_frozen BK219.out 2; have hfz53_3 := blk_frozen BK219.out 3; have hfz53_4 := blk_frozen BK219.out 4; obtain ⟨Ao54, co54, eo54⟩ := Kd.R_slice HO215.out; subst eo54; obtain ⟨Ao55, co55, eo55⟩ := Kd.N_slice HO218.out; subst eo55))
          have n0_ : Aside0 (Kd.R k53 53 (((((w51.setCell ⟨gb219, 0, none⟩ (.int .i64 t210)).setCell ⟨gb219, 1, none⟩ (.string t211)).setCell ⟨gb219, 2, none⟩ (.string t212)).setCell ⟨gb219, 3, none⟩ (.slice Ao54 t213.length co54)).setCell ⟨gb219, 4, none⟩ (.slice Ao55 t216.length co55)) w.heap.size (fun k_ => some k_ ≠ (.slice Ao54 t213.length co54 : Value).ownBlock) (.slice Ao48 t204.length co48) t204) := ⟨by (with_reducible repeat (first | apply Kd.R_alloc | apply Kd.R_drewN | apply Kd.R_drew)); exact Kd.R_mono (Kd.R_far (p := ⟨gb219, 4, none⟩) (Kd.R_far (p := ⟨gb219, 3, none⟩) (Kd.R_far (p := ⟨gb219, 2, none⟩) (Kd.R_far (p := ⟨gb219, 1, none⟩) (Kd.R_far (p := ⟨gb219, 0, none⟩) (Kd.R_types HO206.out BK219.out (by decide)) (fun _ hk => hk.2) (.int .i64 t210)) (fun _ hk => hk.2) (.string t211)) (fun _ hk => hk.2) (.string t212)) (fun _ hk => hk.2) (.slice Ao54 t213.length co54)) (fun _ hk => hk.2) (.slice Ao55 t216.length co55)) (fun _ hk => hk.1.2)⟩
          have n1_ : Aside0 (Kd.N k25 25 (((((w51.setCell ⟨gb219, 0, none⟩ (.int .i64 t210)).setCell ⟨gb219, 1, none⟩ (.string t211)).setCell ⟨gb219, 2, none⟩ (.string t212)).setCell ⟨gb219, 3, none⟩ (.slice Ao54 t213.length co54)).setCell ⟨gb219, 4, none⟩ (.slice Ao55 t216.length co55)) w.heap.size (fun k_ => some k_ ≠ (.slice Ao48 t204.length co48 : Value).ownBlock ∧ some k_ ≠ (.slice Ao54 t213.length co54 : Value).ownBlock ∧ some k_ ≠ (.slice Ao55 t216.length co55 : Value).ownBlock ∧ k_ ≠ gb199 ∧ k_ ≠ gb219) (.slice Ao49 t207.length co49) t207) := ⟨by (with_reducible repeat (first | apply Kd.N_alloc | apply Kd.N_drewN | apply Kd.N_drew)); exact Kd.N_mono (Kd.N_far (p := ⟨gb219, 4, none⟩) (Kd.N_far (p := ⟨gb219, 3, none⟩) (Kd.N_far (p := ⟨gb219, 2, none⟩) (Kd.N_far (p := ⟨gb219, 1, none⟩) (Kd.N_far (p := ⟨gb219, 0, none⟩) (Kd.N_mono HO209.out (fun k_ hk => (⟨hk, hk.2⟩ : _ ∧ k_ ≠ gb219))) (fun _ hk => hk.2) (.int .i64 t210)) (fun _ hk => hk.2) (.string t211)) (fun _ hk => hk.2) (.string t212)) (fun _ hk => hk.2) (.slice Ao54 t213.length co54)) (fun _ hk => hk.2) (.slice Ao55 t216.length co55)) (fun _ hk => ⟨hk.1.1.1.1.1, ⟨hk.1.1.1.2, ⟨hk.1.1.2, ⟨hk.1.1.1.1.2, hk.1.2⟩⟩⟩⟩)⟩
          have n2_ : Aside0 (Kd.R k53 53 (((((w51.setCell ⟨gb219, 0, none⟩ (.int .i64 t210)).setCell ⟨gb219, 1, none⟩ (.string t211)).setCell ⟨gb219, 2, none⟩ (.string t212)).setCell ⟨gb219, 3, none⟩ (.slice Ao54 t213.length co54)).setCell ⟨gb219, 4, none⟩ (.slice Ao55 t216.length co55)) w.heap.size (fun k_ => some k_ ≠ (.slice Ao48 t204.length co48 : Value).ownBlock) (.slice Ao54 t213.length co54) t213) := ⟨by (with_reducible repeat (first | apply Kd.R_alloc | apply Kd.R_drewN | apply Kd.R_drew)); exact Kd.R_mono (Kd.R_far (p := ⟨gb219, 4, none⟩) (Kd.R_far (p := ⟨gb219, 3, none⟩) (Kd.R_far (p := ⟨gb219, 2, none⟩) (Kd.R_far (p := ⟨gb219, 1, none⟩) (Kd.R_far (p := ⟨gb219, 0, none⟩) (Kd.R_types HO215.out BK219.out (by decide)) (fun _ hk => hk.2) (.int .i64 t210)) (fun _ hk => hk.2) (.string t211)) (fun _ hk => hk.2) (.string t212)) (fun _ hk => hk.2) (.slice Ao54 t213.length co54)) (fun _ hk => hk.2) (.slice Ao55 t216.length co55)) (fun _ hk => hk.1.2)⟩
          have n3_ : Aside0 (Kd.N k25 25 (((((w51.setCell ⟨gb219, 0, none⟩ (.int .i64 t210)).setCell ⟨gb219, 1, none⟩ (.string t211)).setCell ⟨gb219, 2, none⟩ (.string t212)).setCell ⟨gb219, 3, none⟩ (.slice Ao54 t213.length co54)).setCell ⟨gb219, 4, none⟩ (.slice Ao55 t216.length co55)) w.heap.size (fun k_ => some k_ ≠ (.slice Ao48 t204.length co48 : Value).ownBlock ∧ some k_ ≠ (.slice Ao49 t207.length co49 : Value).ownBlock ∧ some k_ ≠ (.slice Ao54 t213.length co54 : Value).ownBlock ∧ k_ ≠ gb199 ∧ k_ ≠ gb219) (.slice Ao55 t216.length co55) t216) := ⟨by (with_reducible repeat (first | apply Kd.N_alloc | apply Kd.N_drewN | apply Kd.N_drew)); exact Kd.N_mono (Kd.N_far (p := ⟨gb219, 4, none⟩) (Kd.N_far (p := ⟨gb219, 3, none⟩) (Kd.N_far (p := ⟨gb219, 2, none⟩) (Kd.N_far (p := ⟨gb219, 1, none⟩) (Kd.N_far (p := ⟨gb219, 0, none⟩) (Kd.N_mono HO218.out (fun k_ hk => (⟨hk, hk.2⟩ : _ ∧ k_ ≠ gb219))) (fun _ hk => hk.2) (.int .i64 t210)) (fun _ hk => hk.2) (.string t211)) (fun _ hk => hk.2) (.string t212)) (fun _ hk => hk.2) (.slice Ao54 t213.length co54)) (fun _ hk => hk.2) (.slice Ao55 t216.length co55)) (fun _ hk => ⟨hk.1.1.2.1, ⟨hk.1.1.2.2.1, ⟨hk.1.1.1, ⟨hk.1.1.2.2.2, hk.1.2⟩⟩⟩⟩)⟩
          have n4_ : Aside0 ((((((w51.setCell ⟨gb219, 0, none⟩ (.int .i64 t210)).setCell ⟨gb219, 1, none⟩ (.string t211)).setCell ⟨gb219, 2, none⟩ (.string t212)).setCell ⟨gb219, 3, none⟩ (.slice Ao54 t213.length co54)).setCell ⟨gb219, 4, none⟩ (.slice Ao55 t216.length co55)).heap[gb199]? = some (.cells #[.int .i64 t201, .string t202, .string t203, .slice Ao48 t204.length co48, .slice Ao49 t207.length co49] 25 (0, 0))) := ⟨by (with_reducible repeat (first | refine blk_drewN ?_ _ | refine blk_drew ?_ | refine blk_alloc ?_ _)); refine blk_far ?_ NB199_219.out _; (with_reducible repeat (first | refine blk_drewN ?_ _ | refine blk_drew ?_ | refine blk_alloc ?_ _)); refine blk_far ?_ NB199_219.out _; (with_reducible repeat (first | refine blk_drewN ?_ _ | refine blk_drew ?_ | refine blk_alloc ?_ _)); refine blk_far ?_ NB199_219.out _; (with_reducible repeat (first | refine blk_drewN ?_ _ | refine blk_drew ?_ | refine blk_alloc ?_ _)); refine blk_far ?_ NB199_219.out _; (with_reducible repeat (first | refine blk_drewN ?_ _ | refine blk_drew ?_ | refine blk_alloc ?_ _)); refine blk_far ?_ NB199_219.out _; (with_reducible repeat (first | refine blk_drewN ?_ _ | refine blk_drew ?_ | refine blk_alloc ?_ _)); exact BK199.out⟩
          have n5_ : Aside0 ((((((w51.setCell ⟨gb219, 0, none⟩ (.int .i64 t210)).setCell ⟨gb219, 1, none⟩ (.string t211)).setCell ⟨gb219, 2, none⟩ (.string t212)).setCell ⟨gb219, 3, none⟩ (.slice Ao54 t213.length co54)).setCell ⟨gb219, 4, none⟩ (.slice Ao55 t216.length co55)).heap[gb219]? = some (.cells #[.int .i64 t210, .string t211, .string t212, .slice Ao54 t213.length co54, .slice Ao55 t216.length co55] 25 (0, 0))) := ⟨by (with_reducible repeat (first | refine blk_drewN ?_ _ | refine blk_drew ?_ | refine blk_alloc ?_ _)); refine blk_put (cs := #[.int .i64 t210, .string t211, .string t212, .slice Ao54 t213.length co54, .slice none 0 0]) ?_ 4 _ rfl; (with_reducible repeat (first | refine blk_drewN ?_ _ | refine blk_drew ?_ | refine blk_alloc ?_ _)); refine blk_put (cs := #[.int .i64 t210, .string t211, .string t212, .slice none 0 0, .slice none 0 0]) ?_ 3 _ rfl; (with_reducible repeat (first | refine blk_drewN ?_ _ | refine blk_drew ?_ | refine blk_alloc ?_ _)); refine blk_put (cs := #[.int .i64 t210, .string t211, .string (⟨#[]⟩ : ByteArray), .slice none 0 0, .slice none 0 0]) ?_ 2 _ rfl; (with_reducible repeat (first | refine blk_drewN ?_ _ | refine blk_drew ?_ | refine blk_alloc ?_ _)); refine blk_put (cs := #[.int .i64 t210, .string (⟨#[]⟩ : ByteArray), .string (⟨#[]⟩ : ByteArray), .slice none 0 0, .slice none 0 0]) ?_ 1 _ rfl; (with_reducible repeat (first | refine blk_drewN ?_ _ | refine blk_drew ?_ | refine blk_alloc ?_ _)); refine blk_put (cs := #[.int .i64 0, .string (⟨#[]⟩ : ByteArray), .string (⟨#[]⟩ : ByteArray), .slice none 0 0, .slice none 0 0]) ?_ 0 _ rfl; (with_reducible repeat (first | refine blk_drewN ?_ _ | refine blk_drew ?_ | refine blk_alloc ?_ _)); exact BK219.out⟩
          have n6_ : Aside0 (Below w.heap.size w (((((w51.setCell ⟨gb219, 0, none⟩ (.int .i64 t210)).setCell ⟨gb219, 1, none⟩ (.string t211)).setCell ⟨gb219, 2, none⟩ (.string t212)).setCell ⟨gb219, 3, none⟩ (.slice Ao54 t213.length co54)).setCell ⟨gb219, 4, none⟩ (.slice Ao55 t216.length co55))) := ⟨by repeat (first | (with_reducible first | exact HB.out | apply below_alloc | apply pw_below_drewN | apply below_drew1 | refine below_set ?_ GE199.out | refine below_set ?_ GE219.out) | exact HB.out)⟩
          (try clear HO206)
          (try clear HO209)
          (try clear HO215)
          (try clear HO218)
          (try clear BK199)
          (try clear BK219)
          (try clear HB)
          generalize (((((w51.setCell ⟨gb219, 0, none⟩ (.int .i64 t210)).setCell ⟨gb219, 1, none⟩ (.string t211)).setCell ⟨gb219, 2, none⟩ (.string t212)).setCell ⟨gb219, 3, none⟩ (.slice Ao54 t213.length co54)).setCell ⟨gb219, 4, none⟩ (.slice Ao55 t216.length co55)) = w56 at n0_ n1_ n2_ n3_ n4_ n5_ n6_ ⊢
          have HO206 := n0_
          have HO209 := n1_
          have HO215 := n2_
          have HO218 := n3_
          have BK199 := n4_
          have BK219 := n5_
          have HB := n6_
          clear n0_ n1_ n2_ n3_ n4_ n5_ n6_
          have n0_ := Aside0.mk (Kd.R_drew HO206.out)
          have n1_ := Aside0.mk (Kd.N_drew HO209.out)
          have n2_ := Aside0.mk (Kd.R_drew HO215.out)
          have n3_ := Aside0.mk (Kd.N_drew HO218.out)
          have n4_ := Aside0.mk (blk_drew BK199.out)
          have n5_ := Aside0.mk (blk_drew BK219.out)
          have n6_ := Aside0.mk (below_drew1 HB.out)
          clear HO206
          clear HO209
          clear HO215
          clear HO218
          clear BK199
          clear BK219
          clear HB
          have HO206 := n0_
          have HO209 := n1_
          have HO215 := n2_
          have HO218 := n3_
          have BK199 := n4_
          have BK219 := n5_
          have HB := n6_
          clear n0_ n1_ n2_ n3_ n4_ n5_ n6_
          refine start_ (n := 21) (S := fun w' => w'.cell? ⟨gb219, 0, none⟩ = some (.int .i64 t210) ∧ w'.cell? ⟨gb219, 1, none⟩ = some (.string t211) ∧ w'.cell? ⟨gb219, 2, none⟩ = some (.string t212) ∧ w'.cell? ⟨gb219, 3, none⟩ = some (.slice Ao54 t213.length co54) ∧ w'.cell? ⟨gb219, 4, none⟩ = some (.slice Ao55 t216.length co55) ∧ w'.cell? ⟨gb199, 0, none⟩ = some (.int .i64 t201) ∧ w'.cell? ⟨gb199, 1, none⟩ = some (.string t202) ∧ w'.cell? ⟨gb199, 2, none⟩ = some (.string t203) ∧ w'.cell? ⟨gb199, 3, none⟩ = some (.slice Ao48 t204.length co48) ∧ w'.cell? ⟨gb199, 4, none⟩ = some (.slice Ao49 t207.length co49)) (ds := []) #[false, false, false, false, false, false, false, false, false, false, false, false, false, false, false, false, false, false, false, false, false] (by kernel_rfl) rfl rfl ⟨(blk_cell BK219.out 0).trans rfl, (blk_cell BK219.out 1).trans rfl, (blk_cell BK219.out 2).trans rfl, (blk_cell BK219.out 3).trans rfl, (blk_cell BK219.out 4).trans rfl, (blk_cell BK199.out 0).trans rfl, (blk_cell BK199.out 1).trans rfl, (blk_cell BK199.out 2).trans rfl, (blk_cell BK199.out 3).trans rfl, (blk_cell BK199.out 4).trans rfl⟩ (fun hHeld => ?_); refine with_tabW laws_FnEmptyCode.tab5 laws_FnEmptyCode.bits5 (fun HT_ HW_ => ?_)
          generalize w56.drew = w57 at HO206 HO209 HO215 HO218 BK199 BK219 HB hHeld ⊢
          refine take_ (i := 0) (N := some 11) (v := ?_) (a' := ?_) #[true, false, false, false, false, false, false, false, false, false, false, false, false, false, false, false, false, false, false, false, false] rfl rfl (take_ofW HT_.out HW_.out (by kernel_rfl)) (fun _ _ _ h => h) (Or.inl ⟨by rfl, ?_⟩) hHeld ?_ ?_
          rotate_left
          · rintro w' ⟨s0, s1, s2, s3, s4, s5, s6, s7, s8, s9⟩
            go_simp
            with_reducible rfl
          rotate_left
          · simp only [Act.put, List.setIfInBounds_toArray, List.set_cons_zero, List.set_cons_succ, i64_w, i32_w]
            rfl
          refine take_ (i := 3) (N := some 14) (v := ?_) (a' := ?_) #[true, false, false, true, false, false, false, false, false, false, false, false, false, false, false, false, false, false, false, false, false] rfl rfl (take_ofW HT_.out HW_.out (by kernel_rfl)) (fun _ _ _ h => h) (Or.inl ⟨by rfl, ?_⟩) hHeld ?_ ?_
          rotate_left
          · rintro w' ⟨s0, s1, s2, s3, s4, s5, s6, s7, s8, s9⟩
            go_simp
            with_reducible rfl
          rotate_left
          · simp only [Act.put, List.setIfInBounds_toArray, List.set_cons_zero, List.set_cons_succ, i64_w, i32_w]
            rfl
          refine one_ (i := 1) (N := some 12) #[true, true, false, true, false, false, false, false, false, false, false, false, false, false, false, false, false, false, false, false, false] rfl rfl (one_of HT_.out (by kernel_rfl)) (by decide) (fun K hK => ?_)
          refine goes_ Try.func13 (by kernel_rfl) rfl #[.agg #[.int .i64 t210, .string t211, .string t212, .slice Ao54 t213.length co54, .slice Ao55 t216.length co55]] (by rfl) rfl rfl (by (try simp only [List.map_toArray, List.map_cons, List.map_nil]); first | done | rfl | (simp only [List.length_drop, List.length_take]; rfl)) ?_
          with_reducible refine (spec_TextOf.calls k t210 t211 t212 _ _ t213 _ _ t216 t220 _ ?side1 ?side2 ?side3 ?side4 A6.out).mono ?_
          (case side1 => repeat (first | exact (Kd.R_reads' HO215.out).2.2 | (with_reducible refine Kd.C_alloc ?_ _) | (with_reducible refine Kd.C_drewN ?_ _) | (with_reducible refine Kd.C_drew ?_)))
          (case side2 => exact (Kd.R_reads' HO215.out).2.1)
          (case side3 => repeat (first | exact (Kd.N_reads' HO218.out).2.2 | (with_reducible refine Kd.C_alloc ?_ _) | (with_reducible refine Kd.C_drewN ?_ _) | (with_reducible refine Kd.C_drew ?_)))
          (case side4 => exact (Kd.N_reads' HO218.out).2.1)
          rintro e w58 ⟨rfl, hb⟩
          refine ⟨_, rfl, ?_⟩
          have n0_ := Aside0.mk (Kd.R_below (by (with_reducible repeat (first | apply Kd.R_alloc | apply Kd.R_drewN | apply Kd.R_drew)); exact HO206.out) hb)
          have n1_ := Aside0.mk (Kd.N_below (by (with_reducible repeat (first | apply Kd.N_alloc | apply Kd.N_drewN | apply Kd.N_drew)); exact HO209.out) hb)
          have n2_ := Aside0.mk (Kd.R_below (by (with_reducible repeat (first | apply Kd.R_alloc | apply Kd.R_drewN | apply Kd.R_drew)); exact HO215.out) hb)
          have n3_ := Aside0.mk (Kd.N_below (by (with_reducible repeat (first | apply Kd.N_alloc | apply Kd.N_drewN | apply Kd.N_drew)); exact HO218.out) hb)
          have n4_ := Aside0.mk (blk_below (g := gb199) (o := .cells #[.int .i64 t201, .string t202, .string t203, .slice Ao48 t204.length co48, .slice Ao49 t207.length co49] 25 (0, 0)) (by (with_reducible repeat (first | refine blk_drewN ?_ _ | refine blk_drew ?_ | refine blk_alloc ?_ _)); exact BK199.out) hb)
          have n5_ := Aside0.mk (blk_below (g := gb219) (o := .cells #[.int .i64 t210, .string t211, .string t212, .slice Ao54 t213.length co54, .slice Ao55 t216.length co55] 25 (0, 0)) (by (with_reducible repeat (first | refine blk_drewN ?_ _ | refine blk_drew ?_ | refine blk_alloc ?_ _)); exact BK219.out) hb)
          have n6_ := Aside0.mk (below_step (by repeat (first | (with_reducible first | exact HB.out | apply below_alloc | apply pw_below_drewN | apply below_drew1 | refine below_set ?_ GE199.out | refine below_set ?_ GE219.out) | exact HB.out)) hb)
          clear HO206
          clear HO209
          clear HO215
          clear HO218
          clear BK199
          clear BK219
          clear HB
          have HO206 := n0_
          have HO209 := n1_
          have HO215 := n2_
          have HO218 := n3_
          have BK199 := n4_
          have BK219 := n5_
          have HB := n6_
          clear n0_ n1_ n2_ n3_ n4_ n5_ n6_
          (try clear hb)
          (try clear hb2)
          (try clear hk)
          (try clear hi)
          refine hK.out _ _ ⟨(blk_cell BK219.out 0).trans rfl, (blk_cell BK219.out 1).trans rfl, (blk_cell BK219.out 2).trans rfl, (blk_cell BK219.out 3).trans rfl, (blk_cell BK219.out 4).trans rfl, (blk_cell BK199.out 0).trans rfl, (blk_cell BK199.out 1).trans rfl, (blk_cell BK199.out 2).trans rfl, (blk_cell BK199.out 3).trans rfl, (blk_cell BK199.out 4).trans rfl⟩ (fun hHeld => ?_)
          clear hK K
          refine norm_ (a' := ?_) ?_ ?_
          rotate_left
          · show Act.put _ (some 12) _ = _
            simp only [Act.put, List.setIfInBounds_toArray, List.set_cons_zero, List.set_cons_succ, i64_w, i32_w]
            rfl
          refine one_ (i := 2) (N := some 13) #[true, true, true, true, false, false, false, false, false, false, false, false, false, false, false, false, false, false, false, false, false] rfl rfl (one_of HT_.out (by kernel_rfl)) (by decide) (fun K hK => ?_)
          refine goes_ Try.func17 (by kernel_rfl) rfl #[.string t220] (by rfl) rfl rfl (by (try simp only [List.map_toArray, List.map_cons, List.map_nil]); first | done | rfl | (simp only [List.length_drop, List.length_take]; rfl)) ?_
          with_reducible refine (spec_Solid.calls k t220 t221 _ A7.out).mono ?_
          rintro e w59 ⟨rfl, hb⟩
          refine ⟨_, rfl, ?_⟩
          have n0_ := Aside0.mk (Kd.R_below (by (with_reducible repeat (first | apply Kd.R_alloc | apply Kd.R_drewN | apply Kd.R_drew)); exact HO206.out) hb)
          have n1_ := Aside0.mk (Kd.N_below (by (with_reducible repeat (first | apply Kd.N_alloc | apply Kd.N_drewN | apply Kd.N_drew)); exact HO209.out) hb)
          have n2_ := Aside0.mk (Kd.R_below (by (with_reducible repeat (first | apply Kd.R_alloc | apply Kd.R_drewN | apply Kd.R_drew)); exact HO215.out) hb)
          have n3_ := Aside0.mk (Kd.N_below (by (with_reducible repeat (first | apply Kd.N_alloc | apply Kd.N_drewN | apply Kd.N_drew)); exact HO218.out) hb)
          have n4_ := Aside0.mk (blk_below (g := gb199) (o := .cells #[.int .i64 t201, .string t202, .string t203, .slice Ao48 t204.length co48, .slice Ao49 t207.length co49] 25 (0, 0)) (by (with_reducible repeat (first | refine blk_drewN ?_ _ | refine blk_drew ?_ | refine blk_alloc ?_ _)); exact BK199.out) hb)
          have n5_ := Aside0.mk (blk_below (g := gb219) (o := .cells #[.int .i64 t210, .string t211, .string t212, .slice Ao54 t213.length co54, .slice Ao55 t216.length co55] 25 (0, 0)) (by (with_reducible repeat (first | refine blk_drewN ?_ _ | refine blk_drew ?_ | refine blk_alloc ?_ _)); exact BK219.out) hb)
          have n6_ := Aside0.mk (below_step (by repeat (first | (with_reducible first | exact HB.out | apply below_alloc | apply pw_below_drewN | apply below_drew1 | refine below_set ?_ GE199.out | refine below_set ?_ GE219.out) | exact HB.out)) hb)
          clear HO206
          clear HO209
          clear HO215
          clear HO218
          clear BK199
          clear BK219
          clear HB
          have HO206 := n0_
          have HO209 := n1_
          have HO215 := n2_
          have HO218 := n3_
          have BK199 := n4_
          have BK219 := n5_
          have HB := n6_
          clear n0_ n1_ n2_ n3_ n4_ n5_ n6_
          (try clear hb)
          (try clear hb2)
          (try clear hk)
          (try clear hi)
          refine hK.out _ _ ⟨(blk_cell BK219.out 0).trans rfl, (blk_cell BK219.out 1).trans rfl, (blk_cell BK219.out 2).trans rfl, (blk_cell BK219.out 3).trans rfl, (blk_cell BK219.out 4).trans rfl, (blk_cell BK199.out 0).trans rfl, (blk_cell BK199.out 1).trans rfl, (blk_cell BK199.out 2).trans rfl, (blk_cell BK199.out 3).trans rfl, (blk_cell BK199.out 4).trans rfl⟩ (fun hHeld => ?_)
          clear hK K
          refine norm_ (a' := ?_) ?_ ?_
          rotate_left
          · show Act.put _ (some 13) _ = _
            simp only [Act.put, List.setIfInBounds_toArray, List.set_cons_zero, List.set_cons_succ, i64_w, i32_w]
            rfl
          refine one_ (i := 4) (N := some 15) #[true, true, true, true, true, false, false, false, false, false, false, false, false, false, false, false, false, false, false, false, false] rfl rfl (one_of HT_.out (by kernel_rfl)) (by decide) (fun K hK => ?_)
          refine goes_ Try.func13 (by kernel_rfl) rfl #[.agg #[.int .i64 t201, .string t202, .string t203, .slice Ao48 t204.length co48, .slice Ao49 t207.length co49]] (by rfl) rfl rfl (by (try simp only [List.map_toArray, List.map_cons, List.map_nil]); first | done | rfl | (simp only [List.length_drop, List.length_take]; rfl)) ?_
          with_reducible refine (spec_TextOf.calls k t201 t202 t203 _ _ t204 _ _ t207 t222 _ ?side1 ?side2 ?side3 ?side4 A8.out).mono ?_
          (case side1 => repeat (first | exact (Kd.R_reads' HO206.out).2.2 | (with_reducible refine Kd.C_alloc ?_ _) | (with_reducible refine Kd.C_drewN ?_ _) | (with_reducible refine Kd.C_drew ?_)))
          (case side2 => exact (Kd.R_reads' HO206.out).2.1)
          (case side3 => repeat (first | exact (Kd.N_reads' HO209.out).2.2 | (with_reducible refine Kd.C_alloc ?_ _) | (with_reducible refine Kd.C_drewN ?_ _) | (with_reducible refine Kd.C_drew ?_)))
          (case side4 => exact (Kd.N_reads' HO209.out).2.1)
          rintro e w60 ⟨rfl, hb⟩
          refine ⟨_, rfl, ?_⟩
          have n0_ := Aside0.mk (Kd.R_below (by (with_reducible repeat (first | apply Kd.R_alloc | apply Kd.R_drewN | apply Kd.R_drew)); exact HO206.out) hb)
          have n1_ := Aside0.mk (Kd.N_below (by (with_reducible repeat (first | apply Kd.N_alloc | apply Kd.N_drewN | apply Kd.N_drew)); exact HO209.out) hb)
          have n2_ := Aside0.mk (Kd.R_below (by (with_reducible repeat (first | apply Kd.R_alloc | apply Kd.R_drewN | apply Kd.R_drew)); exact HO215.out) hb)
          have n3_ := Aside0.mk (Kd.N_below (by (with_reducible repeat (first | apply Kd.N_alloc | apply Kd.N_drewN | apply Kd.N_drew)); exact HO218.out) hb)
          have n4_ := Aside0.mk (blk_below (g := gb199) (o := .cells #[.int .i64 t201, .string t202, .string t203, .slice Ao48 t204.length co48, .slice Ao49 t207.length co49] 25 (0, 0)) (by (with_reducible repeat (first | refine blk_drewN ?_ _ | refine blk_drew ?_ | refine blk_alloc ?_ _)); exact BK199.out) hb)
          have n5_ := Aside0.mk (blk_below (g := gb219) (o := .cells #[.int .i64 t210, .string t211, .string t212, .slice Ao54 t213.length co54, .slice Ao55 t216.length co55] 25 (0, 0)) (by (with_reducible repeat (first | refine blk_drewN ?_ _ | refine blk_drew ?_ | refine blk_alloc ?_ _)); exact BK219.out) hb)
          have n6_ := Aside0.mk (below_step (by repeat (first | (with_reducible first | exact HB.out | apply below_alloc | apply pw_below_drewN | apply below_drew1 | refine below_set ?_ GE199.out | refine below_set ?_ GE219.out) | exact HB.out)) hb)
          clear HO206
          clear HO209
          clear HO215
          clear HO218
          clear BK199
          clear BK219
          clear HB
          have HO206 := n0_
          have HO209 := n1_
          have HO215 := n2_
          have HO218 := n3_
          have BK199 := n4_
          have BK219 := n5_
          have HB := n6_
          clear n0_ n1_ n2_ n3_ n4_ n5_ n6_
          (try clear hb)
          (try clear hb2)
          (try clear hk)
          (try clear hi)
          refine hK.out _ _ ⟨(blk_cell BK219.out 0).trans rfl, (blk_cell BK219.out 1).trans rfl, (blk_cell BK219.out 2).trans rfl, (blk_cell BK219.out 3).trans rfl, (blk_cell BK219.out 4).trans rfl, (blk_cell BK199.out 0).trans rfl, (blk_cell BK199.out 1).trans rfl, (blk_cell BK199.out 2).trans rfl, (blk_cell BK199.out 3).trans rfl, (blk_cell BK199.out 4).trans rfl⟩ (fun hHeld => ?_)
          clear hK K
          refine norm_ (a' := ?_) ?_ ?_
          rotate_left
          · show Act.put _ (some 15) _ = _
            simp only [Act.put, List.setIfInBounds_toArray, List.set_cons_zero, List.set_cons_succ, i64_w, i32_w]
            rfl
          refine one_ (i := 5) (N := some 16) #[true, true, true, true, true, true, false, false, false, false, false, false, false, false, false, false, false, false, false, false, false] rfl rfl (one_of HT_.out (by kernel_rfl)) (by decide) (fun K hK => ?_)
          refine goes_ Try.func17 (by kernel_rfl) rfl #[.string t222] (by rfl) rfl rfl (by (try simp only [List.map_toArray, List.map_cons, List.map_nil]); first | done | rfl | (simp only [List.length_drop, List.length_take]; rfl)) ?_
          with_reducible refine (spec_Solid.calls k t222 t223 _ A9.out).mono ?_
          rintro e w61 ⟨rfl, hb⟩
          refine ⟨_, rfl, ?_⟩
          have n0_ := Aside0.mk (Kd.R_below (by (with_reducible repeat (first | apply Kd.R_alloc | apply Kd.R_drewN | apply Kd.R_drew)); exact HO206.out) hb)
          have n1_ := Aside0.mk (Kd.N_below (by (with_reducible repeat (first | apply Kd.N_alloc | apply Kd.N_drewN | apply Kd.N_drew)); exact HO209.out) hb)
          have n2_ := Aside0.mk (Kd.R_below (by (with_reducible repeat (first | apply Kd.R_alloc | apply Kd.R_drewN | apply Kd.R_drew)); exact HO215.out) hb)
          have n3_ := Aside0.mk (Kd.N_below (by (with_reducible repeat (first | apply Kd.N_alloc | apply Kd.N_drewN | apply Kd.N_drew)); exact HO218.out) hb)
          have n4_ := Aside0.mk (blk_below (g := gb199) (o := .cells #[.int .i64 t201, .string t202, .string t203, .slice Ao48 t204.length co48, .slice Ao49 t207.length co49] 25 (0, 0)) (by (with_reducible repeat (first | refine blk_drewN ?_ _ | refine blk_drew ?_ | refine blk_alloc ?_ _)); exact BK199.out) hb)
          have n5_ := Aside0.mk (blk_below (g := gb219) (o := .cells #[.int .i64 t210, .string t211, .string t212, .slice Ao54 t213.length co54, .slice Ao55 t216.length co55] 25 (0, 0)) (by (with_reducible repeat (first | refine blk_drewN ?_ _ | refine blk_drew ?_ | refine blk_alloc ?_ _)); exact BK219.out) hb)
          have n6_ := Aside0.mk (below_step (by repeat (first | (with_reducible first | exact HB.out | apply below_alloc | apply pw_below_drewN | apply below_drew1 | refine below_set ?_ GE199.out | refine below_set ?_ GE219.out) | exact HB.out)) hb)
          clear HO206
          clear HO209
          clear HO215
          clear HO218
          clear BK199
          clear BK219
          clear HB
          have HO206 := n0_
          have HO209 := n1_
          have HO215 := n2_
          have HO218 := n3_
          have BK199 := n4_
          have BK219 := n5_
          have HB := n6_
          clear n0_ n1_ n2_ n3_ n4_ n5_ n6_
          (try clear hb)
          (try clear hb2)
          (try clear hk)
          (try clear hi)
          refine hK.out _ _ ⟨(blk_cell BK219.out 0).trans rfl, (blk_cell BK219.out 1).trans rfl, (blk_cell BK219.out 2).trans rfl, (blk_cell BK219.out 3).trans rfl, (blk_cell BK219.out 4).trans rfl, (blk_cell BK199.out 0).trans rfl, (blk_cell BK199.out 1).trans rfl, (blk_cell BK199.out 2).trans rfl, (blk_cell BK199.out 3).trans rfl, (blk_cell BK199.out 4).trans rfl⟩ (fun hHeld => ?_)
          clear hK K
          refine norm_ (a' := ?_) ?_ ?_
          rotate_left
          · show Act.put _ (some 16) _ = _
            simp only [Act.put, List.setIfInBounds_toArray, List.set_cons_zero, List.set_cons_succ, i64_w, i32_w]
            rfl
          refine pure_ (i := 6) (N := some 17) (v := ?_) (a' := ?_) #[true, true, true, true, true, true, true, false, false, false, false, false, false, false, false, false, false, false, false, false, false] rfl rfl (any_of HT_.out (by kernel_rfl)) (fun _ _ _ h => h) (Or.inl ⟨by rfl, ?_⟩) ?_ ?_
          rotate_left
          · intro w'
            go_simp
            with_reducible rfl
          rotate_left
          · simp only [Act.put, List.setIfInBounds_toArray, List.set_cons_zero, List.set_cons_succ, i64_w, i32_w]
            rfl
          refine pure_ (i := 7) (N := some 18) (v := ?_) (a' := ?_) #[true, true, true, true, true, true, true, true, false, false, false, false, false, false, false, false, false, false, false, false, false] rfl rfl (any_of HT_.out (by kernel_rfl)) (fun _ _ _ h => h) (Or.inl ⟨by rfl, ?_⟩) ?_ ?_
          rotate_left
          · intro w'
            go_simp
            with_reducible rfl
          rotate_left
          · simp only [Act.put, List.setIfInBounds_toArray, List.set_cons_zero, List.set_cons_succ, i64_w, i32_w]
            rfl
          refine take_ (i := 8) (N := some 19) (v := ?_) (a' := ?_) #[true, true, true, true, true, true, true, true, true, false, false, false, false, false, false, false, false, false, false, false, false] rfl rfl (take_ofW HT_.out HW_.out (by kernel_rfl)) (fun _ _ _ h => h) (Or.inl ⟨by rfl, ?_⟩) hHeld ?_ ?_
          rotate_left
          · rintro w' ⟨s0, s1, s2, s3, s4, s5, s6, s7, s8, s9⟩
            go_simp
            with_reducible rfl
          rotate_left
          · simp only [Act.put, List.setIfInBounds_toArray, List.set_cons_zero, List.set_cons_succ, i64_w, i32_w]
            rfl
          refine one_ (i := 9) (N := some 20) #[true, true, true, true, true, true, true, true, true, true, false, false, false, false, false, false, false, false, false, false, false] rfl rfl (one_of HT_.out (by kernel_rfl)) (by decide) (fun K hK => ?_)
          refine Kd.R_lit_step Kd.string _ 9 ?hg (N := 20) ?hd (xs := ([(⟨#[99, 111, 100, 101]⟩ : ByteArray), (⟨#[112, 114, 101]⟩ : ByteArray)] : List ByteArray)) (inner := [.string (⟨#[99, 111, 100, 101]⟩ : ByteArray), .string (⟨#[112, 114, 101]⟩ : ByteArray)]) (ok := fun _ => True) (okp := fun _ => True) ?hr ?hp (fun _ hk => hk) trivial (Below.refl _ _) (Nat.le_refl _) (by simp) ?_; (case hd => rfl); (case hg => rfl); (case hr => first | (go_simp; done) | (go_simp; rfl)); (case hp => exact (Reps.one (show Kd.M Kd.string _ _ _ (⟨#[99, 111, 100, 101]⟩ : ByteArray) [.string (⟨#[99, 111, 100, 101]⟩ : ByteArray)] from rfl) (Reps.one (show Kd.M Kd.string _ _ _ (⟨#[112, 114, 101]⟩ : ByteArray) [.string (⟨#[112, 114, 101]⟩ : ByteArray)] from rfl) (Reps.none _ _))))
          intro v225 w62 ho63 hb hg_ hnew_
          clear hg_ hnew_
          (first | rw [← Ny224.out] at ho63 | (simp only [Int.reduceToNat] at ho63; rw [← Ny224.out] at ho63))
          have n0_ := Aside0.mk (Kd.R_below (by (with_reducible repeat (first | apply Kd.R_alloc | apply Kd.R_drewN | apply Kd.R_drew)); exact HO206.out) hb)
          have n1_ := Aside0.mk (Kd.N_elder' (by (with_reducible repeat (first | apply Kd.N_alloc | apply Kd.N_drewN | apply Kd.N_drew)); exact HO209.out) (Kd.R_base ho63) hb)
          have n2_ := Aside0.mk (Kd.R_below (by (with_reducible repeat (first | apply Kd.R_alloc | apply Kd.R_drewN | apply Kd.R_drew)); exact HO215.out) hb)
          have n3_ := Aside0.mk (Kd.N_elder' (by (with_reducible repeat (first | apply Kd.N_alloc | apply Kd.N_drewN | apply Kd.N_drew)); exact HO218.out) (Kd.R_base ho63) hb)
          have n4_ := Aside0.mk (Kd.R_lower ho63 (below_size (by repeat (first | (with_reducible first | exact HB.out | apply below_alloc | apply pw_below_drewN | apply below_drew1 | refine below_set ?_ GE199.out | refine below_set ?_ GE219.out) | exact HB.out))))
          have n5_ := Aside0.mk (blk_below (g := gb199) (o := .cells #[.int .i64 t201, .string t202, .string t203, .slice Ao48 t204.length co48, .slice Ao49 t207.length co49] 25 (0, 0)) (by (with_reducible repeat (first | refine blk_drewN ?_ _ | refine blk_drew ?_ | refine blk_alloc ?_ _)); exact BK199.out) hb)
          have n6_ := Aside0.mk (blk_below (g := gb219) (o := .cells #[.int .i64 t210, .string t211, .string t212, .slice Ao54 t213.length co54, .slice Ao55 t216.length co55] 25 (0, 0)) (by (with_reducible repeat (first | refine blk_drewN ?_ _ | refine blk_drew ?_ | refine blk_alloc ?_ _)); exact BK219.out) hb)
          have n7_ := Aside0.mk (below_step (by repeat (first | (with_reducible first | exact HB.out | apply below_alloc | apply pw_below_drewN | apply below_drew1 | refine below_set ?_ GE199.out | refine below_set ?_ GE219.out) | exact HB.out)) hb)
          clear HO206
          clear HO209
          clear HO215
          clear HO218
          clear BK199
          clear BK219
          clear HB
          have HO206 := n0_
          have HO209 := n1_
          have HO215 := n2_
          have HO218 := n3_
          have HO226 := n4_
          have BK199 := n5_
          have BK219 := n6_
          have HB := n7_
          clear n0_ n1_ n2_ n3_ n4_ n5_ n6_ n7_
          clear hb ho63
          obtain ⟨Ao64, co64, eo64⟩ := Kd.R_slice HO226.out
          (first | subst eo64 | (injection eo64 with f1_ f2_ f3_; have f4_ := f1_.symm; have f5_ := f3_.symm; clear f1_ f2_ f3_; subst f4_; subst f5_))
          refine hK.out _ _ ⟨(blk_cell BK219.out 0).trans rfl, (blk_cell BK219.out 1).trans rfl, (blk_cell BK219.out 2).trans rfl, (blk_cell BK219.out 3).trans rfl, (blk_cell BK219.out 4).trans rfl, (blk_cell BK199.out 0).trans rfl, (blk_cell BK199.out 1).trans rfl, (blk_cell BK199.out 2).trans rfl, (blk_cell BK199.out 3).trans rfl, (blk_cell BK199.out 4).trans rfl⟩ (fun hHeld => ?_)
          clear hK K
          refine norm_ (a' := ?_) ?_ ?_
          rotate_left
          · show Act.put _ (some 20) _ = _
            simp only [Act.put, List.setIfInBounds_toArray, List.set_cons_zero, List.set_cons_succ, i64_w, i32_w]
            rfl
          refine one_ (i := 10) (N := some 21) #[true, true, true, true, true, true, true, true, true, true, true, false, false, false, false, false, false, false, false, false, false] rfl rfl (one_of HT_.out (by kernel_rfl)) (by decide) (fun K hK => ?_)
          refine goes_ Try.func18 (by kernel_rfl) rfl #[.agg #[.int .i64 t201, .string t202, .string t203, .slice Ao48 t204.length co48, .slice Ao49 t207.length co49], .slice Ao64 y224.length co64] (by rfl) rfl rfl (by (try simp only [List.map_toArray, List.map_cons, List.map_nil]); first | done | rfl | (simp only [List.length_drop, List.length_take]; rfl)) ?_
          with_reducible refine (laws_inlineHas.calls k t201 t202 t203 _ _ t204 _ _ t207 _ _ y224 false _ ?side1 ?side2 ?side3 ?side4 ?side5 ?side6 A11.out).mono ?_
          (case side1 => repeat (first | exact (Kd.R_reads' HO206.out).2.2 | (with_reducible refine Kd.C_alloc ?_ _) | (with_reducible refine Kd.C_drewN ?_ _) | (with_reducible refine Kd.C_drew ?_)))
          (case side2 => exact (Kd.R_reads' HO206.out).2.1)
          (case side3 => repeat (first | exact (Kd.N_reads' HO209.out).2.2 | (with_reducible refine Kd.C_alloc ?_ _) | (with_reducible refine Kd.C_drewN ?_ _) | (with_reducible refine Kd.C_drew ?_)))
          (case side4 => exact (Kd.N_reads' HO209.out).2.1)
          (case side5 => repeat (first | exact (Kd.R_reads' HO226.out).2.2 | (with_reducible refine Kd.C_alloc ?_ _) | (with_reducible refine Kd.C_drewN ?_ _) | (with_reducible refine Kd.C_drew ?_)))
          (case side6 => exact (Kd.R_reads' HO226.out).2.1)
          rintro e w65 ⟨rfl, hb⟩
          refine ⟨_, rfl, ?_⟩
          have n0_ := Aside0.mk (Kd.R_below (by (with_reducible repeat (first | apply Kd.R_alloc | apply Kd.R_drewN | apply Kd.R_drew)); exact HO206.out) hb)
          have n1_ := Aside0.mk (Kd.N_below (by (with_reducible repeat (first | apply Kd.N_alloc | apply Kd.N_drewN | apply Kd.N_drew)); exact HO209.out) hb)
          have n2_ := Aside0.mk (Kd.R_below (by (with_reducible repeat (first | apply Kd.R_alloc | apply Kd.R_drewN | apply Kd.R_drew)); exact HO215.out) hb)
          have n3_ := Aside0.mk (Kd.N_below (by (with_reducible repeat (first | apply Kd.N_alloc | apply Kd.N_drewN | apply Kd.N_drew)); exact HO218.out) hb)
          have n4_ := Aside0.mk (Kd.R_below (by (with_reducible repeat (first | apply Kd.R_alloc | apply Kd.R_drewN | apply Kd.R_drew)); exact HO226.out) hb)
          have n5_ := Aside0.mk (blk_below (g := gb199) (o := .cells #[.int .i64 t201, .string t202, .string t203, .slice Ao48 t204.length co48, .slice Ao49 t207.length co49] 25 (0, 0)) (by (with_reducible repeat (first | refine blk_drewN ?_ _ | refine blk_drew ?_ | refine blk_alloc ?_ _)); exact BK199.out) hb)
          have n6_ := Aside0.mk (blk_below (g := gb219) (o := .cells #[.int .i64 t210, .string t211, .string t212, .slice Ao54 t213.length co54, .slice Ao55 t216.length co55] 25 (0, 0)) (by (with_reducible repeat (first | refine blk_drewN ?_ _ | refine blk_drew ?_ | refine blk_alloc ?_ _)); exact BK219.out) hb)
          have n7_ := Aside0.mk (below_step (by repeat (first | (with_reducible first | exact HB.out | apply below_alloc | apply pw_below_drewN | apply below_drew1 | refine below_set ?_ GE199.out | refine below_set ?_ GE219.out) | exact HB.out)) hb)
          clear HO206
          clear HO209
          clear HO215
          clear HO218
          clear HO226
          clear BK199
          clear BK219
          clear HB
          have HO206 := n0_
          have HO209 := n1_
          have HO215 := n2_
          have HO218 := n3_
          have HO226 := n4_
          have BK199 := n5_
          have BK219 := n6_
          have HB := n7_
          clear n0_ n1_ n2_ n3_ n4_ n5_ n6_ n7_
          (try clear hb)
          (try clear hb2)
          (try clear hk)
          (try clear hi)
          refine hK.out _ _ ⟨(blk_cell BK219.out 0).trans rfl, (blk_cell BK219.out 1).trans rfl, (blk_cell BK219.out 2).trans rfl, (blk_cell BK219.out 3).trans rfl, (blk_cell BK219.out 4).trans rfl, (blk_cell BK199.out 0).trans rfl, (blk_cell BK199.out 1).trans rfl, (blk_cell BK199.out 2).trans rfl, (blk_cell BK199.out 3).trans rfl, (blk_cell BK199.out 4).trans rfl⟩ (fun hHeld => ?_)
          clear hK K
          refine norm_ (a' := ?_) ?_ ?_
          rotate_left
          · show Act.put _ (some 21) _ = _
            simp only [Act.put, List.setIfInBounds_toArray, List.set_cons_zero, List.set_cons_succ, i64_w, i32_w]
            rfl
          refine pure_ (i := 11) (N := some 22) (v := ?_) (a' := ?_) #[true, true, true, true, true, true, true, true, true, true, true, true, false, false, false, false, false, false, false, false, false] rfl rfl (any_of HT_.out (by kernel_rfl)) (fun _ _ _ h => h) (Or.inl ⟨by rfl, ?_⟩) ?_ ?_
          rotate_left
          · intro w'
            go_simp
            with_reducible rfl
          rotate_left
          · simp only [Act.put, List.setIfInBounds_toArray, List.set_cons_zero, List.set_cons_succ, i64_w, i32_w]
            rfl
          refine take_ (i := 12) (N := some 23) (v := ?_) (a' := ?_) #[true, true, true, true, true, true, true, true, true, true, true, true, true, false, false, false, false, false, false, false, false] rfl rfl (take_ofW HT_.out HW_.out (by kernel_rfl)) (fun _ _ _ h => h) (Or.inl ⟨by rfl, ?_⟩) hHeld ?_ ?_
          rotate_left
          · rintro w' ⟨s0, s1, s2, s3, s4, s5, s6, s7, s8, s9⟩
            go_simp
            with_reducible rfl
          rotate_left
          · simp only [Act.put, List.setIfInBounds_toArray, List.set_cons_zero, List.set_cons_succ, i64_w, i32_w]
            rfl
          refine take_ (i := 13) (N := some 24) (v := ?_) (a' := ?_) #[true, true, true, true, true, true, true, true, true, true, true, true, true, true, false, false, false, false, false, false, false] rfl rfl (take_ofW HT_.out HW_.out (by kernel_rfl)) (fun _ _ _ h => h) (Or.inl ⟨by rfl, ?_⟩) hHeld ?_ ?_
          rotate_left
          · rintro w' ⟨s0, s1, s2, s3, s4, s5, s6, s7, s8, s9⟩
            go_simp
            with_reducible rfl
          rotate_left
          · simp only [Act.put, List.setIfInBounds_toArray, List.set_cons_zero, List.set_cons_succ, i64_w, i32_w]
            rfl
          refine one_ (i := 14) (N := some 25) #[true, true, true, true, true, true, true, true, true, true, true, true, true, true, true, false, false, false, false, false, false] rfl rfl (one_of HT_.out (by kernel_rfl)) (by decide) (fun K hK => ?_)
          refine goes_ Try.func14 (by kernel_rfl) rfl #[.agg #[.int .i64 t210, .string t211, .string t212, .slice Ao54 t213.length co54, .slice Ao55 t216.length co55], .agg #[.int .i64 t201, .string t202, .string t203, .slice Ao48 t204.length co48, .slice Ao49 t207.length co49]] (by rfl) rfl rfl (by (try simp only [List.map_toArray, List.map_cons, List.map_nil]); first | done | rfl | (simp only [List.length_drop, List.length_take]; rfl)) ?_
          with_reducible refine (spec_SameTree.calls k t210 t211 t212 _ _ t213 _ _ t216 t201 t202 t203 _ _ t204 _ _ t207 true _ ?side1 ?side2 ?side3 ?side4 ?side5 ?side6 ?side7 ?side8 A39.out).mono ?_
          (case side1 => repeat (first | exact (Kd.R_reads' HO215.out).2.2 | (with_reducible refine Kd.C_alloc ?_ _) | (with_reducible refine Kd.C_drewN ?_ _) | (with_reducible refine Kd.C_drew ?_)))
          (case side2 => exact (Kd.R_reads' HO215.out).2.1)
          (case side3 => repeat (first | exact (Kd.N_reads' HO218.out).2.2 | (with_reducible refine Kd.C_alloc ?_ _) | (with_reducible refine Kd.C_drewN ?_ _) | (with_reducible refine Kd.C_drew ?_)))
          (case side4 => exact (Kd.N_reads' HO218.out).2.1)
          (case side5 => repeat (first | exact (Kd.R_reads' HO206.out).2.2 | (with_reducible refine Kd.C_alloc ?_ _) | (with_reducible refine Kd.C_drewN ?_ _) | (with_reducible refine Kd.C_drew ?_)))
          (case side6 => exact (Kd.R_reads' HO206.out).2.1)
          (case side7 => repeat (first | exact (Kd.N_reads' HO209.out).2.2 | (with_reducible refine Kd.C_alloc ?_ _) | (with_reducible refine Kd.C_drewN ?_ _) | (with_reducible refine Kd.C_drew ?_)))
          (case side8 => exact (Kd.N_reads' HO209.out).2.1)
          rintro e w66 ⟨rfl, hb⟩
          refine ⟨_, rfl, ?_⟩
          have n0_ := Aside0.mk (Kd.R_below (by (with_reducible repeat (first | apply Kd.R_alloc | apply Kd.R_drewN | apply Kd.R_drew)); exact HO206.out) hb)
          have n1_ := Aside0.mk (Kd.N_below (by (with_reducible repeat (first | apply Kd.N_alloc | apply Kd.N_drewN | apply Kd.N_drew)); exact HO209.out) hb)
          have n2_ := Aside0.mk (Kd.R_below (by (with_reducible repeat (first | apply Kd.R_alloc | apply Kd.R_drewN | apply Kd.R_drew)); exact HO215.out) hb)
          have n3_ := Aside0.mk (Kd.N_below (by (with_reducible repeat (first | apply Kd.N_alloc | apply Kd.N_drewN | apply Kd.N_drew)); exact HO218.out) hb)
          have n4_ := Aside0.mk (Kd.R_below (by (with_reducible repeat (first | apply Kd.R_alloc | apply Kd.R_drewN | apply Kd.R_drew)); exact HO226.out) hb)
          have n5_ := Aside0.mk (blk_below (g := gb199) (o := .cells #[.int .i64 t201, .string t202, .string t203, .slice Ao48 t204.length co48, .slice Ao49 t207.length co49] 25 (0, 0)) (by (with_reducible repeat (first | refine blk_drewN ?_ _ | refine blk_drew ?_ | refine blk_alloc ?_ _)); exact BK199.out) hb)
          have n6_ := Aside0.mk (blk_below (g := gb219) (o := .cells #[.int .i64 t210, .string t211, .string t212, .slice Ao54 t213.length co54, .slice Ao55 t216.length co55] 25 (0, 0)) (by (with_reducible repeat (first | refine blk_drewN ?_ _ | refine blk_drew ?_ | refine blk_alloc ?_ _)); exact BK219.out) hb)
          have n7_ := Aside0.mk (below_step (by repeat (first | (with_reducible first | exact HB.out | apply below_alloc | apply pw_below_drewN | apply below_drew1 | refine below_set ?_ GE199.out | refine below_set ?_ GE219.out) | exact HB.out)) hb)
          clear HO206
          clear HO209
          clear HO215
          clear HO218
          clear HO226
          clear BK199
          clear BK219
          clear HB
          have HO206 := n0_
          have HO209 := n1_
          have HO215 := n2_
          have HO218 := n3_
          have HO226 := n4_
          have BK199 := n5_
          have BK219 := n6_
          have HB := n7_
          clear n0_ n1_ n2_ n3_ n4_ n5_ n6_ n7_
          (try clear hb)
          (try clear hb2)
          (try clear hk)
          (try clear hi)
          refine hK.out _ _ ⟨(blk_cell BK219.out 0).trans rfl, (blk_cell BK219.out 1).trans rfl, (blk_cell BK219.out 2).trans rfl, (blk_cell BK219.out 3).trans rfl, (blk_cell BK219.out 4).trans rfl, (blk_cell BK199.out 0).trans rfl, (blk_cell BK199.out 1).trans rfl, (blk_cell BK199.out 2).trans rfl, (blk_cell BK199.out 3).trans rfl, (blk_cell BK199.out 4).trans rfl⟩ (fun hHeld => ?_)
          clear hK K
          refine norm_ (a' := ?_) ?_ ?_
          rotate_left
          · show Act.put _ (some 25) _ = _
            simp only [Act.put, List.setIfInBounds_toArray, List.set_cons_zero, List.set_cons_succ, i64_w, i32_w]
            rfl
          refine pure_ (i := 15) (N := some 26) (v := ?_) (a' := ?_) #[true, true, true, true, true, true, true, true, true, true, true, true, true, true, true, true, false, false, false, false, false] rfl rfl (any_of HT_.out (by kernel_rfl)) (fun _ _ _ h => h) (Or.inl ⟨by rfl, ?_⟩) ?_ ?_
          rotate_left
          · intro w'
            go_simp
            with_reducible rfl
          rotate_left
          · simp only [Act.put, List.setIfInBounds_toArray, List.set_cons_zero, List.set_cons_succ, i64_w, i32_w]
            rfl
          refine pure_ (i := 16) (N := some 27) (v := ?_) (a' := ?_) #[true, true, true, true, true, true, true, true, true, true, true, true, true, true, true, true, true, false, false, false, false] rfl rfl (any_of HT_.out (by kernel_rfl)) (fun _ _ _ h => h) (Or.inl ⟨by rfl, ?_⟩) ?_ ?_
          rotate_left
          · intro w'
            go_simp
            with_reducible rfl
          rotate_left
          · simp only [Act.put, List.setIfInBounds_toArray, List.set_cons_zero, List.set_cons_succ, i64_w, i32_w]
            rfl
          refine pure_ (i := 17) (N := some 28) (v := ?_) (a' := ?_) #[true, true, true, true, true, true, true, true, true, true, true, true, true, true, true, true, true, true, false, false, false] rfl rfl (any_of HT_.out (by kernel_rfl)) (fun _ _ _ h => h) (Or.inl ⟨by rfl, ?_⟩) ?_ ?_
          rotate_left
          · intro w'
            go_simp
            with_reducible rfl
          rotate_left
          · simp only [Act.put, List.setIfInBounds_toArray, List.set_cons_zero, List.set_cons_succ, i64_w, i32_w]
            rfl
          refine one_ (i := 18) (N := some 29) #[true, true, true, true, true, true, true, true, true, true, true, true, true, true, true, true, true, true, true, false, false] rfl rfl (one_of HT_.out (by kernel_rfl)) (by decide) (fun K hK => ?_)
          refine goes_ Try.func15 (by kernel_rfl) rfl #[] (by rfl) rfl rfl (by (try simp only [List.map_toArray, List.map_cons, List.map_nil]); first | done | rfl | (simp only [List.length_drop, List.length_take]; rfl)) ?_
          with_reducible refine (laws_inlineLives.calls k  t230 _ A41.out).mono ?_
          rintro e w67 ⟨rfl, hb⟩
          refine ⟨_, rfl, ?_⟩
          have n0_ := Aside0.mk (Kd.R_below (by (with_reducible repeat (first | apply Kd.R_alloc | apply Kd.R_drewN | apply Kd.R_drew)); exact HO206.out) hb)
          have n1_ := Aside0.mk (Kd.N_below (by (with_reducible repeat (first | apply Kd.N_alloc | apply Kd.N_drewN | apply Kd.N_drew)); exact HO209.out) hb)
          have n2_ := Aside0.mk (Kd.R_below (by (with_reducible repeat (first | apply Kd.R_alloc | apply Kd.R_drewN | apply Kd.R_drew)); exact HO215.out) hb)
          have n3_ := Aside0.mk (Kd.N_below (by (with_reducible repeat (first | apply Kd.N_alloc | apply Kd.N_drewN | apply Kd.N_drew)); exact HO218.out) hb)
          have n4_ := Aside0.mk (Kd.R_below (by (with_reducible repeat (first | apply Kd.R_alloc | apply Kd.R_drewN | apply Kd.R_drew)); exact HO226.out) hb)
          have n5_ := Aside0.mk (blk_below (g := gb199) (o := .cells #[.int .i64 t201, .string t202, .string t203, .slice Ao48 t204.length co48, .slice Ao49 t207.length co49] 25 (0, 0)) (by (with_reducible repeat (first | refine blk_drewN ?_ _ | refine blk_drew ?_ | refine blk_alloc ?_ _)); exact BK199.out) hb)
          have n6_ := Aside0.mk (blk_below (g := gb219) (o := .cells #[.int .i64 t210, .string t211, .string t212, .slice Ao54 t213.length co54, .slice Ao55 t216.length co55] 25 (0, 0)) (by (with_reducible repeat (first | refine blk_drewN ?_ _ | refine blk_drew ?_ | refine blk_alloc ?_ _)); exact BK219.out) hb)
          have n7_ := Aside0.mk (below_step (by repeat (first | (with_reducible first | exact HB.out | apply below_alloc | apply pw_below_drewN | apply below_drew1 | refine below_set ?_ GE199.out | refine below_set ?_ GE219.out) | exact HB.out)) hb)
          clear HO206
          clear HO209
          clear HO215
          clear HO218
          clear HO226
          clear BK199
          clear BK219
          clear HB
          have HO206 := n0_
          have HO209 := n1_
          have HO215 := n2_
          have HO218 := n3_
          have HO226 := n4_
          have BK199 := n5_
          have BK219 := n6_
          have HB := n7_
          clear n0_ n1_ n2_ n3_ n4_ n5_ n6_ n7_
          (try clear hb)
          (try clear hb2)
          (try clear hk)
          (try clear hi)
          refine hK.out _ _ ⟨(blk_cell BK219.out 0).trans rfl, (blk_cell BK219.out 1).trans rfl, (blk_cell BK219.out 2).trans rfl, (blk_cell BK219.out 3).trans rfl, (blk_cell BK219.out 4).trans rfl, (blk_cell BK199.out 0).trans rfl, (blk_cell BK199.out 1).trans rfl, (blk_cell BK199.out 2).trans rfl, (blk_cell BK199.out 3).trans rfl, (blk_cell BK199.out 4).trans rfl⟩ (fun hHeld => ?_)
          clear hK K
          refine norm_ (a' := ?_) ?_ ?_
          rotate_left
          · show Act.put _ (some 29) _ = _
            simp only [Act.put, List.setIfInBounds_toArray, List.set_cons_zero, List.set_cons_succ, i64_w, i32_w]
            rfl
          refine pure_ (i := 19) (N := some 30) (v := ?_) (a' := ?_) #[true, true, true, true, true, true, true, true, true, true, true, true, true, true, true, true, true, true, true, true, false] rfl rfl (any_of HT_.out (by kernel_rfl)) (fun _ _ _ h => h) (Or.inl ⟨by rfl, ?_⟩) ?_ ?_
          rotate_left
          · intro w'
            go_simp
            with_reducible rfl
          rotate_left
          · simp only [Act.put, List.setIfInBounds_toArray, List.set_cons_zero, List.set_cons_succ, i64_w, i32_w]
            rfl
          refine pure_ (i := 20) (N := some 2) (v := ?_) (a' := ?_) #[true, true, true, true, true, true, true, true, true, true, true, true, true, true, true, true, true, true, true, true, true] rfl rfl (any_of HT_.out (by kernel_rfl)) (fun _ _ _ h => h) (Or.inl ⟨by rfl, ?_⟩) ?_ ?_
          rotate_left
          · intro w'
            go_simp
            with_reducible rfl
          rotate_left
          · simp only [Act.put, List.setIfInBounds_toArray, List.set_cons_zero, List.set_cons_succ, i64_w, i32_w]
            rfl
          refine done_ (done_of HT_.out (by kernel_rfl)) ?_
          try go_wp2
          go_ret
          exact ⟨by first | rfl | (simp [errW_none, errW_some] <;> rfl) | (simp [*, errW_none, errW_some] <;> rfl), by repeat (first | (with_reducible first | exact HB.out | apply below_alloc | apply pw_below_drewN | apply below_drew1 | refine below_set ?_ GE199.out | refine below_set ?_ GE219.out) | exact HB.out)⟩
        · replace c40 := Bool.eq_false_iff.mpr c40
          subst c40
          have H1 : (some false) = some r := by rw [if_neg (show ¬ (false = true) by decide)] at H; exact H
          clear H
          have H := H1
          clear H1
          obtain rfl := Option.some.inj H
          go_enter Try.func4, Try.ntmps4
          try go_wp2_with (first | ((with_reducible refine gate_dst (N := 1) rfl ?_); (try (refine gate_guard (by rfl) ?_; dsimp only)); refine box_event ?hg (N := 1) ?hd (cs := #[.int .i64 a0_0, .string a0_1, .string a0_2, .slice A0_3 l0_3.length c0_3, .slice A0_4 l0_4.length c0_4]) (t := 25) ?hr ?_; (case hd => rfl); (case hg => rfl); (case hr => first | (go_simp; done) | (go_simp; rfl)); intro gb199 hg w68 hbox hb; have n0_ := Aside0.mk (below_step (by repeat (first | (with_reducible first | exact HB.out | apply below_alloc | apply pw_below_drewN | apply below_drew1) | exact HB.out)) hb); have n1_ := Aside0.mk (hbox); have n2_ := Aside0.mk ((by rw [hg]; exact (below_size (by repeat (first | (with_reducible first | exact HB.out | apply below_alloc | apply pw_below_drewN | apply below_drew1) | exact HB.out))) : w.heap.size ≤ gb199)); have n3_ := Aside0.mk ((by rw [hg]; exact (below_size (by repeat (first | (with_reducible first | exact HB.out | apply below_alloc | apply pw_below_drewN | apply below_drew1) | exact HB.out))) : w.heap.size ≤ gb199)); clear HB; have HB := n0_; have BK199 := n1_; have GW199 := n2_; have GE199 := n3_; clear n0_ n1_ n2_ n3_; clear hb hbox hg; have hcz69_0 : w68.cell? ⟨gb199, 0, none⟩ = some (.int .i64 a0_0) := (blk_cell BK199.out 0).trans rfl; have hcz69_1 : w68.cell? ⟨gb199, 1, none⟩ = some (.string a0_1) := (blk_cell BK199.out 1).trans rfl; have hcz69_2 : w68.cell? ⟨gb199, 2, none⟩ = some (.string a0_2) := (blk_cell BK199.out 2).trans rfl; have hcz69_3 : w68.cell? ⟨gb199, 3, none⟩ = some (.slice A0_3 l0_3.length c0_3) := (blk_cell BK199.out 3).trans rfl; have hcz69_4 : w68.cell? ⟨gb199, 4, none⟩ = some (.slice A0_4 l0_4.length c0_4) := (blk_cell BK199.out 4).trans rfl; have hfz69_0 := blk_frozen BK199.out 0; have hfz69_1 := blk_frozen BK199.out 1; have hfz69_2 := blk_frozen BK199.out 2; have hfz69_3 := blk_frozen BK199.out 3; have hfz69_4 := blk_frozen BK199.out 4) | ((with_reducible refine gate_callee (f := 9) rfl ?_); refine goesL_ (some 5) rfl rfl Try.func9 (by kernel_rfl) rfl #[.agg #[.int .i64 a0_0, .string a0_1, .string a0_2, .slice A0_3 l0_3.length c0_3, .slice A0_4 l0_4.length c0_4]] rfl (by (try simp only [List.map_toArray, List.map_cons, List.map_nil]); first | done | rfl | (simp only [List.length_drop, List.length_take]; rfl)) ?_; (with_reducible refine (laws_zzFits2.calls k a0_0 a0_1 a0_2 _ _ l0_3 _ _ l0_4 true _ ?side1 ?side2 ?side3 ?side4 A2.out).mono ?_); (case side1 => repeat (first | exact (Kd.C_below HR0_3.out HB.out) | (with_reducible refine Kd.C_alloc ?_ _) | (with_reducible refine Kd.C_drewN ?_ _) | (with_reducible refine Kd.C_drew ?_))); (case side2 => exact HC0_3.out); (case side3 => repeat (first | exact (Kd.C_below HR0_4.out HB.out) | (with_reducible refine Kd.C_alloc ?_ _) | (with_reducible refine Kd.C_drewN ?_ _) | (with_reducible refine Kd.C_drew ?_))); (case side4 => exact HC0_4.out); rintro e w70 ⟨rfl, hb⟩; refine ⟨_, rfl, ?_⟩; have n0_ := Aside0.mk (blk_below (g := gb199) (o := .cells #[.int .i64 a0_0, .string a0_1, .string a0_2, .slice A0_3 l0_3.length c0_3, .slice A0_4 l0_4.length c0_4] 25 (0, 0)) (by (with_reducible repeat (first | refine blk_drewN ?_ _ | refine blk_drew ?_ | refine blk_alloc ?_ _)); exact BK199.out) hb); have n1_ := Aside0.mk (below_step (by repeat (first | (with_reducible first | exact HB.out | apply below_alloc | apply pw_below_drewN | apply below_drew1 | refine below_set ?_ GE199.out) | exact HB.out)) hb); clear BK199; clear HB; have BK199 := n0_; have HB := n1_; clear n0_ n1_; (try clear hb); (try clear hb2); (try clear hk); (try clear hi); have hcz71_0 : w70.cell? ⟨gb199, 0, none⟩ = some (.int .i64 a0_0) := (blk_cell BK199.out 0).trans rfl; have hcz71_1 : w70.cell? ⟨gb199, 1, none⟩ = some (.string a0_1) := (blk_cell BK199.out 1).trans rfl; have hcz71_2 : w70.cell? ⟨gb199, 2, none⟩ = some (.string a0_2) := (blk_cell BK199.out 2).trans rfl; have hcz71_3 : w70.cell? ⟨gb199, 3, none⟩ = some (.slice A0_3 l0_3.length c0_3) := (blk_cell BK199.out 3).trans rfl; have hcz71_4 : w70.cell? ⟨gb199, 4, none⟩ = some (.slice A0_4 l0_4.length c0_4) := (blk_cell BK199.out 4).trans rfl; have hfz71_0 := blk_frozen BK199.out 0; have hfz71_1 := blk_frozen BK199.out 1; have hfz71_2 := blk_frozen BK199.out 2; have hfz71_3 := blk_frozen BK199.out 3; have hfz71_4 := blk_frozen BK199.out 4) | ((with_reducible refine gate_callee (f := 10) rfl ?_); refine goesL_ (some 8) rfl rfl Try.func10 (by kernel_rfl) rfl #[.agg #[.int .i64 a0_0, .string a0_1, .string a0_2, .slice A0_3 l0_3.length c0_3, .slice A0_4 l0_4.length c0_4]] rfl (by (try simp only [List.map_toArray, List.map_cons, List.map_nil]); first | done | rfl | (simp only [List.length_drop, List.length_take]; rfl)) ?_; (with_reducible refine (laws_inlineCutTree.calls k a0_0 a0_1 a0_2 _ _ l0_3 _ _ l0_4 t201 t202 t203 t204 t207 _ ?side1 ?side2 ?side3 ?side4 A4.out).mono ?_); (case side1 => repeat (first | exact (Kd.C_below HR0_3.out HB.out) | (with_reducible refine Kd.C_alloc ?_ _) | (with_reducible refine Kd.C_drewN ?_ _) | (with_reducible refine Kd.C_drew ?_))); (case side2 => exact HC0_3.out); (case side3 => repeat (first | exact (Kd.C_below HR0_4.out HB.out) | (with_reducible refine Kd.C_alloc ?_ _) | (with_reducible refine Kd.C_drewN ?_ _) | (with_reducible refine Kd.C_drew ?_))); (case side4 => exact HC0_4.out); rintro e w72 ⟨v205, v208, rfl, ho0, ho1, hb⟩; refine ⟨_, rfl, ?_⟩; have n0_ := Aside0.mk (Kd.R_lower (Kd.R_mono (ok' := fun k_ => True) ho0 (fun _ hk_ => trivial)) (below_size (by repeat (first | (with_reducible first | exact HB.out | apply below_alloc | apply pw_below_drewN | apply below_drew1 | refine below_set ?_ GE199.out) | exact HB.out)))); have n1_ := Aside0.mk (Kd.N_lower (Kd.N_mono (ok' := fun k_ => some k_ ≠ (v205 : Value).ownBlock ∧ k_ ≠ gb199) ho1 (fun k_ hk_ => ⟨hk_.2, (Kd.freshB (g := gb199) (o := .cells #[.int .i64 a0_0, .string a0_1, .string a0_2, .slice A0_3 l0_3.length c0_3, .slice A0_4 l0_4.length c0_4] 25 (0, 0)) (by (with_reducible repeat (first | refine blk_drewN ?_ _ | refine blk_drew ?_ | refine blk_alloc ?_ _)); exact BK199.out) k_ hk_.1)⟩)) (below_size (by repeat (first | (with_reducible first | exact HB.out | apply below_alloc | apply pw_below_drewN | apply below_drew1 | refine below_set ?_ GE199.out) | exact HB.out)))); have n2_ := Aside0.mk (blk_below (g := gb199) (o := .cells #[.int .i64 a0_0, .string a0_1, .string a0_2, .slice A0_3 l0_3.length c0_3, .slice A0_4 l0_4.length c0_4] 25 (0, 0)) (by (with_reducible repeat (first | refine blk_drewN ?_ _ | refine blk_drew ?_ | refine blk_alloc ?_ _)); exact BK199.out) hb); have n3_ := Aside0.mk (below_step (by repeat (first | (with_reducible first | exact HB.out | apply below_alloc | apply pw_below_drewN | apply below_drew1 | refine below_set ?_ GE199.out) | exact HB.out)) hb); clear BK199; clear HB; have HO206 := n0_; have HO209 := n1_; have BK199 := n2_; have HB := n3_; clear n0_ n1_ n2_ n3_; (try clear hb); (try clear hb2); (try clear hk); (try clear hi); (try clear ho0); (try clear ho1); have hcz73_0 : w72.cell? ⟨gb199, 0, none⟩ = some (.int .i64 a0_0) := (blk_cell BK199.out 0).trans rfl; have hcz73_1 : w72.cell? ⟨gb199, 1, none⟩ = some (.string a0_1) := (blk_cell BK199.out 1).trans rfl; have hcz73_2 : w72.cell? ⟨gb199, 2, none⟩ = some (.string a0_2) := (blk_cell BK199.out 2).trans rfl; have hcz73_3 : w72.cell? ⟨gb199, 3, none⟩ = some (.slice A0_3 l0_3.length c0_3) := (blk_cell BK199.out 3).trans rfl; have hcz73_4 : w72.cell? ⟨gb199, 4, none⟩ = some (.slice A0_4 l0_4.length c0_4) := (blk_cell BK199.out 4).trans rfl; have hfz73_0 := blk_frozen BK199.out 0; have hfz73_1 := blk_frozen BK199.out 1; have hfz73_2 := blk_frozen BK199.out 2; have hfz73_3 := blk_frozen BK199.out 3; have hfz73_4 := blk_frozen BK199.out 4; obtain ⟨Ao74, co74, eo74⟩ := Kd.R_slice HO206.out; subst eo74; obtain ⟨Ao75, co75, eo75⟩ := Kd.N_slice HO209.out; subst eo75) | ((with_reducible refine gate_callee (f := 16) rfl ?_); refine goesL_ (some 10) rfl rfl Try.func16 (by kernel_rfl) rfl #[.agg #[.int .i64 t201, .string t202, .string t203, .slice Ao74 t204.length co74, .slice Ao75 t207.length co75]] rfl (by (try simp only [List.map_toArray, List.map_cons, List.map_nil]); first | done | rfl | (simp only [List.length_drop, List.length_take]; rfl)) ?_; (with_reducible refine (impl_EmptyCode.calls k t201 t202 t203 _ _ t204 _ _ t207 t210 t211 t212 t213 t216 _ ?side1 ?side2 ?side3 ?side4 A5.out).mono ?_); (case side1 => refine (Kd.R_reads' (e := 53) (base := w.heap.size) (ok := fun k_ => True) (n := t204.length) (c := co74) ?_).2.2; exact (by (with_reducible repeat (first | apply Kd.R_alloc | apply Kd.R_drewN | apply Kd.R_drew)); exact (Kd.R_mono (Kd.R_far (p := ⟨gb199, 4, none⟩) (Kd.R_far (p := ⟨gb199, 3, none⟩) (Kd.R_far (p := ⟨gb199, 2, none⟩) (Kd.R_far (p := ⟨gb199, 1, none⟩) (Kd.R_far (p := ⟨gb199, 0, none⟩) (Kd.R_types HO206.out BK199.out (by decide)) (fun _ hk => hk.2) (.int .i64 t201)) (fun _ hk => hk.2) (.string t202)) (fun _ hk => hk.2) (.string t203)) (fun _ hk => hk.2) (.slice Ao74 t204.length co74)) (fun _ hk => hk.2) (.slice Ao75 t207.length co75)) (fun _ h_ => h_.1)))); (case side2 => exact (Kd.R_reads' HO206.out).2.1); (case side3 => refine (Kd.N_reads' (e := 25) (base := w.heap.size) (ok := fun k_ => (some k_ ≠ (.slice Ao74 t204.length co74 : Value).ownBlock ∧ k_ ≠ gb199)) (n := t207.length) (c := co75) ?_).2.2; exact (by (with_reducible repeat (first | apply Kd.N_alloc | apply Kd.N_drewN | apply Kd.N_drew)); exact (Kd.N_mono (Kd.N_far (p := ⟨gb199, 4, none⟩) (Kd.N_far (p := ⟨gb199, 3, none⟩) (Kd.N_far (p := ⟨gb199, 2, none⟩) (Kd.N_far (p := ⟨gb199, 1, none⟩) (Kd.N_far (p := ⟨gb199, 0, none⟩) (Kd.N_mono HO209.out (fun k_ hk => (⟨hk, hk.2⟩ : _ ∧ k_ ≠ gb199))) (fun _ hk => hk.2) (.int .i64 t201)) (fun _ hk => hk.2) (.string t202)) (fun _ hk => hk.2) (.string t203)) (fun _ hk => hk.2) (.slice Ao74 t204.length co74)) (fun _ hk => hk.2) (.slice Ao75 t207.length co75)) (fun _ h_ => h_.1)))); (case side4 => exact (Kd.N_reads' HO209.out).2.1); rintro e w76 ⟨v214, v217, rfl, ho0, ho1, hb⟩; refine ⟨_, rfl, ?_⟩; have n0_ := Aside0.mk (Kd.R_elder' (by (with_reducible repeat (first | apply Kd.R_alloc | apply Kd.R_drewN | apply Kd.R_drew)); exact (Kd.R_mono (Kd.R_far (p := ⟨gb199, 4, none⟩) (Kd.R_far (p := ⟨gb199, 3, none⟩) (Kd.R_far (p := ⟨gb199, 2, none⟩) (Kd.R_far (p := ⟨gb199, 1, none⟩) (Kd.R_far (p := ⟨gb199, 0, none⟩) (Kd.R_types HO206.out BK199.out (by decide)) (fun _ hk => hk.2) (.int .i64 t201)) (fun _ hk => hk.2) (.string t202)) (fun _ hk => hk.2) (.string t203)) (fun _ hk => hk.2) (.slice Ao74 t204.length co74)) (fun _ hk => hk.2) (.slice Ao75 t207.length co75)) (fun _ h_ => h_.1))) (Kd.R_base ho0) hb); have n1_ := Aside0.mk (Kd.N_mono (Kd.N_told (Kd.N_told (Kd.N_old (by (with_reducible repeat (first | apply Kd.N_alloc | apply Kd.N_drewN | apply Kd.N_drew)); exact (Kd.N_mono (Kd.N_far (p := ⟨gb199, 4, none⟩) (Kd.N_far (p := ⟨gb199, 3, none⟩) (Kd.N_far (p := ⟨gb199, 2, none⟩) (Kd.N_far (p := ⟨gb199, 1, none⟩) (Kd.N_far (p := ⟨gb199, 0, none⟩) (Kd.N_mono HO209.out (fun k_ hk => (⟨hk, hk.2⟩ : _ ∧ k_ ≠ gb199))) (fun _ hk => hk.2) (.int .i64 t201)) (fun _ hk => hk.2) (.string t202)) (fun _ hk => hk.2) (.string t203)) (fun _ hk => hk.2) (.slice Ao74 t204.length co74)) (fun _ hk => hk.2) (.slice Ao75 t207.length co75)) (fun _ h_ => h_.1))) hb) (Kd.R_base ho0)) (Kd.N_base ho1)) (fun _ h_ => h_.1)); have n2_ := Aside0.mk (Kd.R_lower (Kd.R_new' (Kd.R_mono (ok' := fun k_ => True) ho0 (fun _ hk_ => trivial)) (Kd.R_lt (by (with_reducible repeat (first | apply Kd.R_alloc | apply Kd.R_drewN | apply Kd.R_drew)); exact (Kd.R_mono (Kd.R_far (p := ⟨gb199, 4, none⟩) (Kd.R_far (p := ⟨gb199, 3, none⟩) (Kd.R_far (p := ⟨gb199, 2, none⟩) (Kd.R_far (p := ⟨gb199, 1, none⟩) (Kd.R_far (p := ⟨gb199, 0, none⟩) (Kd.R_types HO206.out BK199.out (by decide)) (fun _ hk => hk.2) (.int .i64 t201)) (fun _ hk => hk.2) (.string t202)) (fun _ hk => hk.2) (.string t203)) (fun _ hk => hk.2) (.slice Ao74 t204.length co74)) (fun _ hk => hk.2) (.slice Ao75 t207.length co75)) (fun _ h_ => h_.1))))) (below_size (by repeat (first | (with_reducible first | exact HB.out | apply below_alloc | apply pw_below_drewN | apply below_drew1 | refine below_set ?_ GE199.out) | exact HB.out)))); have n3_ := Aside0.mk (Kd.N_lower (Kd.N_mono (ok' := fun k_ => some k_ ≠ (v214 : Value).ownBlock ∧ some k_ ≠ (.slice Ao74 t204.length co74 : Value).ownBlock ∧ some k_ ≠ (.slice Ao75 t207.length co75 : Value).ownBlock ∧ k_ ≠ gb199) ho1 (fun k_ hk_ => ⟨hk_.2, (Kd.fresh' (Kd.R_lt (by (with_reducible repeat (first | apply Kd.R_alloc | apply Kd.R_drewN | apply Kd.R_drew)); exact (Kd.R_mono (Kd.R_far (p := ⟨gb199, 4, none⟩) (Kd.R_far (p := ⟨gb199, 3, none⟩) (Kd.R_far (p := ⟨gb199, 2, none⟩) (Kd.R_far (p := ⟨gb199, 1, none⟩) (Kd.R_far (p := ⟨gb199, 0, none⟩) (Kd.R_types HO206.out BK199.out (by decide)) (fun _ hk => hk.2) (.int .i64 t201)) (fun _ hk => hk.2) (.string t202)) (fun _ hk => hk.2) (.string t203)) (fun _ hk => hk.2) (.slice Ao74 t204.length co74)) (fun _ hk => hk.2) (.slice Ao75 t207.length co75)) (fun _ h_ => h_.1)))) k_ hk_.1), (Kd.fresh' (Kd.N_lt (by (with_reducible repeat (first | apply Kd.N_alloc | apply Kd.N_drewN | apply Kd.N_drew)); exact (Kd.N_mono (Kd.N_far (p := ⟨gb199, 4, none⟩) (Kd.N_far (p := ⟨gb199, 3, none⟩) (Kd.N_far (p := ⟨gb199, 2, none⟩) (Kd.N_far (p := ⟨gb199, 1, none⟩) (Kd.N_far (p := ⟨gb199, 0, none⟩) (Kd.N_mono HO209.out (fun k_ hk => (⟨hk, hk.2⟩ : _ ∧ k_ ≠ gb199))) (fun _ hk => hk.2) (.int .i64 t201)) (fun _ hk => hk.2) (.string t202)) (fun _ hk => hk.2) (.string t203)) (fun _ hk => hk.2) (.slice Ao74 t204.length co74)) (fun _ hk => hk.2) (.slice Ao75 t207.length co75)) (fun _ h_ => h_.1)))) k_ hk_.1), (Kd.freshB (g := gb199) (o := .cells #[.int .i64 t201, .string t202, .string t203, .slice Ao74 t204.length co74, .slice Ao75 t207.length co75] 25 (0, 0)) (by (with_reducible repeat (first | refine blk_drewN ?_ _ | refine blk_drew ?_ | refine blk_alloc ?_ _)); refine blk_put (cs := #[.int .i64 t201, .string t202, .string t203, .slice Ao74 t204.length co74, .slice A0_4 l0_4.length c0_4]) ?_ 4 _ rfl; (with_reducible repeat (first | refine blk_drewN ?_ _ | refine blk_drew ?_ | refine blk_alloc ?_ _)); refine blk_put (cs := #[.int .i64 t201, .string t202, .string t203, .slice A0_3 l0_3.length c0_3, .slice A0_4 l0_4.length c0_4]) ?_ 3 _ rfl; (with_reducible repeat (first | refine blk_drewN ?_ _ | refine blk_drew ?_ | refine blk_alloc ?_ _)); refine blk_put (cs := #[.int .i64 t201, .string t202, .string a0_2, .slice A0_3 l0_3.length c0_3, .slice A0_4 l0_4.length c0_4]) ?_ 2 _ rfl; (with_reducible repeat (first | refine blk_drewN ?_ _ | refine blk_drew ?_ | refine blk_alloc ?_ _)); refine blk_put (cs := #[.int .i64 t201, .string a0_1, .string a0_2, .slice A0_3 l0_3.length c0_3, .slice A0_4 l0_4.length c0_4]) ?_ 1 _ rfl; (with_reducible repeat (first | refine blk_drewN ?_ _ | refine blk_drew ?_ | refine blk_alloc ?_ _)); refine blk_put (cs := #[.int .i64 a0_0, .string a0_1, .string a0_2, .slice A0_3 l0_3.length c0_3, .slice A0_4 l0_4.length c0_4]) ?_ 0 _ rfl; (with_reducible repeat (first | refine blk_drewN ?_ _ | refine blk_drew ?_ | refine blk_alloc ?_ _)); exact BK199.out) k_ hk_.1)⟩)) (below_size (by repeat (first | (with_reducible first | exact HB.out | apply below_alloc | apply pw_below_drewN | apply below_drew1 | refine below_set ?_ GE199.out) | exact HB.out)))); have n4_ := Aside0.mk (blk_below (g := gb199) (o := .cells #[.int .i64 t201, .string t202, .string t203, .slice Ao74 t204.length co74, .slice Ao75 t207.length co75] 25 (0, 0)) (by (with_reducible repeat (first | refine blk_drewN ?_ _ | refine blk_drew ?_ | refine blk_alloc ?_ _)); refine blk_put (cs := #[.int .i64 t201, .string t202, .string t203, .slice Ao74 t204.length co74, .slice A0_4 l0_4.length c0_4]) ?_ 4 _ rfl; (with_reducible repeat (first | refine blk_drewN ?_ _ | refine blk_drew ?_ | refine blk_alloc ?_ _)); refine blk_put (cs := #[.int .i64 t201, .string t202, .string t203, .slice A0_3 l0_3.length c0_3, .slice A0_4 l0_4.length c0_4]) ?_ 3 _ rfl; (with_reducible repeat (first | refine blk_drewN ?_ _ | refine blk_drew ?_ | refine blk_alloc ?_ _)); refine blk_put (cs := #[.int .i64 t201, .string t202, .string a0_2, .slice A0_3 l0_3.length c0_3, .slice A0_4 l0_4.length c0_4]) ?_ 2 _ rfl; (with_reducible repeat (first | refine blk_drewN ?_ _ | refine blk_drew ?_ | refine blk_alloc ?_ _)); refine blk_put (cs := #[.int .i64 t201, .string a0_1, .string a0_2, .slice A0_3 l0_3.length c0_3, .slice A0_4 l0_4.length c0_4]) ?_ 1 _ rfl; (with_reducible repeat (first | refine blk_drewN ?_ _ | refine blk_drew ?_ | refine blk_alloc ?_ _)); refine blk_put (cs := #[.int .i64 a0_0, .string a0_1, .string a0_2, .slice A0_3 l0_3.length c0_3, .slice A0_4 l0_4.length c0_4]) ?_ 0 _ rfl; (with_reducible repeat (first | refine blk_drewN ?_ _ | refine blk_drew ?_ | refine blk_alloc ?_ _)); exact BK199.out) hb); have n5_ := Aside0.mk (below_step (by repeat (first | (with_reducible first | exact HB.out | apply below_alloc | apply pw_below_drewN | apply below_drew1 | refine below_set ?_ GE199.out) | exact HB.out)) hb); clear HO206; clear HO209; clear BK199; clear HB; have HO206 := n0_; have HO209 := n1_; have HO215 := n2_; have HO218 := n3_; have BK199 := n4_; have HB := n5_; clear n0_ n1_ n2_ n3_ n4_ n5_; (try clear hb); (try clear hb2); (try clear hk); (try clear hi); (try clear ho0); (try clear ho1)) | ((with_reducible refine gate_dst (N := 3) rfl ?_); (try (refine gate_guard (by rfl) ?_; dsimp only)); refine box_event ?hg (N := 3) ?hd (cs := #[.int .i64 0, .string (⟨#[]⟩ : ByteArray), .string (⟨#[]⟩ : ByteArray), .slice none 0 0, .slice none 0 0]) (t := 25) ?hr ?_; (case hd => rfl); (case hg => rfl); (case hr => first | (go_simp; done) | (go_simp; rfl)); intro gb219 hg w77 hbox hb; have n0_ := Aside0.mk (Kd.R_below (by (with_reducible repeat (first | apply Kd.R_alloc | apply Kd.R_drewN | apply Kd.R_drew)); exact HO206.out) hb); have n1_ := Aside0.mk (Kd.N_below (Kd.N_elderB (by (with_reducible repeat (first | apply Kd.N_alloc | apply Kd.N_drewN | apply Kd.N_drew)); exact HO209.out) gb219 (Nat.le_of_eq hg.symm)) hb); have n2_ := Aside0.mk (Kd.R_below (by (with_reducible repeat (first | apply Kd.R_alloc | apply Kd.R_drewN | apply Kd.R_drew)); exact HO215.out) hb); have n3_ := Aside0.mk (Kd.N_below (Kd.N_elderB (by (with_reducible repeat (first | apply Kd.N_alloc | apply Kd.N_drewN | apply Kd.N_drew)); exact HO218.out) gb219 (Nat.le_of_eq hg.symm)) hb); have n4_ := Aside0.mk (blk_below (g := gb199) (o := .cells #[.int .i64 t201, .string t202, .string t203, .slice Ao74 t204.length co74, .slice Ao75 t207.length co75] 25 (0, 0)) (by (with_reducible repeat (first | refine blk_drewN ?_ _ | refine blk_drew ?_ | refine blk_alloc ?_ _)); exact BK199.out) hb); have n5_ := Aside0.mk (below_step (by repeat (first | (with_reducible first | exact HB.out | apply below_alloc | apply pw_below_drewN | apply below_drew1 | refine below_set ?_ GE199.out) | exact HB.out)) hb); have n6_ := Aside0.mk (hbox); have n7_ := Aside0.mk ((by rw [hg]; exact (below_size (by repeat (first | (with_reducible first | exact HB.out | apply below_alloc | apply pw_below_drewN | apply below_drew1 | refine below_set ?_ GE199.out) | exact HB.out))) : w.heap.size ≤ gb219)); have n8_ := Aside0.mk ((by rw [hg]; exact (below_size (by repeat (first | (with_reducible first | exact HB.out | apply below_alloc | apply pw_below_drewN | apply below_drew1 | refine below_set ?_ GE199.out) | exact HB.out))) : w.heap.size ≤ gb219)); have n9_ := Aside0.mk ((by rw [hg]; exact Nat.ne_of_lt (blk_lt (g := gb199) (o := .cells #[.int .i64 t201, .string t202, .string t203, .slice Ao74 t204.length co74, .slice Ao75 t207.length co75] 25 (0, 0)) (by (with_reducible repeat (first | refine blk_drewN ?_ _ | refine blk_drew ?_ | refine blk_alloc ?_ _)); exact BK199.out)) : gb199 ≠ gb219)); have n10_ := Aside0.mk ((by rw [hg]; exact Nat.ne_of_gt (blk_lt (g := gb199) (o := .cells #[.int .i64 t201, .string t202, .string t203, .slice Ao74 t204.length co74, .slice Ao75 t207.length co75] 25 (0, 0)) (by (with_reducible repeat (first | refine blk_drewN ?_ _ | refine blk_drew ?_ | refine blk_alloc ?_ _)); exact BK199.out)) : gb219 ≠ gb199)); clear HO206; clear HO209; clear HO215; clear HO218; clear BK199; clear HB; have HO206 := n0_; have HO209 := n1_; have HO215 := n2_; have HO218 := n3_; have BK199 := n4_; have HB := n5_; have BK219 := n6_; have GW219 := n7_; have GE219 := n8_; have NB199_219 := n9_; have NB219_199 := n10_; clear n0_ n1_ n2_ n3_ n4_ n5_ n6_ n7_ n8_ n9_ n10_; clear hb hbox hg; have hnb78 := NB219_199.out; have hnc78 := NB199_219.out; have hcz79_0 : w77.cell? ⟨gb219, 0, none⟩ = some (.int .i64 0) := (blk_cell BK219.out 0).trans rfl; have hcz79_1 : w77.cell? ⟨gb219, 1, none⟩ = some (.string (⟨#[]⟩ : ByteArray)) := (blk_cell BK219.out 1).trans rfl; have hcz79_2 : w77.cell? ⟨gb219, 2, none⟩ = some (.string (⟨#[]⟩ : ByteArray)) := (blk_cell BK219.out 2).trans rfl; have hcz79_3 : w77.cell? ⟨gb219, 3, none⟩ = some (.slice none 0 0) := (blk_cell BK219.out 3).trans rfl; have hcz79_4 : w77.cell? ⟨gb219, 4, none⟩ = some (.slice none 0 0) := (blk_cell BK219.out 4).trans rfl; have hfz79_0 := blk_frozen BK219.out 0; have hfz79_1 := blk_frozen BK219.out 1; have hfz79_2 := blk_frozen BK219.out 2; have hfz79_3 := blk_frozen BK219.out 3; have hfz79_4 := blk_frozen BK219.out 4; obtain ⟨Ao80, co80, eo80⟩ := Kd.R_slice HO215.out; subst eo80; obtain ⟨Ao81, co81, eo81⟩ := Kd.N_slice HO218.out; subst eo81))
          have n0_ : Aside0 (Kd.R k53 53 (((((w77.setCell ⟨gb219, 0, none⟩ (.int .i64 t210)).setCell ⟨gb219, 1, none⟩ (.string t211)).setCell ⟨gb219, 2, none⟩ (.string t212)).setCell ⟨gb219, 3, none⟩ (.slice Ao80 t213.length co80)).setCell ⟨gb219, 4, none⟩ (.slice Ao81 t216.length co81)) w.heap.size (fun k_ => some k_ ≠ (.slice Ao80 t213.length co80 : Value).ownBlock) (.slice Ao74 t204.length co74) t204) := ⟨by (with_reducible repeat (first | apply Kd.R_alloc | apply Kd.R_drewN | apply Kd.R_drew)); exact Kd.R_mono (Kd.R_far (p := ⟨gb219, 4, none⟩) (Kd.R_far (p := ⟨gb219, 3, none⟩) (Kd.R_far (p := ⟨gb219, 2, none⟩) (Kd.R_far (p := ⟨gb219, 1, none⟩) (Kd.R_far (p := ⟨gb219, 0, none⟩) (Kd.R_types HO206.out BK219.out (by decide)) (fun _ hk => hk.2) (.int .i64 t210)) (fun _ hk => hk.2) (.string t211)) (fun _ hk => hk.2) (.string t212)) (fun _ hk => hk.2) (.slice Ao80 t213.length co80)) (fun _ hk => hk.2) (.slice Ao81 t216.length co81)) (fun _ hk => hk.1.2)⟩
          have n1_ : Aside0 (Kd.N k25 25 (((((w77.setCell ⟨gb219, 0, none⟩ (.int .i64 t210)).setCell ⟨gb219, 1, none⟩ (.string t211)).setCell ⟨gb219, 2, none⟩ (.string t212)).setCell ⟨gb219, 3, none⟩ (.slice Ao80 t213.length co80)).setCell ⟨gb219, 4, none⟩ (.slice Ao81 t216.length co81)) w.heap.size (fun k_ => some k_ ≠ (.slice Ao74 t204.length co74 : Value).ownBlock ∧ some k_ ≠ (.slice Ao80 t213.length co80 : Value).ownBlock ∧ some k_ ≠ (.slice Ao81 t216.length co81 : Value).ownBlock ∧ k_ ≠ gb199 ∧ k_ ≠ gb219) (.slice Ao75 t207.length co75) t207) := ⟨by (with_reducible repeat (first | apply Kd.N_alloc | apply Kd.N_drewN | apply Kd.N_drew)); exact Kd.N_mono (Kd.N_far (p := ⟨gb219, 4, none⟩) (Kd.N_far (p := ⟨gb219, 3, none⟩) (Kd.N_far (p := ⟨gb219, 2, none⟩) (Kd.N_far (p := ⟨gb219, 1, none⟩) (Kd.N_far (p := ⟨gb219, 0, none⟩) (Kd.N_mono HO209.out (fun k_ hk => (⟨hk, hk.2⟩ : _ ∧ k_ ≠ gb219))) (fun _ hk => hk.2) (.int .i64 t210)) (fun _ hk => hk.2) (.string t211)) (fun _ hk => hk.2) (.string t212)) (fun _ hk => hk.2) (.slice Ao80 t213.length co80)) (fun _ hk => hk.2) (.slice Ao81 t216.length co81)) (fun _ hk => ⟨hk.1.1.1.1.1, ⟨hk.1.1.1.2, ⟨hk.1.1.2, ⟨hk.1.1.1.1.2, hk.1.2⟩⟩⟩⟩)⟩
          have n2_ : Aside0 (Kd.R k53 53 (((((w77.setCell ⟨gb219, 0, none⟩ (.int .i64 t210)).setCell ⟨gb219, 1, none⟩ (.string t211)).setCell ⟨gb219, 2, none⟩ (.string t212)).setCell ⟨gb219, 3, none⟩ (.slice Ao80 t213.length co80)).setCell ⟨gb219, 4, none⟩ (.slice Ao81 t216.length co81)) w.heap.size (fun k_ => some k_ ≠ (.slice Ao74 t204.length co74 : Value).ownBlock) (.slice Ao80 t213.length co80) t213) := ⟨by (with_reducible repeat (first | apply Kd.R_alloc | apply Kd.R_drewN | apply Kd.R_drew)); exact Kd.R_mono (Kd.R_far (p := ⟨gb219, 4, none⟩) (Kd.R_far (p := ⟨gb219, 3, none⟩) (Kd.R_far (p := ⟨gb219, 2, none⟩) (Kd.R_far (p := ⟨gb219, 1, none⟩) (Kd.R_far (p := ⟨gb219, 0, none⟩) (Kd.R_types HO215.out BK219.out (by decide)) (fun _ hk => hk.2) (.int .i64 t210)) (fun _ hk => hk.2) (.string t211)) (fun _ hk => hk.2) (.string t212)) (fun _ hk => hk.2) (.slice Ao80 t213.length co80)) (fun _ hk => hk.2) (.slice Ao81 t216.length co81)) (fun _ hk => hk.1.2)⟩
          have n3_ : Aside0 (Kd.N k25 25 (((((w77.setCell ⟨gb219, 0, none⟩ (.int .i64 t210)).setCell ⟨gb219, 1, none⟩ (.string t211)).setCell ⟨gb219, 2, none⟩ (.string t212)).setCell ⟨gb219, 3, none⟩ (.slice Ao80 t213.length co80)).setCell ⟨gb219, 4, none⟩ (.slice Ao81 t216.length co81)) w.heap.size (fun k_ => some k_ ≠ (.slice Ao74 t204.length co74 : Value).ownBlock ∧ some k_ ≠ (.slice Ao75 t207.length co75 : Value).ownBlock ∧ some k_ ≠ (.slice Ao80 t213.length co80 : Value).ownBlock ∧ k_ ≠ gb199 ∧ k_ ≠ gb219) (.slice Ao81 t216.length co81) t216) := ⟨by (with_reducible repeat (first | apply Kd.N_alloc | apply Kd.N_drewN | apply Kd.N_drew)); exact Kd.N_mono (Kd.N_far (p := ⟨gb219, 4, none⟩) (Kd.N_far (p := ⟨gb219, 3, none⟩) (Kd.N_far (p := ⟨gb219, 2, none⟩) (Kd.N_far (p := ⟨gb219, 1, none⟩) (Kd.N_far (p := ⟨gb219, 0, none⟩) (Kd.N_mono HO218.out (fun k_ hk => (⟨hk, hk.2⟩ : _ ∧ k_ ≠ gb219))) (fun _ hk => hk.2) (.int .i64 t210)) (fun _ hk => hk.2) (.string t211)) (fun _ hk => hk.2) (.string t212)) (fun _ hk => hk.2) (.slice Ao80 t213.length co80)) (fun _ hk => hk.2) (.slice Ao81 t216.length co81)) (fun _ hk => ⟨hk.1.1.2.1, ⟨hk.1.1.2.2.1, ⟨hk.1.1.1, ⟨hk.1.1.2.2.2, hk.1.2⟩⟩⟩⟩)⟩
          have n4_ : Aside0 ((((((w77.setCell ⟨gb219, 0, none⟩ (.int .i64 t210)).setCell ⟨gb219, 1, none⟩ (.string t211)).setCell ⟨gb219, 2, none⟩ (.string t212)).setCell ⟨gb219, 3, none⟩ (.slice Ao80 t213.length co80)).setCell ⟨gb219, 4, none⟩ (.slice Ao81 t216.length co81)).heap[gb199]? = some (.cells #[.int .i64 t201, .string t202, .string t203, .slice Ao74 t204.length co74, .slice Ao75 t207.length co75] 25 (0, 0))) := ⟨by (with_reducible repeat (first | refine blk_drewN ?_ _ | refine blk_drew ?_ | refine blk_alloc ?_ _)); refine blk_far ?_ NB199_219.out _; (with_reducible repeat (first | refine blk_drewN ?_ _ | refine blk_drew ?_ | refine blk_alloc ?_ _)); refine blk_far ?_ NB199_219.out _; (with_reducible repeat (first | refine blk_drewN ?_ _ | refine blk_drew ?_ | refine blk_alloc ?_ _)); refine blk_far ?_ NB199_219.out _; (with_reducible repeat (first | refine blk_drewN ?_ _ | refine blk_drew ?_ | refine blk_alloc ?_ _)); refine blk_far ?_ NB199_219.out _; (with_reducible repeat (first | refine blk_drewN ?_ _ | refine blk_drew ?_ | refine blk_alloc ?_ _)); refine blk_far ?_ NB199_219.out _; (with_reducible repeat (first | refine blk_drewN ?_ _ | refine blk_drew ?_ | refine blk_alloc ?_ _)); exact BK199.out⟩
          have n5_ : Aside0 ((((((w77.setCell ⟨gb219, 0, none⟩ (.int .i64 t210)).setCell ⟨gb219, 1, none⟩ (.string t211)).setCell ⟨gb219, 2, none⟩ (.string t212)).setCell ⟨gb219, 3, none⟩ (.slice Ao80 t213.length co80)).setCell ⟨gb219, 4, none⟩ (.slice Ao81 t216.length co81)).heap[gb219]? = some (.cells #[.int .i64 t210, .string t211, .string t212, .slice Ao80 t213.length co80, .slice Ao81 t216.length co81] 25 (0, 0))) := ⟨by (with_reducible repeat (first | refine blk_drewN ?_ _ | refine blk_drew ?_ | refine blk_alloc ?_ _)); refine blk_put (cs := #[.int .i64 t210, .string t211, .string t212, .slice Ao80 t213.length co80, .slice none 0 0]) ?_ 4 _ rfl; (with_reducible repeat (first | refine blk_drewN ?_ _ | refine blk_drew ?_ | refine blk_alloc ?_ _)); refine blk_put (cs := #[.int .i64 t210, .string t211, .string t212, .slice none 0 0, .slice none 0 0]) ?_ 3 _ rfl; (with_reducible repeat (first | refine blk_drewN ?_ _ | refine blk_drew ?_ | refine blk_alloc ?_ _)); refine blk_put (cs := #[.int .i64 t210, .string t211, .string (⟨#[]⟩ : ByteArray), .slice none 0 0, .slice none 0 0]) ?_ 2 _ rfl; (with_reducible repeat (first | refine blk_drewN ?_ _ | refine blk_drew ?_ | refine blk_alloc ?_ _)); refine blk_put (cs := #[.int .i64 t210, .string (⟨#[]⟩ : ByteArray), .string (⟨#[]⟩ : ByteArray), .slice none 0 0, .slice none 0 0]) ?_ 1 _ rfl; (with_reducible repeat (first | refine blk_drewN ?_ _ | refine blk_drew ?_ | refine blk_alloc ?_ _)); refine blk_put (cs := #[.int .i64 0, .string (⟨#[]⟩ : ByteArray), .string (⟨#[]⟩ : ByteArray), .slice none 0 0, .slice none 0 0]) ?_ 0 _ rfl; (with_reducible repeat (first | refine blk_drewN ?_ _ | refine blk_drew ?_ | refine blk_alloc ?_ _)); exact BK219.out⟩
          have n6_ : Aside0 (Below w.heap.size w (((((w77.setCell ⟨gb219, 0, none⟩ (.int .i64 t210)).setCell ⟨gb219, 1, none⟩ (.string t211)).setCell ⟨gb219, 2, none⟩ (.string t212)).setCell ⟨gb219, 3, none⟩ (.slice Ao80 t213.length co80)).setCell ⟨gb219, 4, none⟩ (.slice Ao81 t216.length co81))) := ⟨by repeat (first | (with_reducible first | exact HB.out | apply below_alloc | apply pw_below_drewN | apply below_drew1 | refine below_set ?_ GE199.out | refine below_set ?_ GE219.out) | exact HB.out)⟩
          (try clear HO206)
          (try clear HO209)
          (try clear HO215)
          (try clear HO218)
          (try clear BK199)
          (try clear BK219)
          (try clear HB)
          generalize (((((w77.setCell ⟨gb219, 0, none⟩ (.int .i64 t210)).setCell ⟨gb219, 1, none⟩ (.string t211)).setCell ⟨gb219, 2, none⟩ (.string t212)).setCell ⟨gb219, 3, none⟩ (.slice Ao80 t213.length co80)).setCell ⟨gb219, 4, none⟩ (.slice Ao81 t216.length co81)) = w82 at n0_ n1_ n2_ n3_ n4_ n5_ n6_ ⊢
          have HO206 := n0_
          have HO209 := n1_
          have HO215 := n2_
          have HO218 := n3_
          have BK199 := n4_
          have BK219 := n5_
          have HB := n6_
          clear n0_ n1_ n2_ n3_ n4_ n5_ n6_
          have n0_ := Aside0.mk (Kd.R_drew HO206.out)
          have n1_ := Aside0.mk (Kd.N_drew HO209.out)
          have n2_ := Aside0.mk (Kd.R_drew HO215.out)
          have n3_ := Aside0.mk (Kd.N_drew HO218.out)
          have n4_ := Aside0.mk (blk_drew BK199.out)
          have n5_ := Aside0.mk (blk_drew BK219.out)
          have n6_ := Aside0.mk (below_drew1 HB.out)
          clear HO206
          clear HO209
          clear HO215
          clear HO218
          clear BK199
          clear BK219
          clear HB
          have HO206 := n0_
          have HO209 := n1_
          have HO215 := n2_
          have HO218 := n3_
          have BK199 := n4_
          have BK219 := n5_
          have HB := n6_
          clear n0_ n1_ n2_ n3_ n4_ n5_ n6_
          refine start_ (n := 21) (S := fun w' => w'.cell? ⟨gb219, 0, none⟩ = some (.int .i64 t210) ∧ w'.cell? ⟨gb219, 1, none⟩ = some (.string t211) ∧ w'.cell? ⟨gb219, 2, none⟩ = some (.string t212) ∧ w'.cell? ⟨gb219, 3, none⟩ = some (.slice Ao80 t213.length co80) ∧ w'.cell? ⟨gb219, 4, none⟩ = some (.slice Ao81 t216.length co81) ∧ w'.cell? ⟨gb199, 0, none⟩ = some (.int .i64 t201) ∧ w'.cell? ⟨gb199, 1, none⟩ = some (.string t202) ∧ w'.cell? ⟨gb199, 2, none⟩ = some (.string t203) ∧ w'.cell? ⟨gb199, 3, none⟩ = some (.slice Ao74 t204.length co74) ∧ w'.cell? ⟨gb199, 4, none⟩ = some (.slice Ao75 t207.length co75)) (ds := []) #[false, false, false, false, false, false, false, false, false, false, false, false, false, false, false, false, false, false, false, false, false] (by kernel_rfl) rfl rfl ⟨(blk_cell BK219.out 0).trans rfl, (blk_cell BK219.out 1).trans rfl, (blk_cell BK219.out 2).trans rfl, (blk_cell BK219.out 3).trans rfl, (blk_cell BK219.out 4).trans rfl, (blk_cell BK199.out 0).trans rfl, (blk_cell BK199.out 1).trans rfl, (blk_cell BK199.out 2).trans rfl, (blk_cell BK199.out 3).trans rfl, (blk_cell BK199.out 4).trans rfl⟩ (fun hHeld => ?_); refine with_tabW laws_FnEmptyCode.tab5 laws_FnEmptyCode.bits5 (fun HT_ HW_ => ?_)
          generalize w82.drew = w83 at HO206 HO209 HO215 HO218 BK199 BK219 HB hHeld ⊢
          refine take_ (i := 0) (N := some 11) (v := ?_) (a' := ?_) #[true, false, false, false, false, false, false, false, false, false, false, false, false, false, false, false, false, false, false, false, false] rfl rfl (take_ofW HT_.out HW_.out (by kernel_rfl)) (fun _ _ _ h => h) (Or.inl ⟨by rfl, ?_⟩) hHeld ?_ ?_
          rotate_left
          · rintro w' ⟨s0, s1, s2, s3, s4, s5, s6, s7, s8, s9⟩
            go_simp
            with_reducible rfl
          rotate_left
          · simp only [Act.put, List.setIfInBounds_toArray, List.set_cons_zero, List.set_cons_succ, i64_w, i32_w]
            rfl
          refine take_ (i := 3) (N := some 14) (v := ?_) (a' := ?_) #[true, false, false, true, false, false, false, false, false, false, false, false, false, false, false, false, false, false, false, false, false] rfl rfl (take_ofW HT_.out HW_.out (by kernel_rfl)) (fun _ _ _ h => h) (Or.inl ⟨by rfl, ?_⟩) hHeld ?_ ?_
          rotate_left
          · rintro w' ⟨s0, s1, s2, s3, s4, s5, s6, s7, s8, s9⟩
            go_simp
            with_reducible rfl
          rotate_left
          · simp only [Act.put, List.setIfInBounds_toArray, List.set_cons_zero, List.set_cons_succ, i64_w, i32_w]
            rfl
          refine one_ (i := 1) (N := some 12) #[true, true, false, true, false, false, false, false, false, false, false, false, false, false, false, false, false, false, false, false, false] rfl rfl (one_of HT_.out (by kernel_rfl)) (by decide) (fun K hK => ?_)
          refine goes_ Try.func13 (by kernel_rfl) rfl #[.agg #[.int .i64 t210, .string t211, .string t212, .slice Ao80 t213.length co80, .slice Ao81 t216.length co81]] (by rfl) rfl rfl (by (try simp only [List.map_toArray, List.map_cons, List.map_nil]); first | done | rfl | (simp only [List.length_drop, List.length_take]; rfl)) ?_
          with_reducible refine (spec_TextOf.calls k t210 t211 t212 _ _ t213 _ _ t216 t220 _ ?side1 ?side2 ?side3 ?side4 A6.out).mono ?_
          (case side1 => repeat (first | exact (Kd.R_reads' HO215.out).2.2 | (with_reducible refine Kd.C_alloc ?_ _) | (with_reducible refine Kd.C_drewN ?_ _) | (with_reducible refine Kd.C_drew ?_)))
          (case side2 => exact (Kd.R_reads' HO215.out).2.1)
          (case side3 => repeat (first | exact (Kd.N_reads' HO218.out).2.2 | (with_reducible refine Kd.C_alloc ?_ _) | (with_reducible refine Kd.C_drewN ?_ _) | (with_reducible refine Kd.C_drew ?_)))
          (case side4 => exact (Kd.N_reads' HO218.out).2.1)
          rintro e w84 ⟨rfl, hb⟩
          refine ⟨_, rfl, ?_⟩
          have n0_ := Aside0.mk (Kd.R_below (by (with_reducible repeat (first | apply Kd.R_alloc | apply Kd.R_drewN | apply Kd.R_drew)); exact HO206.out) hb)
          have n1_ := Aside0.mk (Kd.N_below (by (with_reducible repeat (first | apply Kd.N_alloc | apply Kd.N_drewN | apply Kd.N_drew)); exact HO209.out) hb)
          have n2_ := Aside0.mk (Kd.R_below (by (with_reducible repeat (first | apply Kd.R_alloc | apply Kd.R_drewN | apply Kd.R_drew)); exact HO215.out) hb)
          have n3_ := Aside0.mk (Kd.N_below (by (with_reducible repeat (first | apply Kd.N_alloc | apply Kd.N_drewN | apply Kd.N_drew)); exact HO218.out) hb)
          have n4_ := Aside0.mk (blk_below (g := gb199) (o := .cells #[.int .i64 t201, .string t202, .string t203, .slice Ao74 t204.length co74, .slice Ao75 t207.length co75] 25 (0, 0)) (by (with_reducible repeat (first | refine blk_drewN ?_ _ | refine blk_drew ?_ | refine blk_alloc ?_ _)); exact BK199.out) hb)
          have n5_ := Aside0.mk (blk_below (g := gb219) (o := .cells #[.int .i64 t210, .string t211, .string t212, .slice Ao80 t213.length co80, .slice Ao81 t216.length co81] 25 (0, 0)) (by (with_reducible repeat (first | refine blk_drewN ?_ _ | refine blk_drew ?_ | refine blk_alloc ?_ _)); exact BK219.out) hb)
          have n6_ := Aside0.mk (below_step (by repeat (first | (with_reducible first | exact HB.out | apply below_alloc | apply pw_below_drewN | apply below_drew1 | refine below_set ?_ GE199.out | refine below_set ?_ GE219.out) | exact HB.out)) hb)
          clear HO206
          clear HO209
          clear HO215
          clear HO218
          clear BK199
          clear BK219
          clear HB
          have HO206 := n0_
          have HO209 := n1_
          have HO215 := n2_
          have HO218 := n3_
          have BK199 := n4_
          have BK219 := n5_
          have HB := n6_
          clear n0_ n1_ n2_ n3_ n4_ n5_ n6_
          (try clear hb)
          (try clear hb2)
          (try clear hk)
          (try clear hi)
          refine hK.out _ _ ⟨(blk_cell BK219.out 0).trans rfl, (blk_cell BK219.out 1).trans rfl, (blk_cell BK219.out 2).trans rfl, (blk_cell BK219.out 3).trans rfl, (blk_cell BK219.out 4).trans rfl, (blk_cell BK199.out 0).trans rfl, (blk_cell BK199.out 1).trans rfl, (blk_cell BK199.out 2).trans rfl, (blk_cell BK199.out 3).trans rfl, (blk_cell BK199.out 4).trans rfl⟩ (fun hHeld => ?_)
          clear hK K
          refine norm_ (a' := ?_) ?_ ?_
          rotate_left
          · show Act.put _ (some 12) _ = _
            simp only [Act.put, List.setIfInBounds_toArray, List.set_cons_zero, List.set_cons_succ, i64_w, i32_w]
            rfl
          refine one_ (i := 2) (N := some 13) #[true, true, true, true, false, false, false, false, false, false, false, false, false, false, false, false, false, false, false, false, false] rfl rfl (one_of HT_.out (by kernel_rfl)) (by decide) (fun K hK => ?_)
          refine goes_ Try.func17 (by kernel_rfl) rfl #[.string t220] (by rfl) rfl rfl (by (try simp only [List.map_toArray, List.map_cons, List.map_nil]); first | done | rfl | (simp only [List.length_drop, List.length_take]; rfl)) ?_
          with_reducible refine (spec_Solid.calls k t220 t221 _ A7.out).mono ?_
          rintro e w85 ⟨rfl, hb⟩
          refine ⟨_, rfl, ?_⟩
          have n0_ := Aside0.mk (Kd.R_below (by (with_reducible repeat (first | apply Kd.R_alloc | apply Kd.R_drewN | apply Kd.R_drew)); exact HO206.out) hb)
          have n1_ := Aside0.mk (Kd.N_below (by (with_reducible repeat (first | apply Kd.N_alloc | apply Kd.N_drewN | apply Kd.N_drew)); exact HO209.out) hb)
          have n2_ := Aside0.mk (Kd.R_below (by (with_reducible repeat (first | apply Kd.R_alloc | apply Kd.R_drewN | apply Kd.R_drew)); exact HO215.out) hb)
          have n3_ := Aside0.mk (Kd.N_below (by (with_reducible repeat (first | apply Kd.N_alloc | apply Kd.N_drewN | apply Kd.N_drew)); exact HO218.out) hb)
          have n4_ := Aside0.mk (blk_below (g := gb199) (o := .cells #[.int .i64 t201, .string t202, .string t203, .slice Ao74 t204.length co74, .slice Ao75 t207.length co75] 25 (0, 0)) (by (with_reducible repeat (first | refine blk_drewN ?_ _ | refine blk_drew ?_ | refine blk_alloc ?_ _)); exact BK199.out) hb)
          have n5_ := Aside0.mk (blk_below (g := gb219) (o := .cells #[.int .i64 t210, .string t211, .string t212, .slice Ao80 t213.length co80, .slice Ao81 t216.length co81] 25 (0, 0)) (by (with_reducible repeat (first | refine blk_drewN ?_ _ | refine blk_drew ?_ | refine blk_alloc ?_ _)); exact BK219.out) hb)
          have n6_ := Aside0.mk (below_step (by repeat (first | (with_reducible first | exact HB.out | apply below_alloc | apply pw_below_drewN | apply below_drew1 | refine below_set ?_ GE199.out | refine below_set ?_ GE219.out) | exact HB.out)) hb)
          clear HO206
          clear HO209
          clear HO215
          clear HO218
          clear BK199
          clear BK219
          clear HB
          have HO206 := n0_
          have HO209 := n1_
          have HO215 := n2_
          have HO218 := n3_
          have BK199 := n4_
          have BK219 := n5_
          have HB := n6_
          clear n0_ n1_ n2_ n3_ n4_ n5_ n6_
          (try clear hb)
          (try clear hb2)
          (try clear hk)
          (try clear hi)
          refine hK.out _ _ ⟨(blk_cell BK219.out 0).trans rfl, (blk_cell BK219.out 1).trans rfl, (blk_cell BK219.out 2).trans rfl, (blk_cell BK219.out 3).trans rfl, (blk_cell BK219.out 4).trans rfl, (blk_cell BK199.out 0).trans rfl, (blk_cell BK199.out 1).trans rfl, (blk_cell BK199.out 2).trans rfl, (blk_cell BK199.out 3).trans rfl, (blk_cell BK199.out 4).trans rfl⟩ (fun hHeld => ?_)
          clear hK K
          refine norm_ (a' := ?_) ?_ ?_
          rotate_left
          · show Act.put _ (some 13) _ = _
            simp only [Act.put, List.setIfInBounds_toArray, List.set_cons_zero, List.set_cons_succ, i64_w, i32_w]
            rfl
          refine one_ (i := 4) (N := some 15) #[true, true, true, true, true, false, false, false, false, false, false, false, false, false, false, false, false, false, false, false, false] rfl rfl (one_of HT_.out (by kernel_rfl)) (by decide) (fun K hK => ?_)
          refine goes_ Try.func13 (by kernel_rfl) rfl #[.agg #[.int .i64 t201, .string t202, .string t203, .slice Ao74 t204.length co74, .slice Ao75 t207.length co75]] (by rfl) rfl rfl (by (try simp only [List.map_toArray, List.map_cons, List.map_nil]); first | done | rfl | (simp only [List.length_drop, List.length_take]; rfl)) ?_
          with_reducible refine (spec_TextOf.calls k t201 t202 t203 _ _ t204 _ _ t207 t222 _ ?side1 ?side2 ?side3 ?side4 A8.out).mono ?_
          (case side1 => repeat (first | exact (Kd.R_reads' HO206.out).2.2 | (with_reducible refine Kd.C_alloc ?_ _) | (with_reducible refine Kd.C_drewN ?_ _) | (with_reducible refine Kd.C_drew ?_)))
          (case side2 => exact (Kd.R_reads' HO206.out).2.1)
          (case side3 => repeat (first | exact (Kd.N_reads' HO209.out).2.2 | (with_reducible refine Kd.C_alloc ?_ _) | (with_reducible refine Kd.C_drewN ?_ _) | (with_reducible refine Kd.C_drew ?_)))
          (case side4 => exact (Kd.N_reads' HO209.out).2.1)
          rintro e w86 ⟨rfl, hb⟩
          refine ⟨_, rfl, ?_⟩
          have n0_ := Aside0.mk (Kd.R_below (by (with_reducible repeat (first | apply Kd.R_alloc | apply Kd.R_drewN | apply Kd.R_drew)); exact HO206.out) hb)
          have n1_ := Aside0.mk (Kd.N_below (by (with_reducible repeat (first | apply Kd.N_alloc | apply Kd.N_drewN | apply Kd.N_drew)); exact HO209.out) hb)
          have n2_ := Aside0.mk (Kd.R_below (by (with_reducible repeat (first | apply Kd.R_alloc | apply Kd.R_drewN | apply Kd.R_drew)); exact HO215.out) hb)
          have n3_ := Aside0.mk (Kd.N_below (by (with_reducible repeat (first | apply Kd.N_alloc | apply Kd.N_drewN | apply Kd.N_drew)); exact HO218.out) hb)
          have n4_ := Aside0.mk (blk_below (g := gb199) (o := .cells #[.int .i64 t201, .string t202, .string t203, .slice Ao74 t204.length co74, .slice Ao75 t207.length co75] 25 (0, 0)) (by (with_reducible repeat (first | refine blk_drewN ?_ _ | refine blk_drew ?_ | refine blk_alloc ?_ _)); exact BK199.out) hb)
          have n5_ := Aside0.mk (blk_below (g := gb219) (o := .cells #[.int .i64 t210, .string t211, .string t212, .slice Ao80 t213.length co80, .slice Ao81 t216.length co81] 25 (0, 0)) (by (with_reducible repeat (first | refine blk_drewN ?_ _ | refine blk_drew ?_ | refine blk_alloc ?_ _)); exact BK219.out) hb)
          have n6_ := Aside0.mk (below_step (by repeat (first | (with_reducible first | exact HB.out | apply below_alloc | apply pw_below_drewN | apply below_drew1 | refine below_set ?_ GE199.out | refine below_set ?_ GE219.out) | exact HB.out)) hb)
          clear HO206
          clear HO209
          clear HO215
          clear HO218
          clear BK199
          clear BK219
          clear HB
          have HO206 := n0_
          have HO209 := n1_
          have HO215 := n2_
          have HO218 := n3_
          have BK199 := n4_
          have BK219 := n5_
          have HB := n6_
          clear n0_ n1_ n2_ n3_ n4_ n5_ n6_
          (try clear hb)
          (try clear hb2)
          (try clear hk)
          (try clear hi)
          refine hK.out _ _ ⟨(blk_cell BK219.out 0).trans rfl, (blk_cell BK219.out 1).trans rfl, (blk_cell BK219.out 2).trans rfl, (blk_cell BK219.out 3).trans rfl, (blk_cell BK219.out 4).trans rfl, (blk_cell BK199.out 0).trans rfl, (blk_cell BK199.out 1).trans rfl, (blk_cell BK199.out 2).trans rfl, (blk_cell BK199.out 3).trans rfl, (blk_cell BK199.out 4).trans rfl⟩ (fun hHeld => ?_)
          clear hK K
          refine norm_ (a' := ?_) ?_ ?_
          rotate_left
          · show Act.put _ (some 15) _ = _
            simp only [Act.put, List.setIfInBounds_toArray, List.set_cons_zero, List.set_cons_succ, i64_w, i32_w]
            rfl
          refine one_ (i := 5) (N := some 16) #[true, true, true, true, true, true, false, false, false, false, false, false, false, false, false, false, false, false, false, false, false] rfl rfl (one_of HT_.out (by kernel_rfl)) (by decide) (fun K hK => ?_)
          refine goes_ Try.func17 (by kernel_rfl) rfl #[.string t222] (by rfl) rfl rfl (by (try simp only [List.map_toArray, List.map_cons, List.map_nil]); first | done | rfl | (simp only [List.length_drop, List.length_take]; rfl)) ?_
          with_reducible refine (spec_Solid.calls k t222 t223 _ A9.out).mono ?_
          rintro e w87 ⟨rfl, hb⟩
          refine ⟨_, rfl, ?_⟩
          have n0_ := Aside0.mk (Kd.R_below (by (with_reducible repeat (first | apply Kd.R_alloc | apply Kd.R_drewN | apply Kd.R_drew)); exact HO206.out) hb)
          have n1_ := Aside0.mk (Kd.N_below (by (with_reducible repeat (first | apply Kd.N_alloc | apply Kd.N_drewN | apply Kd.N_drew)); exact HO209.out) hb)
          have n2_ := Aside0.mk (Kd.R_below (by (with_reducible repeat (first | apply Kd.R_alloc | apply Kd.R_drewN | apply Kd.R_drew)); exact HO215.out) hb)
          have n3_ := Aside0.mk (Kd.N_below (by (with_reducible repeat (first | apply Kd.N_alloc | apply Kd.N_drewN | apply Kd.N_drew)); exact HO218.out) hb)
          have n4_ := Aside0.mk (blk_below (g := gb199) (o := .cells #[.int .i64 t201, .string t202, .string t203, .slice Ao74 t204.length co74, .slice Ao75 t207.length co75] 25 (0, 0)) (by (with_reducible repeat (first | refine blk_drewN ?_ _ | refine blk_drew ?_ | refine blk_alloc ?_ _)); exact BK199.out) hb)
          have n5_ := Aside0.mk (blk_below (g := gb219) (o := .cells #[.int .i64 t210, .string t211, .string t212, .slice Ao80 t213.length co80, .slice Ao81 t216.length co81] 25 (0, 0)) (by (with_reducible repeat (first | refine blk_drewN ?_ _ | refine blk_drew ?_ | refine blk_alloc ?_ _)); exact BK219.out) hb)
          have n6_ := Aside0.mk (below_step (by repeat (first | (with_reducible first | exact HB.out | apply below_alloc | apply pw_below_drewN | apply below_drew1 | refine below_set ?_ GE199.out | refine below_set ?_ GE219.out) | exact HB.out)) hb)
          clear HO206
          clear HO209
          clear HO215
          clear HO218
          clear BK199
          clear BK219
          clear HB
          have HO206 := n0_
          have HO209 := n1_
          have HO215 := n2_
          have HO218 := n3_
          have BK199 := n4_
          have BK219 := n5_
          have HB := n6_
          clear n0_ n1_ n2_ n3_ n4_ n5_ n6_
          (try clear hb)
          (try clear hb2)
          (try clear hk)
          (try clear hi)
          refine hK.out _ _ ⟨(blk_cell BK219.out 0).trans rfl, (blk_cell BK219.out 1).trans rfl, (blk_cell BK219.out 2).trans rfl, (blk_cell BK219.out 3).trans rfl, (blk_cell BK219.out 4).trans rfl, (blk_cell BK199.out 0).trans rfl, (blk_cell BK199.out 1).trans rfl, (blk_cell BK199.out 2).trans rfl, (blk_cell BK199.out 3).trans rfl, (blk_cell BK199.out 4).trans rfl⟩ (fun hHeld => ?_)
          clear hK K
          refine norm_ (a' := ?_) ?_ ?_
          rotate_left
          · show Act.put _ (some 16) _ = _
            simp only [Act.put, List.setIfInBounds_toArray, List.set_cons_zero, List.set_cons_succ, i64_w, i32_w]
            rfl
          refine pure_ (i := 6) (N := some 17) (v := ?_) (a' := ?_) #[true, true, true, true, true, true, true, false, false, false, false, false, false, false, false, false, false, false, false, false, false] rfl rfl (any_of HT_.out (by kernel_rfl)) (fun _ _ _ h => h) (Or.inl ⟨by rfl, ?_⟩) ?_ ?_
          rotate_left
          · intro w'
            go_simp
            with_reducible rfl
          rotate_left
          · simp only [Act.put, List.setIfInBounds_toArray, List.set_cons_zero, List.set_cons_succ, i64_w, i32_w]
            rfl
          refine pure_ (i := 7) (N := some 18) (v := ?_) (a' := ?_) #[true, true, true, true, true, true, true, true, false, false, false, false, false, false, false, false, false, false, false, false, false] rfl rfl (any_of HT_.out (by kernel_rfl)) (fun _ _ _ h => h) (Or.inl ⟨by rfl, ?_⟩) ?_ ?_
          rotate_left
          · intro w'
            go_simp
            with_reducible rfl
          rotate_left
          · simp only [Act.put, List.setIfInBounds_toArray, List.set_cons_zero, List.set_cons_succ, i64_w, i32_w]
            rfl
          refine take_ (i := 8) (N := some 19) (v := ?_) (a' := ?_) #[true, true, true, true, true, true, true, true, true, false, false, false, false, false, false, false, false, false, false, false, false] rfl rfl (take_ofW HT_.out HW_.out (by kernel_rfl)) (fun _ _ _ h => h) (Or.inl ⟨by rfl, ?_⟩) hHeld ?_ ?_
          rotate_left
          · rintro w' ⟨s0, s1, s2, s3, s4, s5, s6, s7, s8, s9⟩
            go_simp
            with_reducible rfl
          rotate_left
          · simp only [Act.put, List.setIfInBounds_toArray, List.set_cons_zero, List.set_cons_succ, i64_w, i32_w]
            rfl
          refine one_ (i := 9) (N := some 20) #[true, true, true, true, true, true, true, true, true, true, false, false, false, false, false, false, false, false, false, false, false] rfl rfl (one_of HT_.out (by kernel_rfl)) (by decide) (fun K hK => ?_)
          refine Kd.R_lit_step Kd.string _ 9 ?hg (N := 20) ?hd (xs := ([(⟨#[99, 111, 100, 101]⟩ : ByteArray), (⟨#[112, 114, 101]⟩ : ByteArray)] : List ByteArray)) (inner := [.string (⟨#[99, 111, 100, 101]⟩ : ByteArray), .string (⟨#[112, 114, 101]⟩ : ByteArray)]) (ok := fun _ => True) (okp := fun _ => True) ?hr ?hp (fun _ hk => hk) trivial (Below.refl _ _) (Nat.le_refl _) (by simp) ?_; (case hd => rfl); (case hg => rfl); (case hr => first | (go_simp; done) | (go_simp; rfl)); (case hp => exact (Reps.one (show Kd.M Kd.string _ _ _ (⟨#[99, 111, 100, 101]⟩ : ByteArray) [.string (⟨#[99, 111, 100, 101]⟩ : ByteArray)] from rfl) (Reps.one (show Kd.M Kd.string _ _ _ (⟨#[112, 114, 101]⟩ : ByteArray) [.string (⟨#[112, 114, 101]⟩ : ByteArray)] from rfl) (Reps.none _ _))))
          intro v225 w88 ho89 hb hg_ hnew_
          clear hg_ hnew_
          (first | rw [← Ny224.out] at ho89 | (simp only [Int.reduceToNat] at ho89; rw [← Ny224.out] at ho89))
          have n0_ := Aside0.mk (Kd.R_below (by (with_reducible repeat (first | apply Kd.R_alloc | apply Kd.R_drewN | apply Kd.R_drew)); exact HO206.out) hb)
          have n1_ := Aside0.mk (Kd.N_elder' (by (with_reducible repeat (first | apply Kd.N_alloc | apply Kd.N_drewN | apply Kd.N_drew)); exact HO209.out) (Kd.R_base ho89) hb)
          have n2_ := Aside0.mk (Kd.R_below (by (with_reducible repeat (first | apply Kd.R_alloc | apply Kd.R_drewN | apply Kd.R_drew)); exact HO215.out) hb)
          have n3_ := Aside0.mk (Kd.N_elder' (by (with_reducible repeat (first | apply Kd.N_alloc | apply Kd.N_drewN | apply Kd.N_drew)); exact HO218.out) (Kd.R_base ho89) hb)
          have n4_ := Aside0.mk (Kd.R_lower ho89 (below_size (by repeat (first | (with_reducible first | exact HB.out | apply below_alloc | apply pw_below_drewN | apply below_drew1 | refine below_set ?_ GE199.out | refine below_set ?_ GE219.out) | exact HB.out))))
          have n5_ := Aside0.mk (blk_below (g := gb199) (o := .cells #[.int .i64 t201, .string t202, .string t203, .slice Ao74 t204.length co74, .slice Ao75 t207.length co75] 25 (0, 0)) (by (with_reducible repeat (first | refine blk_drewN ?_ _ | refine blk_drew ?_ | refine blk_alloc ?_ _)); exact BK199.out) hb)
          have n6_ := Aside0.mk (blk_below (g := gb219) (o := .cells #[.int .i64 t210, .string t211, .string t212, .slice Ao80 t213.length co80, .slice Ao81 t216.length co81] 25 (0, 0)) (by (with_reducible repeat (first | refine blk_drewN ?_ _ | refine blk_drew ?_ | refine blk_alloc ?_ _)); exact BK219.out) hb)
          have n7_ := Aside0.mk (below_step (by repeat (first | (with_reducible first | exact HB.out | apply below_alloc | apply pw_below_drewN | apply below_drew1 | refine below_set ?_ GE199.out | refine below_set ?_ GE219.out) | exact HB.out)) hb)
          clear HO206
          clear HO209
          clear HO215
          clear HO218
          clear BK199
          clear BK219
          clear HB
          have HO206 := n0_
          have HO209 := n1_
          have HO215 := n2_
          have HO218 := n3_
          have HO226 := n4_
          have BK199 := n5_
          have BK219 := n6_
          have HB := n7_
          clear n0_ n1_ n2_ n3_ n4_ n5_ n6_ n7_
          clear hb ho89
          obtain ⟨Ao90, co90, eo90⟩ := Kd.R_slice HO226.out
          (first | subst eo90 | (injection eo90 with f1_ f2_ f3_; have f4_ := f1_.symm; have f5_ := f3_.symm; clear f1_ f2_ f3_; subst f4_; subst f5_))
          refine hK.out _ _ ⟨(blk_cell BK219.out 0).trans rfl, (blk_cell BK219.out 1).trans rfl, (blk_cell BK219.out 2).trans rfl, (blk_cell BK219.out 3).trans rfl, (blk_cell BK219.out 4).trans rfl, (blk_cell BK199.out 0).trans rfl, (blk_cell BK199.out 1).trans rfl, (blk_cell BK199.out 2).trans rfl, (blk_cell BK199.out 3).trans rfl, (blk_cell BK199.out 4).trans rfl⟩ (fun hHeld => ?_)
          clear hK K
          refine norm_ (a' := ?_) ?_ ?_
          rotate_left
          · show Act.put _ (some 20) _ = _
            simp only [Act.put, List.setIfInBounds_toArray, List.set_cons_zero, List.set_cons_succ, i64_w, i32_w]
            rfl
          refine one_ (i := 10) (N := some 21) #[true, true, true, true, true, true, true, true, true, true, true, false, false, false, false, false, false, false, false, false, false] rfl rfl (one_of HT_.out (by kernel_rfl)) (by decide) (fun K hK => ?_)
          refine goes_ Try.func18 (by kernel_rfl) rfl #[.agg #[.int .i64 t201, .string t202, .string t203, .slice Ao74 t204.length co74, .slice Ao75 t207.length co75], .slice Ao90 y224.length co90] (by rfl) rfl rfl (by (try simp only [List.map_toArray, List.map_cons, List.map_nil]); first | done | rfl | (simp only [List.length_drop, List.length_take]; rfl)) ?_
          with_reducible refine (laws_inlineHas.calls k t201 t202 t203 _ _ t204 _ _ t207 _ _ y224 false _ ?side1 ?side2 ?side3 ?side4 ?side5 ?side6 A11.out).mono ?_
          (case side1 => repeat (first | exact (Kd.R_reads' HO206.out).2.2 | (with_reducible refine Kd.C_alloc ?_ _) | (with_reducible refine Kd.C_drewN ?_ _) | (with_reducible refine Kd.C_drew ?_)))
          (case side2 => exact (Kd.R_reads' HO206.out).2.1)
          (case side3 => repeat (first | exact (Kd.N_reads' HO209.out).2.2 | (with_reducible refine Kd.C_alloc ?_ _) | (with_reducible refine Kd.C_drewN ?_ _) | (with_reducible refine Kd.C_drew ?_)))
          (case side4 => exact (Kd.N_reads' HO209.out).2.1)
          (case side5 => repeat (first | exact (Kd.R_reads' HO226.out).2.2 | (with_reducible refine Kd.C_alloc ?_ _) | (with_reducible refine Kd.C_drewN ?_ _) | (with_reducible refine Kd.C_drew ?_)))
          (case side6 => exact (Kd.R_reads' HO226.out).2.1)
          rintro e w91 ⟨rfl, hb⟩
          refine ⟨_, rfl, ?_⟩
          have n0_ := Aside0.mk (Kd.R_below (by (with_reducible repeat (first | apply Kd.R_alloc | apply Kd.R_drewN | apply Kd.R_drew)); exact HO206.out) hb)
          have n1_ := Aside0.mk (Kd.N_below (by (with_reducible repeat (first | apply Kd.N_alloc | apply Kd.N_drewN | apply Kd.N_drew)); exact HO209.out) hb)
          have n2_ := Aside0.mk (Kd.R_below (by (with_reducible repeat (first | apply Kd.R_alloc | apply Kd.R_drewN | apply Kd.R_drew)); exact HO215.out) hb)
          have n3_ := Aside0.mk (Kd.N_below (by (with_reducible repeat (first | apply Kd.N_alloc | apply Kd.N_drewN | apply Kd.N_drew)); exact HO218.out) hb)
          have n4_ := Aside0.mk (Kd.R_below (by (with_reducible repeat (first | apply Kd.R_alloc | apply Kd.R_drewN | apply Kd.R_drew)); exact HO226.out) hb)
          have n5_ := Aside0.mk (blk_below (g := gb199) (o := .cells #[.int .i64 t201, .string t202, .string t203, .slice Ao74 t204.length co74, .slice Ao75 t207.length co75] 25 (0, 0)) (by (with_reducible repeat (first | refine blk_drewN ?_ _ | refine blk_drew ?_ | refine blk_alloc ?_ _)); exact BK199.out) hb)
          have n6_ := Aside0.mk (blk_below (g := gb219) (o := .cells #[.int .i64 t210, .string t211, .string t212, .slice Ao80 t213.length co80, .slice Ao81 t216.length co81] 25 (0, 0)) (by (with_reducible repeat (first | refine blk_drewN ?_ _ | refine blk_drew ?_ | refine blk_alloc ?_ _)); exact BK219.out) hb)
          have n7_ := Aside0.mk (below_step (by repeat (first | (with_reducible first | exact HB.out | apply below_alloc | apply pw_below_drewN | apply below_drew1 | refine below_set ?_ GE199.out | refine below_set ?_ GE219.out) | exact HB.out)) hb)
          clear HO206
          clear HO209
          clear HO215
          clear HO218
          clear HO226
          clear BK199
          clear BK219
          clear HB
          have HO206 := n0_
          have HO209 := n1_
          have HO215 := n2_
          have HO218 := n3_
          have HO226 := n4_
          have BK199 := n5_
          have BK219 := n6_
          have HB := n7_
          clear n0_ n1_ n2_ n3_ n4_ n5_ n6_ n7_
          (try clear hb)
          (try clear hb2)
          (try clear hk)
          (try clear hi)
          refine hK.out _ _ ⟨(blk_cell BK219.out 0).trans rfl, (blk_cell BK219.out 1).trans rfl, (blk_cell BK219.out 2).trans rfl, (blk_cell BK219.out 3).trans rfl, (blk_cell BK219.out 4).trans rfl, (blk_cell BK199.out 0).trans rfl, (blk_cell BK199.out 1).trans rfl, (blk_cell BK199.out 2).trans rfl, (blk_cell BK199.out 3).trans rfl, (blk_cell BK199.out 4).trans rfl⟩ (fun hHeld => ?_)
          clear hK K
          refine norm_ (a' := ?_) ?_ ?_
          rotate_left
          · show Act.put _ (some 21) _ = _
            simp only [Act.put, List.setIfInBounds_toArray, List.set_cons_zero, List.set_cons_succ, i64_w, i32_w]
            rfl
          refine pure_ (i := 11) (N := some 22) (v := ?_) (a' := ?_) #[true, true, true, true, true, true, true, true, true, true, true, true, false, false, false, false, false, false, false, false, false] rfl rfl (any_of HT_.out (by kernel_rfl)) (fun _ _ _ h => h) (Or.inl ⟨by rfl, ?_⟩) ?_ ?_
          rotate_left
          · intro w'
            go_simp
            with_reducible rfl
          rotate_left
          · simp only [Act.put, List.setIfInBounds_toArray, List.set_cons_zero, List.set_cons_succ, i64_w, i32_w]
            rfl
          refine take_ (i := 12) (N := some 23) (v := ?_) (a' := ?_) #[true, true, true, true, true, true, true, true, true, true, true, true, true, false, false, false, false, false, false, false, false] rfl rfl (take_ofW HT_.out HW_.out (by kernel_rfl)) (fun _ _ _ h => h) (Or.inl ⟨by rfl, ?_⟩) hHeld ?_ ?_
          rotate_left
          · rintro w' ⟨s0, s1, s2, s3, s4, s5, s6, s7, s8, s9⟩
            go_simp
            with_reducible rfl
          rotate_left
          · simp only [Act.put, List.setIfInBounds_toArray, List.set_cons_zero, List.set_cons_succ, i64_w, i32_w]
            rfl
          refine take_ (i := 13) (N := some 24) (v := ?_) (a' := ?_) #[true, true, true, true, true, true, true, true, true, true, true, true, true, true, false, false, false, false, false, false, false] rfl rfl (take_ofW HT_.out HW_.out (by kernel_rfl)) (fun _ _ _ h => h) (Or.inl ⟨by rfl, ?_⟩) hHeld ?_ ?_
          rotate_left
          · rintro w' ⟨s0, s1, s2, s3, s4, s5, s6, s7, s8, s9⟩
            go_simp
            with_reducible rfl
          rotate_left
          · simp only [Act.put, List.setIfInBounds_toArray, List.set_cons_zero, List.set_cons_succ, i64_w, i32_w]
            rfl
          refine one_ (i := 14) (N := some 25) #[true, true, true, true, true, true, true, true, true, true, true, true, true, true, true, false, false, false, false, false, false] rfl rfl (one_of HT_.out (by kernel_rfl)) (by decide) (fun K hK => ?_)
          refine goes_ Try.func14 (by kernel_rfl) rfl #[.agg #[.int .i64 t210, .string t211, .string t212, .slice Ao80 t213.length co80, .slice Ao81 t216.length co81], .agg #[.int .i64 t201, .string t202, .string t203, .slice Ao74 t204.length co74, .slice Ao75 t207.length co75]] (by rfl) rfl rfl (by (try simp only [List.map_toArray, List.map_cons, List.map_nil]); first | done | rfl | (simp only [List.length_drop, List.length_take]; rfl)) ?_
          with_reducible refine (spec_SameTree.calls k t210 t211 t212 _ _ t213 _ _ t216 t201 t202 t203 _ _ t204 _ _ t207 false _ ?side1 ?side2 ?side3 ?side4 ?side5 ?side6 ?side7 ?side8 A39.out).mono ?_
          (case side1 => repeat (first | exact (Kd.R_reads' HO215.out).2.2 | (with_reducible refine Kd.C_alloc ?_ _) | (with_reducible refine Kd.C_drewN ?_ _) | (with_reducible refine Kd.C_drew ?_)))
          (case side2 => exact (Kd.R_reads' HO215.out).2.1)
          (case side3 => repeat (first | exact (Kd.N_reads' HO218.out).2.2 | (with_reducible refine Kd.C_alloc ?_ _) | (with_reducible refine Kd.C_drewN ?_ _) | (with_reducible refine Kd.C_drew ?_)))
          (case side4 => exact (Kd.N_reads' HO218.out).2.1)
          (case side5 => repeat (first | exact (Kd.R_reads' HO206.out).2.2 | (with_reducible refine Kd.C_alloc ?_ _) | (with_reducible refine Kd.C_drewN ?_ _) | (with_reducible refine Kd.C_drew ?_)))
          (case side6 => exact (Kd.R_reads' HO206.out).2.1)
          (case side7 => repeat (first | exact (Kd.N_reads' HO209.out).2.2 | (with_reducible refine Kd.C_alloc ?_ _) | (with_reducible refine Kd.C_drewN ?_ _) | (with_reducible refine Kd.C_drew ?_)))
          (case side8 => exact (Kd.N_reads' HO209.out).2.1)
          rintro e w92 ⟨rfl, hb⟩
          refine ⟨_, rfl, ?_⟩
          have n0_ := Aside0.mk (Kd.R_below (by (with_reducible repeat (first | apply Kd.R_alloc | apply Kd.R_drewN | apply Kd.R_drew)); exact HO206.out) hb)
          have n1_ := Aside0.mk (Kd.N_below (by (with_reducible repeat (first | apply Kd.N_alloc | apply Kd.N_drewN | apply Kd.N_drew)); exact HO209.out) hb)
          have n2_ := Aside0.mk (Kd.R_below (by (with_reducible repeat (first | apply Kd.R_alloc | apply Kd.R_drewN | apply Kd.R_drew)); exact HO215.out) hb)
          have n3_ := Aside0.mk (Kd.N_below (by (with_reducible repeat (first | apply Kd.N_alloc | apply Kd.N_drewN | apply Kd.N_drew)); exact HO218.out) hb)
          have n4_ := Aside0.mk (Kd.R_below (by (with_reducible repeat (first | apply Kd.R_alloc | apply Kd.R_drewN | apply Kd.R_drew)); exact HO226.out) hb)
          have n5_ := Aside0.mk (blk_below (g := gb199) (o := .cells #[.int .i64 t201, .string t202, .string t203, .slice Ao74 t204.length co74, .slice Ao75 t207.length co75] 25 (0, 0)) (by (with_reducible repeat (first | refine blk_drewN ?_ _ | refine blk_drew ?_ | refine blk_alloc ?_ _)); exact BK199.out) hb)
          have n6_ := Aside0.mk (blk_below (g := gb219) (o := .cells #[.int .i64 t210, .string t211, .string t212, .slice Ao80 t213.length co80, .slice Ao81 t216.length co81] 25 (0, 0)) (by (with_reducible repeat (first | refine blk_drewN ?_ _ | refine blk_drew ?_ | refine blk_alloc ?_ _)); exact BK219.out) hb)
          have n7_ := Aside0.mk (below_step (by repeat (first | (with_reducible first | exact HB.out | apply below_alloc | apply pw_below_drewN | apply below_drew1 | refine below_set ?_ GE199.out | refine below_set ?_ GE219.out) | exact HB.out)) hb)
          clear HO206
          clear HO209
          clear HO215
          clear HO218
          clear HO226
          clear BK199
          clear BK219
          clear HB
          have HO206 := n0_
          have HO209 := n1_
          have HO215 := n2_
          have HO218 := n3_
          have HO226 := n4_
          have BK199 := n5_
          have BK219 := n6_
          have HB := n7_
          clear n0_ n1_ n2_ n3_ n4_ n5_ n6_ n7_
          (try clear hb)
          (try clear hb2)
          (try clear hk)
          (try clear hi)
          refine hK.out _ _ ⟨(blk_cell BK219.out 0).trans rfl, (blk_cell BK219.out 1).trans rfl, (blk_cell BK219.out 2).trans rfl, (blk_cell BK219.out 3).trans rfl, (blk_cell BK219.out 4).trans rfl, (blk_cell BK199.out 0).trans rfl, (blk_cell BK199.out 1).trans rfl, (blk_cell BK199.out 2).trans rfl, (blk_cell BK199.out 3).trans rfl, (blk_cell BK199.out 4).trans rfl⟩ (fun hHeld => ?_)
          clear hK K
          refine norm_ (a' := ?_) ?_ ?_
          rotate_left
          · show Act.put _ (some 25) _ = _
            simp only [Act.put, List.setIfInBounds_toArray, List.set_cons_zero, List.set_cons_succ, i64_w, i32_w]
            rfl
          refine pure_ (i := 15) (N := some 26) (v := ?_) (a' := ?_) #[true, true, true, true, true, true, true, true, true, true, true, true, true, true, true, true, false, false, false, false, false] rfl rfl (any_of HT_.out (by kernel_rfl)) (fun _ _ _ h => h) (Or.inl ⟨by rfl, ?_⟩) ?_ ?_
          rotate_left
          · intro w'
            go_simp
            with_reducible rfl
          rotate_left
          · simp only [Act.put, List.setIfInBounds_toArray, List.set_cons_zero, List.set_cons_succ, i64_w, i32_w]
            rfl
          refine pure_ (i := 16) (N := some 27) (v := ?_) (a' := ?_) #[true, true, true, true, true, true, true, true, true, true, true, true, true, true, true, true, true, false, false, false, false] rfl rfl (any_of HT_.out (by kernel_rfl)) (fun _ _ _ h => h) (Or.inl ⟨by rfl, ?_⟩) ?_ ?_
          rotate_left
          · intro w'
            go_simp
            with_reducible rfl
          rotate_left
          · simp only [Act.put, List.setIfInBounds_toArray, List.set_cons_zero, List.set_cons_succ, i64_w, i32_w]
            rfl
          refine pure_ (i := 17) (N := some 28) (v := ?_) (a' := ?_) #[true, true, true, true, true, true, true, true, true, true, true, true, true, true, true, true, true, true, false, false, false] rfl rfl (any_of HT_.out (by kernel_rfl)) (fun _ _ _ h => h) (Or.inl ⟨by rfl, ?_⟩) ?_ ?_
          rotate_left
          · intro w'
            go_simp
            with_reducible rfl
          rotate_left
          · simp only [Act.put, List.setIfInBounds_toArray, List.set_cons_zero, List.set_cons_succ, i64_w, i32_w]
            rfl
          refine pure_ (i := 18) (N := some 29) (v := undef) (a' := ?_) #[true, true, true, true, true, true, true, true, true, true, true, true, true, true, true, true, true, true, true, false, false] rfl rfl (any_of HT_.out (by kernel_rfl)) (fun _ _ _ h => h) (Or.inr ⟨by rfl, rfl⟩) ?_ ?_
          rotate_left
          · simp only [Act.put, List.setIfInBounds_toArray, List.set_cons_zero, List.set_cons_succ, i64_w, i32_w]
            rfl
          refine pure_ (i := 19) (N := some 30) (v := ?_) (a' := ?_) #[true, true, true, true, true, true, true, true, true, true, true, true, true, true, true, true, true, true, true, true, false] rfl rfl (any_of HT_.out (by kernel_rfl)) (fun _ _ _ h => h) (Or.inl ⟨by rfl, ?_⟩) ?_ ?_
          rotate_left
          · intro w'
            go_simp
            with_reducible rfl
          rotate_left
          · simp only [Act.put, List.setIfInBounds_toArray, List.set_cons_zero, List.set_cons_succ, i64_w, i32_w]
            rfl
          refine pure_ (i := 20) (N := some 2) (v := ?_) (a' := ?_) #[true, true, true, true, true, true, true, true, true, true, true, true, true, true, true, true, true, true, true, true, true] rfl rfl (any_of HT_.out (by kernel_rfl)) (fun _ _ _ h => h) (Or.inl ⟨by rfl, ?_⟩) ?_ ?_
          rotate_left
          · intro w'
            go_simp
            with_reducible rfl
          rotate_left
          · simp only [Act.put, List.setIfInBounds_toArray, List.set_cons_zero, List.set_cons_succ, i64_w, i32_w]
            rfl
          refine done_ (done_of HT_.out (by kernel_rfl)) ?_
          try go_wp2
          go_ret
          exact ⟨by first | rfl | (simp [errW_none, errW_some] <;> rfl) | (simp [*, errW_none, errW_some] <;> rfl), by repeat (first | (with_reducible first | exact HB.out | apply below_alloc | apply pw_below_drewN | apply below_drew1 | refine below_set ?_ GE199.out | refine below_set ?_ GE219.out) | exact HB.out)⟩
    · rw [if_neg c10] at H
      have c10b0 : (t221.toList == t223.toList) = false := beq_eq_false_iff_ne.mpr c10
      have c10b1 : (t221.toList != t223.toList) = true := bne_iff_ne.mpr c10
      obtain rfl := Option.some.inj H
      go_enter Try.func4, Try.ntmps4
      try go_wp2_with (first | ((with_reducible refine gate_dst (N := 1) rfl ?_); (try (refine gate_guard (by rfl) ?_; dsimp only)); refine box_event ?hg (N := 1) ?hd (cs := #[.int .i64 a0_0, .string a0_1, .string a0_2, .slice A0_3 l0_3.length c0_3, .slice A0_4 l0_4.length c0_4]) (t := 25) ?hr ?_; (case hd => rfl); (case hg => rfl); (case hr => first | (go_simp; done) | (go_simp; rfl)); intro gb199 hg w93 hbox hb; have n0_ := Aside0.mk (below_step (by repeat (first | (with_reducible first | exact HB.out | apply below_alloc | apply pw_below_drewN | apply below_drew1) | exact HB.out)) hb); have n1_ := Aside0.mk (hbox); have n2_ := Aside0.mk ((by rw [hg]; exact (below_size (by repeat (first | (with_reducible first | exact HB.out | apply below_alloc | apply pw_below_drewN | apply below_drew1) | exact HB.out))) : w.heap.size ≤ gb199)); have n3_ := Aside0.mk ((by rw [hg]; exact (below_size (by repeat (first | (with_reducible first | exact HB.out | apply below_alloc | apply pw_below_drewN | apply below_drew1) | exact HB.out))) : w.heap.size ≤ gb199)); clear HB; have HB := n0_; have BK199 := n1_; have GW199 := n2_; have GE199 := n3_; clear n0_ n1_ n2_ n3_; clear hb hbox hg; have hcz94_0 : w93.cell? ⟨gb199, 0, none⟩ = some (.int .i64 a0_0) := (blk_cell BK199.out 0).trans rfl; have hcz94_1 : w93.cell? ⟨gb199, 1, none⟩ = some (.string a0_1) := (blk_cell BK199.out 1).trans rfl; have hcz94_2 : w93.cell? ⟨gb199, 2, none⟩ = some (.string a0_2) := (blk_cell BK199.out 2).trans rfl; have hcz94_3 : w93.cell? ⟨gb199, 3, none⟩ = some (.slice A0_3 l0_3.length c0_3) := (blk_cell BK199.out 3).trans rfl; have hcz94_4 : w93.cell? ⟨gb199, 4, none⟩ = some (.slice A0_4 l0_4.length c0_4) := (blk_cell BK199.out 4).trans rfl; have hfz94_0 := blk_frozen BK199.out 0; have hfz94_1 := blk_frozen BK199.out 1; have hfz94_2 := blk_frozen BK199.out 2; have hfz94_3 := blk_frozen BK199.out 3; have hfz94_4 := blk_frozen BK199.out 4) | ((with_reducible refine gate_callee (f := 9) rfl ?_); refine goesL_ (some 5) rfl rfl Try.func9 (by kernel_rfl) rfl #[.agg #[.int .i64 a0_0, .string a0_1, .string a0_2, .slice A0_3 l0_3.length c0_3, .slice A0_4 l0_4.length c0_4]] rfl (by (try simp only [List.map_toArray, List.map_cons, List.map_nil]); first | done | rfl | (simp only [List.length_drop, List.length_take]; rfl)) ?_; (with_reducible refine (laws_zzFits2.calls k a0_0 a0_1 a0_2 _ _ l0_3 _ _ l0_4 true _ ?side1 ?side2 ?side3 ?side4 A2.out).mono ?_); (case side1 => repeat (first | exact (Kd.C_below HR0_3.out HB.out) | (with_reducible refine Kd.C_alloc ?_ _) | (with_reducible refine Kd.C_drewN ?_ _) | (with_reducible refine Kd.C_drew ?_))); (case side2 => exact HC0_3.out); (case side3 => repeat (first | exact (Kd.C_below HR0_4.out HB.out) | (with_reducible refine Kd.C_alloc ?_ _) | (with_reducible refine Kd.C_drewN ?_ _) | (with_reducible refine Kd.C_drew ?_))); (case side4 => exact HC0_4.out); rintro e w95 ⟨rfl, hb⟩; refine ⟨_, rfl, ?_⟩; have n0_ := Aside0.mk (blk_below (g := gb199) (o := .cells #[.int .i64 a0_0, .string a0_1, .string a0_2, .slice A0_3 l0_3.length c0_3, .slice A0_4 l0_4.length c0_4] 25 (0, 0)) (by (with_reducible repeat (first | refine blk_drewN ?_ _ | refine blk_drew ?_ | refine blk_alloc ?_ _)); exact BK199.out) hb); have n1_ := Aside0.mk (below_step (by repeat (first | (with_reducible first | exact HB.out | apply below_alloc | apply pw_below_drewN | apply below_drew1 | refine below_set ?_ GE199.out) | exact HB.out)) hb); clear BK199; clear HB; have BK199 := n0_; have HB := n1_; clear n0_ n1_; (try clear hb); (try clear hb2); (try clear hk); (try clear hi); have hcz96_0 : w95.cell? ⟨gb199, 0, none⟩ = some (.int .i64 a0_0) := (blk_cell BK199.out 0).trans rfl; have hcz96_1 : w95.cell? ⟨gb199, 1, none⟩ = some (.string a0_1) := (blk_cell BK199.out 1).trans rfl; have hcz96_2 : w95.cell? ⟨gb199, 2, none⟩ = some (.string a0_2) := (blk_cell BK199.out 2).trans rfl; have hcz96_3 : w95.cell? ⟨gb199, 3, none⟩ = some (.slice A0_3 l0_3.length c0_3) := (blk_cell BK199.out 3).trans rfl; have hcz96_4 : w95.cell? ⟨gb199, 4, none⟩ = some (.slice A0_4 l0_4.length c0_4) := (blk_cell BK199.out 4).trans rfl; have hfz96_0 := blk_frozen BK199.out 0; have hfz96_1 := blk_frozen BK199.out 1; have hfz96_2 := blk_frozen BK199.out 2; have hfz96_3 := blk_frozen BK199.out 3; have hfz96_4 := blk_frozen BK199.out 4) | ((with_reducible refine gate_callee (f := 10) rfl ?_); refine goesL_ (some 8) rfl rfl Try.func10 (by kernel_rfl) rfl #[.agg #[.int .i64 a0_0, .string a0_1, .string a0_2, .slice A0_3 l0_3.length c0_3, .slice A0_4 l0_4.length c0_4]] rfl (by (try simp only [List.map_toArray, List.map_cons, List.map_nil]); first | done | rfl | (simp only [List.length_drop, List.length_take]; rfl)) ?_; (with_reducible refine (laws_inlineCutTree.calls k a0_0 a0_1 a0_2 _ _ l0_3 _ _ l0_4 t201 t202 t203 t204 t207 _ ?side1 ?side2 ?side3 ?side4 A4.out).mono ?_); (case side1 => repeat (first | exact (Kd.C_below HR0_3.out HB.out) | (with_reducible refine Kd.C_alloc ?_ _) | (with_reducible refine Kd.C_drewN ?_ _) | (with_reducible refine Kd.C_drew ?_))); (case side2 => exact HC0_3.out); (case side3 => repeat (first | exact (Kd.C_below HR0_4.out HB.out) | (with_reducible refine Kd.C_alloc ?_ _) | (with_reducible refine Kd.C_drewN ?_ _) | (with_reducible refine Kd.C_drew ?_))); (case side4 => exact HC0_4.out); rintro e w97 ⟨v205, v208, rfl, ho0, ho1, hb⟩; refine ⟨_, rfl, ?_⟩; have n0_ := Aside0.mk (Kd.R_lower (Kd.R_mono (ok' := fun k_ => True) ho0 (fun _ hk_ => trivial)) (below_size (by repeat (first | (with_reducible first | exact HB.out | apply below_alloc | apply pw_below_drewN | apply below_drew1 | refine below_set ?_ GE199.out) | exact HB.out)))); have n1_ := Aside0.mk (Kd.N_lower (Kd.N_mono (ok' := fun k_ => some k_ ≠ (v205 : Value).ownBlock ∧ k_ ≠ gb199) ho1 (fun k_ hk_ => ⟨hk_.2, (Kd.freshB (g := gb199) (o := .cells #[.int .i64 a0_0, .string a0_1, .string a0_2, .slice A0_3 l0_3.length c0_3, .slice A0_4 l0_4.length c0_4] 25 (0, 0)) (by (with_reducible repeat (first | refine blk_drewN ?_ _ | refine blk_drew ?_ | refine blk_alloc ?_ _)); exact BK199.out) k_ hk_.1)⟩)) (below_size (by repeat (first | (with_reducible first | exact HB.out | apply below_alloc | apply pw_below_drewN | apply below_drew1 | refine below_set ?_ GE199.out) | exact HB.out)))); have n2_ := Aside0.mk (blk_below (g := gb199) (o := .cells #[.int .i64 a0_0, .string a0_1, .string a0_2, .slice A0_3 l0_3.length c0_3, .slice A0_4 l0_4.length c0_4] 25 (0, 0)) (by (with_reducible repeat (first | refine blk_drewN ?_ _ | refine blk_drew ?_ | refine blk_alloc ?_ _)); exact BK199.out) hb); have n3_ := Aside0.mk (below_step (by repeat (first | (with_reducible first | exact HB.out | apply below_alloc | apply pw_below_drewN | apply below_drew1 | refine below_set ?_ GE199.out) | exact HB.out)) hb); clear BK199; clear HB; have HO206 := n0_; have HO209 := n1_; have BK199 := n2_; have HB := n3_; clear n0_ n1_ n2_ n3_; (try clear hb); (try clear hb2); (try clear hk); (try clear hi); (try clear ho0); (try clear ho1); have hcz98_0 : w97.cell? ⟨gb199, 0, none⟩ = some (.int .i64 a0_0) := (blk_cell BK199.out 0).trans rfl; have hcz98_1 : w97.cell? ⟨gb199, 1, none⟩ = some (.string a0_1) := (blk_cell BK199.out 1).trans rfl; have hcz98_2 : w97.cell? ⟨gb199, 2, none⟩ = some (.string a0_2) := (blk_cell BK199.out 2).trans rfl; have hcz98_3 : w97.cell? ⟨gb199, 3, none⟩ = some (.slice A0_3 l0_3.length c0_3) := (blk_cell BK199.out 3).trans rfl; have hcz98_4 : w97.cell? ⟨gb199, 4, none⟩ = some (.slice A0_4 l0_4.length c0_4) := (blk_cell BK199.out 4).trans rfl; have hfz98_0 := blk_frozen BK199.out 0; have hfz98_1 := blk_frozen BK199.out 1; have hfz98_2 := blk_frozen BK199.out 2; have hfz98_3 := blk_frozen BK199.out 3; have hfz98_4 := blk_frozen BK199.out 4; obtain ⟨Ao99, co99, eo99⟩ := Kd.R_slice HO206.out; subst eo99; obtain ⟨Ao100, co100, eo100⟩ := Kd.N_slice HO209.out; subst eo100) | ((with_reducible refine gate_callee (f := 16) rfl ?_); refine goesL_ (some 10) rfl rfl Try.func16 (by kernel_rfl) rfl #[.agg #[.int .i64 t201, .string t202, .string t203, .slice Ao99 t204.length co99, .slice Ao100 t207.length co100]] rfl (by (try simp only [List.map_toArray, List.map_cons, List.map_nil]); first | done | rfl | (simp only [List.length_drop, List.length_take]; rfl)) ?_; (with_reducible refine (impl_EmptyCode.calls k t201 t202 t203 _ _ t204 _ _ t207 t210 t211 t212 t213 t216 _ ?side1 ?side2 ?side3 ?side4 A5.out).mono ?_); (case side1 => refine (Kd.R_reads' (e := 53) (base := w.heap.size) (ok := fun k_ => True) (n := t204.length) (c := co99) ?_).2.2; exact (by (with_reducible repeat (first | apply Kd.R_alloc | apply Kd.R_drewN | apply Kd.R_drew)); exact (Kd.R_mono (Kd.R_far (p := ⟨gb199, 4, none⟩) (Kd.R_far (p := ⟨gb199, 3, none⟩) (Kd.R_far (p := ⟨gb199, 2, none⟩) (Kd.R_far (p := ⟨gb199, 1, none⟩) (Kd.R_far (p := ⟨gb199, 0, none⟩) (Kd.R_types HO206.out BK199.out (by decide)) (fun _ hk => hk.2) (.int .i64 t201)) (fun _ hk => hk.2) (.string t202)) (fun _ hk => hk.2) (.string t203)) (fun _ hk => hk.2) (.slice Ao99 t204.length co99)) (fun _ hk => hk.2) (.slice Ao100 t207.length co100)) (fun _ h_ => h_.1)))); (case side2 => exact (Kd.R_reads' HO206.out).2.1); (case side3 => refine (Kd.N_reads' (e := 25) (base := w.heap.size) (ok := fun k_ => (some k_ ≠ (.slice Ao99 t204.length co99 : Value).ownBlock ∧ k_ ≠ gb199)) (n := t207.length) (c := co100) ?_).2.2; exact (by (with_reducible repeat (first | apply Kd.N_alloc | apply Kd.N_drewN | apply Kd.N_drew)); exact (Kd.N_mono (Kd.N_far (p := ⟨gb199, 4, none⟩) (Kd.N_far (p := ⟨gb199, 3, none⟩) (Kd.N_far (p := ⟨gb199, 2, none⟩) (Kd.N_far (p := ⟨gb199, 1, none⟩) (Kd.N_far (p := ⟨gb199, 0, none⟩) (Kd.N_mono HO209.out (fun k_ hk => (⟨hk, hk.2⟩ : _ ∧ k_ ≠ gb199))) (fun _ hk => hk.2) (.int .i64 t201)) (fun _ hk => hk.2) (.string t202)) (fun _ hk => hk.2) (.string t203)) (fun _ hk => hk.2) (.slice Ao99 t204.length co99)) (fun _ hk => hk.2) (.slice Ao100 t207.length co100)) (fun _ h_ => h_.1)))); (case side4 => exact (Kd.N_reads' HO209.out).2.1); rintro e w101 ⟨v214, v217, rfl, ho0, ho1, hb⟩; refine ⟨_, rfl, ?_⟩; have n0_ := Aside0.mk (Kd.R_elder' (by (with_reducible repeat (first | apply Kd.R_alloc | apply Kd.R_drewN | apply Kd.R_drew)); exact (Kd.R_mono (Kd.R_far (p := ⟨gb199, 4, none⟩) (Kd.R_far (p := ⟨gb199, 3, none⟩) (Kd.R_far (p := ⟨gb199, 2, none⟩) (Kd.R_far (p := ⟨gb199, 1, none⟩) (Kd.R_far (p := ⟨gb199, 0, none⟩) (Kd.R_types HO206.out BK199.out (by decide)) (fun _ hk => hk.2) (.int .i64 t201)) (fun _ hk => hk.2) (.string t202)) (fun _ hk => hk.2) (.string t203)) (fun _ hk => hk.2) (.slice Ao99 t204.length co99)) (fun _ hk => hk.2) (.slice Ao100 t207.length co100)) (fun _ h_ => h_.1))) (Kd.R_base ho0) hb); have n1_ := Aside0.mk (Kd.N_mono (Kd.N_told (Kd.N_told (Kd.N_old (by (with_reducible repeat (first | apply Kd.N_alloc | apply Kd.N_drewN | apply Kd.N_drew)); exact (Kd.N_mono (Kd.N_far (p := ⟨gb199, 4, none⟩) (Kd.N_far (p := ⟨gb199, 3, none⟩) (Kd.N_far (p := ⟨gb199, 2, none⟩) (Kd.N_far (p := ⟨gb199, 1, none⟩) (Kd.N_far (p := ⟨gb199, 0, none⟩) (Kd.N_mono HO209.out (fun k_ hk => (⟨hk, hk.2⟩ : _ ∧ k_ ≠ gb199))) (fun _ hk => hk.2) (.int .i64 t201)) (fun _ hk => hk.2) (.string t202)) (fun _ hk => hk.2) (.string t203)) (fun _ hk => hk.2) (.slice Ao99 t204.length co99)) (fun _ hk => hk.2) (.slice Ao100 t207.length co100)) (fun _ h_ => h_.1))) hb) (Kd.R_base ho0)) (Kd.N_base ho1)) (fun _ h_ => h_.1)); have n2_ := Aside0.mk (Kd.R_lower (Kd.R_new' (Kd.R_mono (ok' := fun k_ => True) ho0 (fun _ hk_ => trivial)) (Kd.R_lt (by (with_reducible repeat (first | apply Kd.R_alloc | apply Kd.R_drewN | apply Kd.R_drew)); exact (Kd.R_mono (Kd.R_far (p := ⟨gb199, 4, none⟩) (Kd.R_far (p := ⟨gb199, 3, none⟩) (Kd.R_far (p := ⟨gb199, 2, none⟩) (Kd.R_far (p := ⟨gb199, 1, none⟩) (Kd.R_far (p := ⟨gb199, 0, none⟩) (Kd.R_types HO206.out BK199.out (by decide)) (fun _ hk => hk.2) (.int .i64 t201)) (fun _ hk => hk.2) (.string t202)) (fun _ hk => hk.2) (.string t203)) (fun _ hk => hk.2) (.slice Ao99 t204.length co99)) (fun _ hk => hk.2) (.slice Ao100 t207.length co100)) (fun _ h_ => h_.1))))) (below_size (by repeat (first | (with_reducible first | exact HB.out | apply below_alloc | apply pw_below_drewN | apply below_drew1 | refine below_set ?_ GE199.out) | exact HB.out)))); have n3_ := Aside0.mk (Kd.N_lower (Kd.N_mono (ok' := fun k_ => some k_ ≠ (v214 : Value).ownBlock ∧ some k_ ≠ (.slice Ao99 t204.length co99 : Value).ownBlock ∧ some k_ ≠ (.slice Ao100 t207.length co100 : Value).ownBlock ∧ k_ ≠ gb199) ho1 (fun k_ hk_ => ⟨hk_.2, (Kd.fresh' (Kd.R_lt (by (with_reducible repeat (first | apply Kd.R_alloc | apply Kd.R_drewN | apply Kd.R_drew)); exact (Kd.R_mono (Kd.R_far (p := ⟨gb199, 4, none⟩) (Kd.R_far (p := ⟨gb199, 3, none⟩) (Kd.R_far (p := ⟨gb199, 2, none⟩) (Kd.R_far (p := ⟨gb199, 1, none⟩) (Kd.R_far (p := ⟨gb199, 0, none⟩) (Kd.R_types HO206.out BK199.out (by decide)) (fun _ hk => hk.2) (.int .i64 t201)) (fun _ hk => hk.2) (.string t202)) (fun _ hk => hk.2) (.string t203)) (fun _ hk => hk.2) (.slice Ao99 t204.length co99)) (fun _ hk => hk.2) (.slice Ao100 t207.length co100)) (fun _ h_ => h_.1)))) k_ hk_.1), (Kd.fresh' (Kd.N_lt (by (with_reducible repeat (first | apply Kd.N_alloc | apply Kd.N_drewN | apply Kd.N_drew)); exact (Kd.N_mono (Kd.N_far (p := ⟨gb199, 4, none⟩) (Kd.N_far (p := ⟨gb199, 3, none⟩) (Kd.N_far (p := ⟨gb199, 2, none⟩) (Kd.N_far (p := ⟨gb199, 1, none⟩) (Kd.N_far (p := ⟨gb199, 0, none⟩) (Kd.N_mono HO209.out (fun k_ hk => (⟨hk, hk.2⟩ : _ ∧ k_ ≠ gb199))) (fun _ hk => hk.2) (.int .i64 t201)) (fun _ hk => hk.2) (.string t202)) (fun _ hk => hk.2) (.string t203)) (fun _ hk => hk.2) (.slice Ao99 t204.length co99)) (fun _ hk => hk.2) (.slice Ao100 t207.length co100)) (fun _ h_ => h_.1)))) k_ hk_.1), (Kd.freshB (g := gb199) (o := .cells #[.int .i64 t201, .string t202, .string t203, .slice Ao99 t204.length co99, .slice Ao100 t207.length co100] 25 (0, 0)) (by (with_reducible repeat (first | refine blk_drewN ?_ _ | refine blk_drew ?_ | refine blk_alloc ?_ _)); refine blk_put (cs := #[.int .i64 t201, .string t202, .string t203, .slice Ao99 t204.length co99, .slice A0_4 l0_4.length c0_4]) ?_ 4 _ rfl; (with_reducible repeat (first | refine blk_drewN ?_ _ | refine blk_drew ?_ | refine blk_alloc ?_ _)); refine blk_put (cs := #[.int .i64 t201, .string t202, .string t203, .slice A0_3 l0_3.length c0_3, .slice A0_4 l0_4.length c0_4]) ?_ 3 _ rfl; (with_reducible repeat (first | refine blk_drewN ?_ _ | refine blk_drew ?_ | refine blk_alloc ?_ _)); refine blk_put (cs := #[.int .i64 t201, .string t202, .string a0_2, .slice A0_3 l0_3.length c0_3, .slice A0_4 l0_4.length c0_4]) ?_ 2 _ rfl; (with_reducible repeat (first | refine blk_drewN ?_ _ | refine blk_drew ?_ | refine blk_alloc ?_ _)); refine blk_put (cs := #[.int .i64 t201, .string a0_1, .string a0_2, .slice A0_3 l0_3.length c0_3, .slice A0_4 l0_4.length c0_4]) ?_ 1 _ rfl; (with_reducible repeat (first | refine blk_drewN ?_ _ | refine blk_drew ?_ | refine blk_alloc ?_ _)); refine blk_put (cs := #[.int .i64 a0_0, .string a0_1, .string a0_2, .slice A0_3 l0_3.length c0_3, .slice A0_4 l0_4.length c0_4]) ?_ 0 _ rfl; (with_reducible repeat (first | refine blk_drewN ?_ _ | refine blk_drew ?_ | refine blk_alloc ?_ _)); exact BK199.out) k_ hk_.1)⟩)) (below_size (by repeat (first | (with_reducible first | exact HB.out | apply below_alloc | apply pw_below_drewN | apply below_drew1 | refine below_set ?_ GE199.out) | exact HB.out)))); have n4_ := Aside0.mk (blk_below (g := gb199) (o := .cells #[.int .i64 t201, .string t202, .string t203, .slice Ao99 t204.length co99, .slice Ao100 t207.length co100] 25 (0, 0)) (by (with_reducible repeat (first | refine blk_drewN ?_ _ | refine blk_drew ?_ | refine blk_alloc ?_ _)); refine blk_put (cs := #[.int .i64 t201, .string t202, .string t203, .slice Ao99 t204.length co99, .slice A0_4 l0_4.length c0_4]) ?_ 4 _ rfl; (with_reducible repeat (first | refine blk_drewN ?_ _ | refine blk_drew ?_ | refine blk_alloc ?_ _)); refine blk_put (cs := #[.int .i64 t201, .string t202, .string t203, .slice A0_3 l0_3.length c0_3, .slice A0_4 l0_4.length c0_4]) ?_ 3 _ rfl; (with_reducible repeat (first | refine blk_drewN ?_ _ | refine blk_drew ?_ | refine blk_alloc ?_ _)); refine blk_put (cs := #[.int .i64 t201, .string t202, .string a0_2, .slice A0_3 l0_3.length c0_3, .slice A0_4 l0_4.length c0_4]) ?_ 2 _ rfl; (with_reducible repeat (first | refine blk_drewN ?_ _ | refine blk_drew ?_ | refine blk_alloc ?_ _)); refine blk_put (cs := #[.int .i64 t201, .string a0_1, .string a0_2, .slice A0_3 l0_3.length c0_3, .slice A0_4 l0_4.length c0_4]) ?_ 1 _ rfl; (with_reducible repeat (first | refine blk_drewN ?_ _ | refine blk_drew ?_ | refine blk_alloc ?_ _)); refine blk_put (cs := #[.int .i64 a0_0, .string a0_1, .string a0_2, .slice A0_3 l0_3.length c0_3, .slice A0_4 l0_4.length c0_4]) ?_ 0 _ rfl; (with_reducible repeat (first | refine blk_drewN ?_ _ | refine blk_drew ?_ | refine blk_alloc ?_ _)); exact BK199.out) hb); have n5_ := Aside0.mk (below_step (by repeat (first | (with_reducible first | exact HB.out | apply below_alloc | apply pw_below_drewN | apply below_drew1 | refine below_set ?_ GE199.out) | exact HB.out)) hb); clear HO206; clear HO209; clear BK199; clear HB; have HO206 := n0_; have HO209 := n1_; have HO215 := n2_; have HO218 := n3_; have BK199 := n4_; have HB := n5_; clear n0_ n1_ n2_ n3_ n4_ n5_; (try clear hb); (try clear hb2); (try clear hk); (try clear hi); (try clear ho0); (try clear ho1)) | ((with_reducible refine gate_dst (N := 3) rfl ?_); (try (refine gate_guard (by rfl) ?_; dsimp only)); refine box_event ?hg (N := 3) ?hd (cs := #[.int .i64 0, .string (⟨#[]⟩ : ByteArray), .string (⟨#[]⟩ : ByteArray), .slice none 0 0, .slice none 0 0]) (t := 25) ?hr ?_; (case hd => rfl); (case hg => rfl); (case hr => first | (go_simp; done) | (go_simp; rfl)); intro gb219 hg w102 hbox hb; have n0_ := Aside0.mk (Kd.R_below (by (with_reducible repeat (first | apply Kd.R_alloc | apply Kd.R_drewN | apply Kd.R_drew)); exact HO206.out) hb); have n1_ := Aside0.mk (Kd.N_below (Kd.N_elderB (by (with_reducible repeat (first | apply Kd.N_alloc | apply Kd.N_drewN | apply Kd.N_drew)); exact HO209.out) gb219 (Nat.le_of_eq hg.symm)) hb); have n2_ := Aside0.mk (Kd.R_below (by (with_reducible repeat (first | apply Kd.R_alloc | apply Kd.R_drewN | apply Kd.R_drew)); exact HO215.out) hb); have n3_ := Aside0.mk (Kd.N_below (Kd.N_elderB (by (with_reducible repeat (first | apply Kd.N_alloc | apply Kd.N_drewN | apply Kd.N_drew)); exact HO218.out) gb219 (Nat.le_of_eq hg.symm)) hb); have n4_ := Aside0.mk (blk_below (g := gb199) (o := .cells #[.int .i64 t201, .string t202, .string t203, .slice Ao99 t204.length co99, .slice Ao100 t207.length co100] 25 (0, 0)) (by (with_reducible repeat (first | refine blk_drewN ?_ _ | refine blk_drew ?_ | refine blk_alloc ?_ _)); exact BK199.out) hb); have n5_ := Aside0.mk (below_step (by repeat (first | (with_reducible first | exact HB.out | apply below_alloc | apply pw_below_drewN | apply below_drew1 | refine below_set ?_ GE199.out) | exact HB.out)) hb); have n6_ := Aside0.mk (hbox); have n7_ := Aside0.mk ((by rw [hg]; exact (below_size (by repeat (first | (with_reducible first | exact HB.out | apply below_alloc | apply pw_below_drewN | apply below_drew1 | refine below_set ?_ GE199.out) | exact HB.out))) : w.heap.size ≤ gb219)); have n8_ := Aside0.mk ((by rw [hg]; exact (below_size (by repeat (first | (with_reducible first | exact HB.out | apply below_alloc | apply pw_below_drewN | apply below_drew1 | refine below_set ?_ GE199.out) | exact HB.out))) : w.heap.size ≤ gb219)); have n9_ := Aside0.mk ((by rw [hg]; exact Nat.ne_of_lt (blk_lt (g := gb199) (o := .cells #[.int .i64 t201, .string t202, .string t203, .slice Ao99 t204.length co99, .slice Ao100 t207.length co100] 25 (0, 0)) (by (with_reducible repeat (first | refine blk_drewN ?_ _ | refine blk_drew ?_ | refine blk_alloc ?_ _)); exact BK199.out)) : gb199 ≠ gb219)); have n10_ := Aside0.mk ((by rw [hg]; exact Nat.ne_of_gt (blk_lt (g := gb199) (o := .cells #[.int .i64 t201, .string t202, .string t203, .slice Ao99 t204.length co99, .slice Ao100 t207.length co100] 25 (0, 0)) (by (with_reducible repeat (first | refine blk_drewN ?_ _ | refine blk_drew ?_ | refine blk_alloc ?_ _)); exact BK199.out)) : gb219 ≠ gb199)); clear HO206; clear HO209; clear HO215; clear HO218; clear BK199; clear HB; have HO206 := n0_; have HO209 := n1_; have HO215 := n2_; have HO218 := n3_; have BK199 := n4_; have HB := n5_; have BK219 := n6_; have GW219 := n7_; have GE219 := n8_; have NB199_219 := n9_; have NB219_199 := n10_; clear n0_ n1_ n2_ n3_ n4_ n5_ n6_ n7_ n8_ n9_ n10_; clear hb hbox hg; have hnb103 := NB219_199.out; have hnc103 := NB199_219.out; have hcz104_0 : w102.cell? ⟨gb219, 0, none⟩ = some (.int .i64 0) := (blk_cell BK219.out 0).trans rfl; have hcz104_1 : w102.cell? ⟨gb219, 1, none⟩ = some (.string (⟨#[]⟩ : ByteArray)) := (blk_cell BK219.out 1).trans rfl; have hcz104_2 : w102.cell? ⟨gb219, 2, none⟩ = some (.string (⟨#[]⟩ : ByteArray)) := (blk_cell BK219.out 2).trans rfl; have hcz104_3 : w102.cell? ⟨gb219, 3, none⟩ = some (.slice none 0 0) := (blk_cell BK219.out 3).trans rfl; have hcz104_4 : w102.cell? ⟨gb219, 4, none⟩ = some (.slice none 0 0) := (blk_cell BK219.out 4).trans rfl; have hfz104_0 := blk_frozen BK219.out 0; have hfz104_1 := blk_frozen BK219.out 1; have hfz104_2 := blk_frozen BK219.out 2; have hfz104_3 := blk_frozen BK219.out 3; have hfz104_4 := blk_frozen BK219.out 4; obtain ⟨Ao105, co105, eo105⟩ := Kd.R_slice HO215.out; subst eo105; obtain ⟨Ao106, co106, eo106⟩ := Kd.N_slice HO218.out; subst eo106))
      have n0_ : Aside0 (Kd.R k53 53 (((((w102.setCell ⟨gb219, 0, none⟩ (.int .i64 t210)).setCell ⟨gb219, 1, none⟩ (.string t211)).setCell ⟨gb219, 2, none⟩ (.string t212)).setCell ⟨gb219, 3, none⟩ (.slice Ao105 t213.length co105)).setCell ⟨gb219, 4, none⟩ (.slice Ao106 t216.length co106)) w.heap.size (fun k_ => some k_ ≠ (.slice Ao105 t213.length co105 : Value).ownBlock) (.slice Ao99 t204.length co99) t204) := ⟨by (with_reducible repeat (first | apply Kd.R_alloc | apply Kd.R_drewN | apply Kd.R_drew)); exact Kd.R_mono (Kd.R_far (p := ⟨gb219, 4, none⟩) (Kd.R_far (p := ⟨gb219, 3, none⟩) (Kd.R_far (p := ⟨gb219, 2, none⟩) (Kd.R_far (p := ⟨gb219, 1, none⟩) (Kd.R_far (p := ⟨gb219, 0, none⟩) (Kd.R_types HO206.out BK219.out (by decide)) (fun _ hk => hk.2) (.int .i64 t210)) (fun _ hk => hk.2) (.string t211)) (fun _ hk => hk.2) (.string t212)) (fun _ hk => hk.2) (.slice Ao105 t213.length co105)) (fun _ hk => hk.2) (.slice Ao106 t216.length co106)) (fun _ hk => hk.1.2)⟩
      have n1_ : Aside0 (Kd.N k25 25 (((((w102.setCell ⟨gb219, 0, none⟩ (.int .i64 t210)).setCell ⟨gb219, 1, none⟩ (.string t211)).setCell ⟨gb219, 2, none⟩ (.string t212)).setCell ⟨gb219, 3, none⟩ (.slice Ao105 t213.length co105)).setCell ⟨gb219, 4, none⟩ (.slice Ao106 t216.length co106)) w.heap.size (fun k_ => some k_ ≠ (.slice Ao99 t204.length co99 : Value).ownBlock ∧ some k_ ≠ (.slice Ao105 t213.length co105 : Value).ownBlock ∧ some k_ ≠ (.slice Ao106 t216.length co106 : Value).ownBlock ∧ k_ ≠ gb199 ∧ k_ ≠ gb219) (.slice Ao100 t207.length co100) t207) := ⟨by (with_reducible repeat (first | apply Kd.N_alloc | apply Kd.N_drewN | apply Kd.N_drew)); exact Kd.N_mono (Kd.N_far (p := ⟨gb219, 4, none⟩) (Kd.N_far (p := ⟨gb219, 3, none⟩) (Kd.N_far (p := ⟨gb219, 2, none⟩) (Kd.N_far (p := ⟨gb219, 1, none⟩) (Kd.N_far (p := ⟨gb219, 0, none⟩) (Kd.N_mono HO209.out (fun k_ hk => (⟨hk, hk.2⟩ : _ ∧ k_ ≠ gb219))) (fun _ hk => hk.2) (.int .i64 t210)) (fun _ hk => hk.2) (.string t211)) (fun _ hk => hk.2) (.string t212)) (fun _ hk => hk.2) (.slice Ao105 t213.length co105)) (fun _ hk => hk.2) (.slice Ao106 t216.length co106)) (fun _ hk => ⟨hk.1.1.1.1.1, ⟨hk.1.1.1.2, ⟨hk.1.1.2, ⟨hk.1.1.1.1.2, hk.1.2⟩⟩⟩⟩)⟩
      have n2_ : Aside0 (Kd.R k53 53 (((((w102.setCell ⟨gb219, 0, none⟩ (.int .i64 t210)).setCell ⟨gb219, 1, none⟩ (.string t211)).setCell ⟨gb219, 2, none⟩ (.string t212)).setCell ⟨gb219, 3, none⟩ (.slice Ao105 t213.length co105)).setCell ⟨gb219, 4, none⟩ (.slice Ao106 t216.length co106)) w.heap.size (fun k_ => some k_ ≠ (.slice Ao99 t204.length co99 : Value).ownBlock) (.slice Ao105 t213.length co105) t213) := ⟨by (with_reducible repeat (first | apply Kd.R_alloc | apply Kd.R_drewN | apply Kd.R_drew)); exact Kd.R_mono (Kd.R_far (p := ⟨gb219, 4, none⟩) (Kd.R_far (p := ⟨gb219, 3, none⟩) (Kd.R_far (p := ⟨gb219, 2, none⟩) (Kd.R_far (p := ⟨gb219, 1, none⟩) (Kd.R_far (p := ⟨gb219, 0, none⟩) (Kd.R_types HO215.out BK219.out (by decide)) (fun _ hk => hk.2) (.int .i64 t210)) (fun _ hk => hk.2) (.string t211)) (fun _ hk => hk.2) (.string t212)) (fun _ hk => hk.2) (.slice Ao105 t213.length co105)) (fun _ hk => hk.2) (.slice Ao106 t216.length co106)) (fun _ hk => hk.1.2)⟩
      have n3_ : Aside0 (Kd.N k25 25 (((((w102.setCell ⟨gb219, 0, none⟩ (.int .i64 t210)).setCell ⟨gb219, 1, none⟩ (.string t211)).setCell ⟨gb219, 2, none⟩ (.string t212)).setCell ⟨gb219, 3, none⟩ (.slice Ao105 t213.length co105)).setCell ⟨gb219, 4, none⟩ (.slice Ao106 t216.length co106)) w.heap.size (fun k_ => some k_ ≠ (.slice Ao99 t204.length co99 : Value).ownBlock ∧ some k_ ≠ (.slice Ao100 t207.length co100 : Value).ownBlock ∧ some k_ ≠ (.slice Ao105 t213.length co105 : Value).ownBlock ∧ k_ ≠ gb199 ∧ k_ ≠ gb219) (.slice Ao106 t216.length co106) t216) := ⟨by (with_reducible repeat (first | apply Kd.N_alloc | apply Kd.N_drewN | apply Kd.N_drew)); exact Kd.N_mono (Kd.N_far (p := ⟨gb219, 4, none⟩) (Kd.N_far (p := ⟨gb219, 3, none⟩) (Kd.N_far (p := ⟨gb219, 2, none⟩) (Kd.N_far (p := ⟨gb219, 1, none⟩) (Kd.N_far (p := ⟨gb219, 0, none⟩) (Kd.N_mono HO218.out (fun k_ hk => (⟨hk, hk.2⟩ : _ ∧ k_ ≠ gb219))) (fun _ hk => hk.2) (.int .i64 t210)) (fun _ hk => hk.2) (.string t211)) (fun _ hk => hk.2) (.string t212)) (fun _ hk => hk.2) (.slice Ao105 t213.length co105)) (fun _ hk => hk.2) (.slice Ao106 t216.length co106)) (fun _ hk => ⟨hk.1.1.2.1, ⟨hk.1.1.2.2.1, ⟨hk.1.1.1, ⟨hk.1.1.2.2.2, hk.1.2⟩⟩⟩⟩)⟩
      have n4_ : Aside0 ((((((w102.setCell ⟨gb219, 0, none⟩ (.int .i64 t210)).setCell ⟨gb219, 1, none⟩ (.string t211)).setCell ⟨gb219, 2, none⟩ (.string t212)).setCell ⟨gb219, 3, none⟩ (.slice Ao105 t213.length co105)).setCell ⟨gb219, 4, none⟩ (.slice Ao106 t216.length co106)).heap[gb199]? = some (.cells #[.int .i64 t201, .string t202, .string t203, .slice Ao99 t204.length co99, .slice Ao100 t207.length co100] 25 (0, 0))) := ⟨by (with_reducible repeat (first | refine blk_drewN ?_ _ | refine blk_drew ?_ | refine blk_alloc ?_ _)); refine blk_far ?_ NB199_219.out _; (with_reducible repeat (first | refine blk_drewN ?_ _ | refine blk_drew ?_ | refine blk_alloc ?_ _)); refine blk_far ?_ NB199_219.out _; (with_reducible repeat (first | refine blk_drewN ?_ _ | refine blk_drew ?_ | refine blk_alloc ?_ _)); refine blk_far ?_ NB199_219.out _; (with_reducible repeat (first | refine blk_drewN ?_ _ | refine blk_drew ?_ | refine blk_alloc ?_ _)); refine blk_far ?_ NB199_219.out _; (with_reducible repeat (first | refine blk_drewN ?_ _ | refine blk_drew ?_ | refine blk_alloc ?_ _)); refine blk_far ?_ NB199_219.out _; (with_reducible repeat (first | refine blk_drewN ?_ _ | refine blk_drew ?_ | refine blk_alloc ?_ _)); exact BK199.out⟩
      have n5_ : Aside0 ((((((w102.setCell ⟨gb219, 0, none⟩ (.int .i64 t210)).setCell ⟨gb219, 1, none⟩ (.string t211)).setCell ⟨gb219, 2, none⟩ (.string t212)).setCell ⟨gb219, 3, none⟩ (.slice Ao105 t213.length co105)).setCell ⟨gb219, 4, none⟩ (.slice Ao106 t216.length co106)).heap[gb219]? = some (.cells #[.int .i64 t210, .string t211, .string t212, .slice Ao105 t213.length co105, .slice Ao106 t216.length co106] 25 (0, 0))) := ⟨by (with_reducible repeat (first | refine blk_drewN ?_ _ | refine blk_drew ?_ | refine blk_alloc ?_ _)); refine blk_put (cs := #[.int .i64 t210, .string t211, .string t212, .slice Ao105 t213.length co105, .slice none 0 0]) ?_ 4 _ rfl; (with_reducible repeat (first | refine blk_drewN ?_ _ | refine blk_drew ?_ | refine blk_alloc ?_ _)); refine blk_put (cs := #[.int .i64 t210, .string t211, .string t212, .slice none 0 0, .slice none 0 0]) ?_ 3 _ rfl; (with_reducible repeat (first | refine blk_drewN ?_ _ | refine blk_drew ?_ | refine blk_alloc ?_ _)); refine blk_put (cs := #[.int .i64 t210, .string t211, .string (⟨#[]⟩ : ByteArray), .slice none 0 0, .slice none 0 0]) ?_ 2 _ rfl; (with_reducible repeat (first | refine blk_drewN ?_ _ | refine blk_drew ?_ | refine blk_alloc ?_ _)); refine blk_put (cs := #[.int .i64 t210, .string (⟨#[]⟩ : ByteArray), .string (⟨#[]⟩ : ByteArray), .slice none 0 0, .slice none 0 0]) ?_ 1 _ rfl; (with_reducible repeat (first | refine blk_drewN ?_ _ | refine blk_drew ?_ | refine blk_alloc ?_ _)); refine blk_put (cs := #[.int .i64 0, .string (⟨#[]⟩ : ByteArray), .string (⟨#[]⟩ : ByteArray), .slice none 0 0, .slice none 0 0]) ?_ 0 _ rfl; (with_reducible repeat (first | refine blk_drewN ?_ _ | refine blk_drew ?_ | refine blk_alloc ?_ _)); exact BK219.out⟩
      have n6_ : Aside0 (Below w.heap.size w (((((w102.setCell ⟨gb219, 0, none⟩ (.int .i64 t210)).setCell ⟨gb219, 1, none⟩ (.string t211)).setCell ⟨gb219, 2, none⟩ (.string t212)).setCell ⟨gb219, 3, none⟩ (.slice Ao105 t213.length co105)).setCell ⟨gb219, 4, none⟩ (.slice Ao106 t216.length co106))) := ⟨by repeat (first | (with_reducible first | exact HB.out | apply below_alloc | apply pw_below_drewN | apply below_drew1 | refine below_set ?_ GE199.out | refine below_set ?_ GE219.out) | exact HB.out)⟩
      (try clear HO206)
      (try clear HO209)
      (try clear HO215)
      (try clear HO218)
      (try clear BK199)
      (try clear BK219)
      (try clear HB)
      generalize (((((w102.setCell ⟨gb219, 0, none⟩ (.int .i64 t210)).setCell ⟨gb219, 1, none⟩ (.string t211)).setCell ⟨gb219, 2, none⟩ (.string t212)).setCell ⟨gb219, 3, none⟩ (.slice Ao105 t213.length co105)).setCell ⟨gb219, 4, none⟩ (.slice Ao106 t216.length co106)) = w107 at n0_ n1_ n2_ n3_ n4_ n5_ n6_ ⊢
      have HO206 := n0_
      have HO209 := n1_
      have HO215 := n2_
      have HO218 := n3_
      have BK199 := n4_
      have BK219 := n5_
      have HB := n6_
      clear n0_ n1_ n2_ n3_ n4_ n5_ n6_
      have n0_ := Aside0.mk (Kd.R_drew HO206.out)
      have n1_ := Aside0.mk (Kd.N_drew HO209.out)
      have n2_ := Aside0.mk (Kd.R_drew HO215.out)
      have n3_ := Aside0.mk (Kd.N_drew HO218.out)
      have n4_ := Aside0.mk (blk_drew BK199.out)
      have n5_ := Aside0.mk (blk_drew BK219.out)
      have n6_ := Aside0.mk (below_drew1 HB.out)
      clear HO206
      clear HO209
      clear HO215
      clear HO218
      clear BK199
      clear BK219
      clear HB
      have HO206 := n0_
      have HO209 := n1_
      have HO215 := n2_
      have HO218 := n3_
      have BK199 := n4_
      have BK219 := n5_
      have HB := n6_
      clear n0_ n1_ n2_ n3_ n4_ n5_ n6_
      refine start_ (n := 21) (S := fun w' => w'.cell? ⟨gb219, 0, none⟩ = some (.int .i64 t210) ∧ w'.cell? ⟨gb219, 1, none⟩ = some (.string t211) ∧ w'.cell? ⟨gb219, 2, none⟩ = some (.string t212) ∧ w'.cell? ⟨gb219, 3, none⟩ = some (.slice Ao105 t213.length co105) ∧ w'.cell? ⟨gb219, 4, none⟩ = some (.slice Ao106 t216.length co106) ∧ w'.cell? ⟨gb199, 0, none⟩ = some (.int .i64 t201) ∧ w'.cell? ⟨gb199, 1, none⟩ = some (.string t202) ∧ w'.cell? ⟨gb199, 2, none⟩ = some (.string t203) ∧ w'.cell? ⟨gb199, 3, none⟩ = some (.slice Ao99 t204.length co99) ∧ w'.cell? ⟨gb199, 4, none⟩ = some (.slice Ao100 t207.length co100)) (ds := []) #[false, false, false, false, false, false, false, false, false, false, false, false, false, false, false, false, false, false, false, false, false] (by kernel_rfl) rfl rfl ⟨(blk_cell BK219.out 0).trans rfl, (blk_cell BK219.out 1).trans rfl, (blk_cell BK219.out 2).trans rfl, (blk_cell BK219.out 3).trans rfl, (blk_cell BK219.out 4).trans rfl, (blk_cell BK199.out 0).trans rfl, (blk_cell BK199.out 1).trans rfl, (blk_cell BK199.out 2).trans rfl, (blk_cell BK199.out 3).trans rfl, (blk_cell BK199.out 4).trans rfl⟩ (fun hHeld => ?_); refine with_tabW laws_FnEmptyCode.tab5 laws_FnEmptyCode.bits5 (fun HT_ HW_ => ?_)
      generalize w107.drew = w108 at HO206 HO209 HO215 HO218 BK199 BK219 HB hHeld ⊢
      refine take_ (i := 0) (N := some 11) (v := ?_) (a' := ?_) #[true, false, false, false, false, false, false, false, false, false, false, false, false, false, false, false, false, false, false, false, false] rfl rfl (take_ofW HT_.out HW_.out (by kernel_rfl)) (fun _ _ _ h => h) (Or.inl ⟨by rfl, ?_⟩) hHeld ?_ ?_
      rotate_left
      · rintro w' ⟨s0, s1, s2, s3, s4, s5, s6, s7, s8, s9⟩
        go_simp
        with_reducible rfl
      rotate_left
      · simp only [Act.put, List.setIfInBounds_toArray, List.set_cons_zero, List.set_cons_succ, i64_w, i32_w]
        rfl
      refine take_ (i := 3) (N := some 14) (v := ?_) (a' := ?_) #[true, false, false, true, false, false, false, false, false, false, false, false, false, false, false, false, false, false, false, false, false] rfl rfl (take_ofW HT_.out HW_.out (by kernel_rfl)) (fun _ _ _ h => h) (Or.inl ⟨by rfl, ?_⟩) hHeld ?_ ?_
      rotate_left
      · rintro w' ⟨s0, s1, s2, s3, s4, s5, s6, s7, s8, s9⟩
        go_simp
        with_reducible rfl
      rotate_left
      · simp only [Act.put, List.setIfInBounds_toArray, List.set_cons_zero, List.set_cons_succ, i64_w, i32_w]
        rfl
      refine one_ (i := 1) (N := some 12) #[true, true, false, true, false, false, false, false, false, false, false, false, false, false, false, false, false, false, false, false, false] rfl rfl (one_of HT_.out (by kernel_rfl)) (by decide) (fun K hK => ?_)
      refine goes_ Try.func13 (by kernel_rfl) rfl #[.agg #[.int .i64 t210, .string t211, .string t212, .slice Ao105 t213.length co105, .slice Ao106 t216.length co106]] (by rfl) rfl rfl (by (try simp only [List.map_toArray, List.map_cons, List.map_nil]); first | done | rfl | (simp only [List.length_drop, List.length_take]; rfl)) ?_
      with_reducible refine (spec_TextOf.calls k t210 t211 t212 _ _ t213 _ _ t216 t220 _ ?side1 ?side2 ?side3 ?side4 A6.out).mono ?_
      (case side1 => repeat (first | exact (Kd.R_reads' HO215.out).2.2 | (with_reducible refine Kd.C_alloc ?_ _) | (with_reducible refine Kd.C_drewN ?_ _) | (with_reducible refine Kd.C_drew ?_)))
      (case side2 => exact (Kd.R_reads' HO215.out).2.1)
      (case side3 => repeat (first | exact (Kd.N_reads' HO218.out).2.2 | (with_reducible refine Kd.C_alloc ?_ _) | (with_reducible refine Kd.C_drewN ?_ _) | (with_reducible refine Kd.C_drew ?_)))
      (case side4 => exact (Kd.N_reads' HO218.out).2.1)
      rintro e w109 ⟨rfl, hb⟩
      refine ⟨_, rfl, ?_⟩
      have n0_ := Aside0.mk (Kd.R_below (by (with_reducible repeat (first | apply Kd.R_alloc | apply Kd.R_drewN | apply Kd.R_drew)); exact HO206.out) hb)
      have n1_ := Aside0.mk (Kd.N_below (by (with_reducible repeat (first | apply Kd.N_alloc | apply Kd.N_drewN | apply Kd.N_drew)); exact HO209.out) hb)
      have n2_ := Aside0.mk (Kd.R_below (by (with_reducible repeat (first | apply Kd.R_alloc | apply Kd.R_drewN | apply Kd.R_drew)); exact HO215.out) hb)
      have n3_ := Aside0.mk (Kd.N_below (by (with_reducible repeat (first | apply Kd.N_alloc | apply Kd.N_drewN | apply Kd.N_drew)); exact HO218.out) hb)
      have n4_ := Aside0.mk (blk_below (g := gb199) (o := .cells #[.int .i64 t201, .string t202, .string t203, .slice Ao99 t204.length co99, .slice Ao100 t207.length co100] 25 (0, 0)) (by (with_reducible repeat (first | refine blk_drewN ?_ _ | refine blk_drew ?_ | refine blk_alloc ?_ _)); exact BK199.out) hb)
      have n5_ := Aside0.mk (blk_below (g := gb219) (o := .cells #[.int .i64 t210, .string t211, .string t212, .slice Ao105 t213.length co105, .slice Ao106 t216.length co106] 25 (0, 0)) (by (with_reducible repeat (first | refine blk_drewN ?_ _ | refine blk_drew ?_ | refine blk_alloc ?_ _)); exact BK219.out) hb)
      have n6_ := Aside0.mk (below_step (by repeat (first | (with_reducible first | exact HB.out | apply below_alloc | apply pw_below_drewN | apply below_drew1 | refine below_set ?_ GE199.out | refine below_set ?_ GE219.out) | exact HB.out)) hb)
      clear HO206
      clear HO209
      clear HO215
      clear HO218
      clear BK199
      clear BK219
      clear HB
      have HO206 := n0_
      have HO209 := n1_
      have HO215 := n2_
      have HO218 := n3_
      have BK199 := n4_
      have BK219 := n5_
      have HB := n6_
      clear n0_ n1_ n2_ n3_ n4_ n5_ n6_
      (try clear hb)
      (try clear hb2)
      (try clear hk)
      (try clear hi)
      refine hK.out _ _ ⟨(blk_cell BK219.out 0).trans rfl, (blk_cell BK219.out 1).trans rfl, (blk_cell BK219.out 2).trans rfl, (blk_cell BK219.out 3).trans rfl, (blk_cell BK219.out 4).trans rfl, (blk_cell BK199.out 0).trans rfl, (blk_cell BK199.out 1).trans rfl, (blk_cell BK199.out 2).trans rfl, (blk_cell BK199.out 3).trans rfl, (blk_cell BK199.out 4).trans rfl⟩ (fun hHeld => ?_)
      clear hK K
      refine norm_ (a' := ?_) ?_ ?_
      rotate_left
      · show Act.put _ (some 12) _ = _
        simp only [Act.put, List.setIfInBounds_toArray, List.set_cons_zero, List.set_cons_succ, i64_w, i32_w]
        rfl
      refine one_ (i := 2) (N := some 13) #[true, true, true, true, false, false, false, false, false, false, false, false, false, false, false, false, false, false, false, false, false] rfl rfl (one_of HT_.out (by kernel_rfl)) (by decide) (fun K hK => ?_)
      refine goes_ Try.func17 (by kernel_rfl) rfl #[.string t220] (by rfl) rfl rfl (by (try simp only [List.map_toArray, List.map_cons, List.map_nil]); first | done | rfl | (simp only [List.length_drop, List.length_take]; rfl)) ?_
      with_reducible refine (spec_Solid.calls k t220 t221 _ A7.out).mono ?_
      rintro e w110 ⟨rfl, hb⟩
      refine ⟨_, rfl, ?_⟩
      have n0_ := Aside0.mk (Kd.R_below (by (with_reducible repeat (first | apply Kd.R_alloc | apply Kd.R_drewN | apply Kd.R_drew)); exact HO206.out) hb)
      have n1_ := Aside0.mk (Kd.N_below (by (with_reducible repeat (first | apply Kd.N_alloc | apply Kd.N_drewN | apply Kd.N_drew)); exact HO209.out) hb)
      have n2_ := Aside0.mk (Kd.R_below (by (with_reducible repeat (first | apply Kd.R_alloc | apply Kd.R_drewN | apply Kd.R_drew)); exact HO215.out) hb)
      have n3_ := Aside0.mk (Kd.N_below (by (with_reducible repeat (first | apply Kd.N_alloc | apply Kd.N_drewN | apply Kd.N_drew)); exact HO218.out) hb)
      have n4_ := Aside0.mk (blk_below (g := gb199) (o := .cells #[.int .i64 t201, .string t202, .string t203, .slice Ao99 t204.length co99, .slice Ao100 t207.length co100] 25 (0, 0)) (by (with_reducible repeat (first | refine blk_drewN ?_ _ | refine blk_drew ?_ | refine blk_alloc ?_ _)); exact BK199.out) hb)
      have n5_ := Aside0.mk (blk_below (g := gb219) (o := .cells #[.int .i64 t210, .string t211, .string t212, .slice Ao105 t213.length co105, .slice Ao106 t216.length co106] 25 (0, 0)) (by (with_reducible repeat (first | refine blk_drewN ?_ _ | refine blk_drew ?_ | refine blk_alloc ?_ _)); exact BK219.out) hb)
      have n6_ := Aside0.mk (below_step (by repeat (first | (with_reducible first | exact HB.out | apply below_alloc | apply pw_below_drewN | apply below_drew1 | refine below_set ?_ GE199.out | refine below_set ?_ GE219.out) | exact HB.out)) hb)
      clear HO206
      clear HO209
      clear HO215
      clear HO218
      clear BK199
      clear BK219
      clear HB
      have HO206 := n0_
      have HO209 := n1_
      have HO215 := n2_
      have HO218 := n3_
      have BK199 := n4_
      have BK219 := n5_
      have HB := n6_
      clear n0_ n1_ n2_ n3_ n4_ n5_ n6_
      (try clear hb)
      (try clear hb2)
      (try clear hk)
      (try clear hi)
      refine hK.out _ _ ⟨(blk_cell BK219.out 0).trans rfl, (blk_cell BK219.out 1).trans rfl, (blk_cell BK219.out 2).trans rfl, (blk_cell BK219.out 3).trans rfl, (blk_cell BK219.out 4).trans rfl, (blk_cell BK199.out 0).trans rfl, (blk_cell BK199.out 1).trans rfl, (blk_cell BK199.out 2).trans rfl, (blk_cell BK199.out 3).trans rfl, (blk_cell BK199.out 4).trans rfl⟩ (fun hHeld => ?_)
      clear hK K
      refine norm_ (a' := ?_) ?_ ?_
      rotate_left
      · show Act.put _ (some 13) _ = _
        simp only [Act.put, List.setIfInBounds_toArray, List.set_cons_zero, List.set_cons_succ, i64_w, i32_w]
        rfl
      refine one_ (i := 4) (N := some 15) #[true, true, true, true, true, false, false, false, false, false, false, false, false, false, false, false, false, false, false, false, false] rfl rfl (one_of HT_.out (by kernel_rfl)) (by decide) (fun K hK => ?_)
      refine goes_ Try.func13 (by kernel_rfl) rfl #[.agg #[.int .i64 t201, .string t202, .string t203, .slice Ao99 t204.length co99, .slice Ao100 t207.length co100]] (by rfl) rfl rfl (by (try simp only [List.map_toArray, List.map_cons, List.map_nil]); first | done | rfl | (simp only [List.length_drop, List.length_take]; rfl)) ?_
      with_reducible refine (spec_TextOf.calls k t201 t202 t203 _ _ t204 _ _ t207 t222 _ ?side1 ?side2 ?side3 ?side4 A8.out).mono ?_
      (case side1 => repeat (first | exact (Kd.R_reads' HO206.out).2.2 | (with_reducible refine Kd.C_alloc ?_ _) | (with_reducible refine Kd.C_drewN ?_ _) | (with_reducible refine Kd.C_drew ?_)))
      (case side2 => exact (Kd.R_reads' HO206.out).2.1)
      (case side3 => repeat (first | exact (Kd.N_reads' HO209.out).2.2 | (with_reducible refine Kd.C_alloc ?_ _) | (with_reducible refine Kd.C_drewN ?_ _) | (with_reducible refine Kd.C_drew ?_)))
      (case side4 => exact (Kd.N_reads' HO209.out).2.1)
      rintro e w111 ⟨rfl, hb⟩
      refine ⟨_, rfl, ?_⟩
      have n0_ := Aside0.mk (Kd.R_below (by (with_reducible repeat (first | apply Kd.R_alloc | apply Kd.R_drewN | apply Kd.R_drew)); exact HO206.out) hb)
      have n1_ := Aside0.mk (Kd.N_below (by (with_reducible repeat (first | apply Kd.N_alloc | apply Kd.N_drewN | apply Kd.N_drew)); exact HO209.out) hb)
      have n2_ := Aside0.mk (Kd.R_below (by (with_reducible repeat (first | apply Kd.R_alloc | apply Kd.R_drewN | apply Kd.R_drew)); exact HO215.out) hb)
      have n3_ := Aside0.mk (Kd.N_below (by (with_reducible repeat (first | apply Kd.N_alloc | apply Kd.N_drewN | apply Kd.N_drew)); exact HO218.out) hb)
      have n4_ := Aside0.mk (blk_below (g := gb199) (o := .cells #[.int .i64 t201, .string t202, .string t203, .slice Ao99 t204.length co99, .slice Ao100 t207.length co100] 25 (0, 0)) (by (with_reducible repeat (first | refine blk_drewN ?_ _ | refine blk_drew ?_ | refine blk_alloc ?_ _)); exact BK199.out) hb)
      have n5_ := Aside0.mk (blk_below (g := gb219) (o := .cells #[.int .i64 t210, .string t211, .string t212, .slice Ao105 t213.length co105, .slice Ao106 t216.length co106] 25 (0, 0)) (by (with_reducible repeat (first | refine blk_drewN ?_ _ | refine blk_drew ?_ | refine blk_alloc ?_ _)); exact BK219.out) hb)
      have n6_ := Aside0.mk (below_step (by repeat (first | (with_reducible first | exact HB.out | apply below_alloc | apply pw_below_drewN | apply below_drew1 | refine below_set ?_ GE199.out | refine below_set ?_ GE219.out) | exact HB.out)) hb)
      clear HO206
      clear HO209
      clear HO215
      clear HO218
      clear BK199
      clear BK219
      clear HB
      have HO206 := n0_
      have HO209 := n1_
      have HO215 := n2_
      have HO218 := n3_
      have BK199 := n4_
      have BK219 := n5_
      have HB := n6_
      clear n0_ n1_ n2_ n3_ n4_ n5_ n6_
      (try clear hb)
      (try clear hb2)
      (try clear hk)
      (try clear hi)
      refine hK.out _ _ ⟨(blk_cell BK219.out 0).trans rfl, (blk_cell BK219.out 1).trans rfl, (blk_cell BK219.out 2).trans rfl, (blk_cell BK219.out 3).trans rfl, (blk_cell BK219.out 4).trans rfl, (blk_cell BK199.out 0).trans rfl, (blk_cell BK199.out 1).trans rfl, (blk_cell BK199.out 2).trans rfl, (blk_cell BK199.out 3).trans rfl, (blk_cell BK199.out 4).trans rfl⟩ (fun hHeld => ?_)
      clear hK K
      refine norm_ (a' := ?_) ?_ ?_
      rotate_left
      · show Act.put _ (some 15) _ = _
        simp only [Act.put, List.setIfInBounds_toArray, List.set_cons_zero, List.set_cons_succ, i64_w, i32_w]
        rfl
      refine one_ (i := 5) (N := some 16) #[true, true, true, true, true, true, false, false, false, false, false, false, false, false, false, false, false, false, false, false, false] rfl rfl (one_of HT_.out (by kernel_rfl)) (by decide) (fun K hK => ?_)
      refine goes_ Try.func17 (by kernel_rfl) rfl #[.string t222] (by rfl) rfl rfl (by (try simp only [List.map_toArray, List.map_cons, List.map_nil]); first | done | rfl | (simp only [List.length_drop, List.length_take]; rfl)) ?_
      with_reducible refine (spec_Solid.calls k t222 t223 _ A9.out).mono ?_
      rintro e w112 ⟨rfl, hb⟩
      refine ⟨_, rfl, ?_⟩
      have n0_ := Aside0.mk (Kd.R_below (by (with_reducible repeat (first | apply Kd.R_alloc | apply Kd.R_drewN | apply Kd.R_drew)); exact HO206.out) hb)
      have n1_ := Aside0.mk (Kd.N_below (by (with_reducible repeat (first | apply Kd.N_alloc | apply Kd.N_drewN | apply Kd.N_drew)); exact HO209.out) hb)
      have n2_ := Aside0.mk (Kd.R_below (by (with_reducible repeat (first | apply Kd.R_alloc | apply Kd.R_drewN | apply Kd.R_drew)); exact HO215.out) hb)
      have n3_ := Aside0.mk (Kd.N_below (by (with_reducible repeat (first | apply Kd.N_alloc | apply Kd.N_drewN | apply Kd.N_drew)); exact HO218.out) hb)
      have n4_ := Aside0.mk (blk_below (g := gb199) (o := .cells #[.int .i64 t201, .string t202, .string t203, .slice Ao99 t204.length co99, .slice Ao100 t207.length co100] 25 (0, 0)) (by (with_reducible repeat (first | refine blk_drewN ?_ _ | refine blk_drew ?_ | refine blk_alloc ?_ _)); exact BK199.out) hb)
      have n5_ := Aside0.mk (blk_below (g := gb219) (o := .cells #[.int .i64 t210, .string t211, .string t212, .slice Ao105 t213.length co105, .slice Ao106 t216.length co106] 25 (0, 0)) (by (with_reducible repeat (first | refine blk_drewN ?_ _ | refine blk_drew ?_ | refine blk_alloc ?_ _)); exact BK219.out) hb)
      have n6_ := Aside0.mk (below_step (by repeat (first | (with_reducible first | exact HB.out | apply below_alloc | apply pw_below_drewN | apply below_drew1 | refine below_set ?_ GE199.out | refine below_set ?_ GE219.out) | exact HB.out)) hb)
      clear HO206
      clear HO209
      clear HO215
      clear HO218
      clear BK199
      clear BK219
      clear HB
      have HO206 := n0_
      have HO209 := n1_
      have HO215 := n2_
      have HO218 := n3_
      have BK199 := n4_
      have BK219 := n5_
      have HB := n6_
      clear n0_ n1_ n2_ n3_ n4_ n5_ n6_
      (try clear hb)
      (try clear hb2)
      (try clear hk)
      (try clear hi)
      refine hK.out _ _ ⟨(blk_cell BK219.out 0).trans rfl, (blk_cell BK219.out 1).trans rfl, (blk_cell BK219.out 2).trans rfl, (blk_cell BK219.out 3).trans rfl, (blk_cell BK219.out 4).trans rfl, (blk_cell BK199.out 0).trans rfl, (blk_cell BK199.out 1).trans rfl, (blk_cell BK199.out 2).trans rfl, (blk_cell BK199.out 3).trans rfl, (blk_cell BK199.out 4).trans rfl⟩ (fun hHeld => ?_)
      clear hK K
      refine norm_ (a' := ?_) ?_ ?_
      rotate_left
      · show Act.put _ (some 16) _ = _
        simp only [Act.put, List.setIfInBounds_toArray, List.set_cons_zero, List.set_cons_succ, i64_w, i32_w]
        rfl
      refine pure_ (i := 6) (N := some 17) (v := ?_) (a' := ?_) #[true, true, true, true, true, true, true, false, false, false, false, false, false, false, false, false, false, false, false, false, false] rfl rfl (any_of HT_.out (by kernel_rfl)) (fun _ _ _ h => h) (Or.inl ⟨by rfl, ?_⟩) ?_ ?_
      rotate_left
      · intro w'
        go_simp
        with_reducible rfl
      rotate_left
      · simp only [Act.put, List.setIfInBounds_toArray, List.set_cons_zero, List.set_cons_succ, i64_w, i32_w]
        rfl
      refine pure_ (i := 7) (N := some 18) (v := ?_) (a' := ?_) #[true, true, true, true, true, true, true, true, false, false, false, false, false, false, false, false, false, false, false, false, false] rfl rfl (any_of HT_.out (by kernel_rfl)) (fun _ _ _ h => h) (Or.inl ⟨by rfl, ?_⟩) ?_ ?_
      rotate_left
      · intro w'
        go_simp
        with_reducible rfl
      rotate_left
      · simp only [Act.put, List.setIfInBounds_toArray, List.set_cons_zero, List.set_cons_succ, i64_w, i32_w]
        rfl
      refine pure_ (i := 8) (N := some 19) (v := undef) (a' := ?_) #[true, true, true, true, true, true, true, true, true, false, false, false, false, false, false, false, false, false, false, false, false] rfl rfl (any_of HT_.out (by kernel_rfl)) (fun _ _ _ h => h) (Or.inr ⟨by rfl, rfl⟩) ?_ ?_
      rotate_left
      · simp only [Act.put, List.setIfInBounds_toArray, List.set_cons_zero, List.set_cons_succ, i64_w, i32_w]
        rfl
      refine pure_ (i := 9) (N := some 20) (v := undef) (a' := ?_) #[true, true, true, true, true, true, true, true, true, true, false, false, false, false, false, false, false, false, false, false, false] rfl rfl (any_of HT_.out (by kernel_rfl)) (fun _ _ _ h => h) (Or.inr ⟨by rfl, rfl⟩) ?_ ?_
      rotate_left
      · simp only [Act.put, List.setIfInBounds_toArray, List.set_cons_zero, List.set_cons_succ, i64_w, i32_w]
        rfl
      refine pure_ (i := 10) (N := some 21) (v := undef) (a' := ?_) #[true, true, true, true, true, true, true, true, true, true, true, false, false, false, false, false, false, false, false, false, false] rfl rfl (any_of HT_.out (by kernel_rfl)) (fun _ _ _ h => h) (Or.inr ⟨by rfl, rfl⟩) ?_ ?_
      rotate_left
      · simp only [Act.put, List.setIfInBounds_toArray, List.set_cons_zero, List.set_cons_succ, i64_w, i32_w]
        rfl
      refine pure_ (i := 11) (N := some 22) (v := undef) (a' := ?_) #[true, true, true, true, true, true, true, true, true, true, true, true, false, false, false, false, false, false, false, false, false] rfl rfl (any_of HT_.out (by kernel_rfl)) (fun _ _ _ h => h) (Or.inr ⟨by rfl, rfl⟩) ?_ ?_
      rotate_left
      · simp only [Act.put, List.setIfInBounds_toArray, List.set_cons_zero, List.set_cons_succ, i64_w, i32_w]
        rfl
      refine pure_ (i := 12) (N := some 23) (v := undef) (a' := ?_) #[true, true, true, true, true, true, true, true, true, true, true, true, true, false, false, false, false, false, false, false, false] rfl rfl (any_of HT_.out (by kernel_rfl)) (fun _ _ _ h => h) (Or.inr ⟨by rfl, rfl⟩) ?_ ?_
      rotate_left
      · simp only [Act.put, List.setIfInBounds_toArray, List.set_cons_zero, List.set_cons_succ, i64_w, i32_w]
        rfl
      refine pure_ (i := 13) (N := some 24) (v := undef) (a' := ?_) #[true, true, true, true, true, true, true, true, true, true, true, true, true, true, false, false, false, false, false, false, false] rfl rfl (any_of HT_.out (by kernel_rfl)) (fun _ _ _ h => h) (Or.inr ⟨by rfl, rfl⟩) ?_ ?_
      rotate_left
      · simp only [Act.put, List.setIfInBounds_toArray, List.set_cons_zero, List.set_cons_succ, i64_w, i32_w]
        rfl
      refine pure_ (i := 14) (N := some 25) (v := undef) (a' := ?_) #[true, true, true, true, true, true, true, true, true, true, true, true, true, true, true, false, false, false, false, false, false] rfl rfl (any_of HT_.out (by kernel_rfl)) (fun _ _ _ h => h) (Or.inr ⟨by rfl, rfl⟩) ?_ ?_
      rotate_left
      · simp only [Act.put, List.setIfInBounds_toArray, List.set_cons_zero, List.set_cons_succ, i64_w, i32_w]
        rfl
      refine pure_ (i := 15) (N := some 26) (v := undef) (a' := ?_) #[true, true, true, true, true, true, true, true, true, true, true, true, true, true, true, true, false, false, false, false, false] rfl rfl (any_of HT_.out (by kernel_rfl)) (fun _ _ _ h => h) (Or.inr ⟨by rfl, rfl⟩) ?_ ?_
      rotate_left
      · simp only [Act.put, List.setIfInBounds_toArray, List.set_cons_zero, List.set_cons_succ, i64_w, i32_w]
        rfl
      refine pure_ (i := 16) (N := some 27) (v := ?_) (a' := ?_) #[true, true, true, true, true, true, true, true, true, true, true, true, true, true, true, true, true, false, false, false, false] rfl rfl (any_of HT_.out (by kernel_rfl)) (fun _ _ _ h => h) (Or.inl ⟨by rfl, ?_⟩) ?_ ?_
      rotate_left
      · intro w'
        go_simp
        with_reducible rfl
      rotate_left
      · simp only [Act.put, List.setIfInBounds_toArray, List.set_cons_zero, List.set_cons_succ, i64_w, i32_w]
        rfl
      refine pure_ (i := 17) (N := some 28) (v := ?_) (a' := ?_) #[true, true, true, true, true, true, true, true, true, true, true, true, true, true, true, true, true, true, false, false, false] rfl rfl (any_of HT_.out (by kernel_rfl)) (fun _ _ _ h => h) (Or.inl ⟨by rfl, ?_⟩) ?_ ?_
      rotate_left
      · intro w'
        go_simp
        with_reducible rfl
      rotate_left
      · simp only [Act.put, List.setIfInBounds_toArray, List.set_cons_zero, List.set_cons_succ, i64_w, i32_w]
        rfl
      refine pure_ (i := 18) (N := some 29) (v := undef) (a' := ?_) #[true, true, true, true, true, true, true, true, true, true, true, true, true, true, true, true, true, true, true, false, false] rfl rfl (any_of HT_.out (by kernel_rfl)) (fun _ _ _ h => h) (Or.inr ⟨by rfl, rfl⟩) ?_ ?_
      rotate_left
      · simp only [Act.put, List.setIfInBounds_toArray, List.set_cons_zero, List.set_cons_succ, i64_w, i32_w]
        rfl
      refine pure_ (i := 19) (N := some 30) (v := ?_) (a' := ?_) #[true, true, true, true, true, true, true, true, true, true, true, true, true, true, true, true, true, true, true, true, false] rfl rfl (any_of HT_.out (by kernel_rfl)) (fun _ _ _ h => h) (Or.inl ⟨by rfl, ?_⟩) ?_ ?_
      rotate_left
      · intro w'
        go_simp
        with_reducible rfl
      rotate_left
      · simp only [Act.put, List.setIfInBounds_toArray, List.set_cons_zero, List.set_cons_succ, i64_w, i32_w]
        rfl
      refine pure_ (i := 20) (N := some 2) (v := ?_) (a' := ?_) #[true, true, true, true, true, true, true, true, true, true, true, true, true, true, true, true, true, true, true, true, true] rfl rfl (any_of HT_.out (by kernel_rfl)) (fun _ _ _ h => h) (Or.inl ⟨by rfl, ?_⟩) ?_ ?_
      rotate_left
      · intro w'
        go_simp
        with_reducible rfl
      rotate_left
      · simp only [Act.put, List.setIfInBounds_toArray, List.set_cons_zero, List.set_cons_succ, i64_w, i32_w]
        rfl
      refine done_ (done_of HT_.out (by kernel_rfl)) ?_
      try go_wp2
      go_ret
      exact ⟨by first | rfl | (simp [errW_none, errW_some] <;> rfl) | (simp [*, errW_none, errW_some] <;> rfl), by repeat (first | (with_reducible first | exact HB.out | apply below_alloc | apply pw_below_drewN | apply below_drew1 | refine below_set ?_ GE199.out | refine below_set ?_ GE219.out) | exact HB.out)⟩
  · replace c3 := Bool.eq_false_iff.mpr c3
    subst c3
    have H1 : (some true) = some r := by rw [if_neg (show ¬ (false = true) by decide)] at H; exact H
    clear H
    have H := H1
    clear H1
    obtain rfl := Option.some.inj H
    go_enter Try.func4, Try.ntmps4
    go_wp2_with (first | ((with_reducible refine gate_dst (N := 1) rfl ?_); (try (refine gate_guard (by rfl) ?_; dsimp only)); refine box_event ?hg (N := 1) ?hd (cs := #[.int .i64 a0_0, .string a0_1, .string a0_2, .slice A0_3 l0_3.length c0_3, .slice A0_4 l0_4.length c0_4]) (t := 25) ?hr ?_; (case hd => rfl); (case hg => rfl); (case hr => first | (go_simp; done) | (go_simp; rfl)); intro gb199 hg w113 hbox hb; have n0_ := Aside0.mk (below_step (by repeat (first | (with_reducible first | exact HB.out | apply below_alloc | apply pw_below_drewN | apply below_drew1) | exact HB.out)) hb); have n1_ := Aside0.mk (hbox); have n2_ := Aside0.mk ((by rw [hg]; exact (below_size (by repeat (first | (with_reducible first | exact HB.out | apply below_alloc | apply pw_below_drewN | apply below_drew1) | exact HB.out))) : w.heap.size ≤ gb199)); have n3_ := Aside0.mk ((by rw [hg]; exact (below_size (by repeat (first | (with_reducible first | exact HB.out | apply below_alloc | apply pw_below_drewN | apply below_drew1) | exact HB.out))) : w.heap.size ≤ gb199)); clear HB; have HB := n0_; have BK199 := n1_; have GW199 := n2_; have GE199 := n3_; clear n0_ n1_ n2_ n3_; clear hb hbox hg; have hcz114_0 : w113.cell? ⟨gb199, 0, none⟩ = some (.int .i64 a0_0) := (blk_cell BK199.out 0).trans rfl; have hcz114_1 : w113.cell? ⟨gb199, 1, none⟩ = some (.string a0_1) := (blk_cell BK199.out 1).trans rfl; have hcz114_2 : w113.cell? ⟨gb199, 2, none⟩ = some (.string a0_2) := (blk_cell BK199.out 2).trans rfl; have hcz114_3 : w113.cell? ⟨gb199, 3, none⟩ = some (.slice A0_3 l0_3.length c0_3) := (blk_cell BK199.out 3).trans rfl; have hcz114_4 : w113.cell? ⟨gb199, 4, none⟩ = some (.slice A0_4 l0_4.length c0_4) := (blk_cell BK199.out 4).trans rfl; have hfz114_0 := blk_frozen BK199.out 0; have hfz114_1 := blk_frozen BK199.out 1; have hfz114_2 := blk_frozen BK199.out 2; have hfz114_3 := blk_frozen BK199.out 3; have hfz114_4 := blk_frozen BK199.out 4) | ((with_reducible refine gate_callee (f := 9) rfl ?_); refine goesL_ (some 5) rfl rfl Try.func9 (by kernel_rfl) rfl #[.agg #[.int .i64 a0_0, .string a0_1, .string a0_2, .slice A0_3 l0_3.length c0_3, .slice A0_4 l0_4.length c0_4]] rfl (by (try simp only [List.map_toArray, List.map_cons, List.map_nil]); first | done | rfl | (simp only [List.length_drop, List.length_take]; rfl)) ?_; (with_reducible refine (laws_zzFits2.calls k a0_0 a0_1 a0_2 _ _ l0_3 _ _ l0_4 false _ ?side1 ?side2 ?side3 ?side4 A2.out).mono ?_); (case side1 => repeat (first | exact (Kd.C_below HR0_3.out HB.out) | (with_reducible refine Kd.C_alloc ?_ _) | (with_reducible refine Kd.C_drewN ?_ _) | (with_reducible refine Kd.C_drew ?_))); (case side2 => exact HC0_3.out); (case side3 => repeat (first | exact (Kd.C_below HR0_4.out HB.out) | (with_reducible refine Kd.C_alloc ?_ _) | (with_reducible refine Kd.C_drewN ?_ _) | (with_reducible refine Kd.C_drew ?_))); (case side4 => exact HC0_4.out); rintro e w115 ⟨rfl, hb⟩; refine ⟨_, rfl, ?_⟩; have n0_ := Aside0.mk (blk_below (g := gb199) (o := .cells #[.int .i64 a0_0, .string a0_1, .string a0_2, .slice A0_3 l0_3.length c0_3, .slice A0_4 l0_4.length c0_4] 25 (0, 0)) (by (with_reducible repeat (first | refine blk_drewN ?_ _ | refine blk_drew ?_ | refine blk_alloc ?_ _)); exact BK199.out) hb); have n1_ := Aside0.mk (below_step (by repeat (first | (with_reducible first | exact HB.out | apply below_alloc | apply pw_below_drewN | apply below_drew1 | refine below_set ?_ GE199.out) | exact HB.out)) hb); clear BK199; clear HB; have BK199 := n0_; have HB := n1_; clear n0_ n1_; (try clear hb); (try clear hb2); (try clear hk); (try clear hi)))
    go_ret
    exact ⟨by first | rfl | (simp [errW_none, errW_some] <;> rfl) | (simp [*, errW_none, errW_some] <;> rfl), by repeat (first | (with_reducible first | exact HB.out | apply below_alloc | apply pw_below_drewN | apply below_drew1 | refine below_set ?_ GE199.out) | exact HB.out)⟩
end Go.Proofs.Ytmfjbljdbkmkgaa.PDom
