/- A part of the proof of FnDomClassesCard: FClsa, FCls, LiveL, Txt, UniqL, PureCls, RowCls, Open, OpenT, RowFnDomClasses, one behind the other. -/
import Derived.Test.YtibfoaahdbdogaaDoorMFnDomClassesCard2
import Derived.Test.YtibfoaahdbdogaaDoorMFnDomClassesCard3
import Derived.Test.YtibfoaahdbdogaaDoorMFnDomClassesCard1
import Derived.Lib.Bytes
import Derived.Test.YtibfoaahdbdogaaDoorRows
import Derived.Stop.LaidErr
import Derived.Lib.LaidTab
import Derived.ChangeArms
import Derived.ChangeSlices
import Derived.DataReads
import Derived.SizedLaws
import Derived.Test.YtibfoaahdbdogaaDoorTie
import Derived.Test.YtibfoaahdbdogaaDoorCards
import Derived.WalkKit
import Derived.ProofKit
import Derived.OpenShut
import Derived.ShutString
import Derived.ChangeOld
import Derived.Below
import Derived.Handed
import Derived.LaidLaws
import Derived.Deep.DeepLaidRun
import Derived.SevenTiedAt
import Derived.Stop.Joined
import Derived.Lib.LaidU8
/- Printed by the program extprint.py of this session, out of the kit's print and contracts of this session's own; Lean checks it. -/
namespace Go.Proofs.YtibfoaahdbdogaaDoor.PDom
open Go.RowKit Go.Proofs.YtibfoaahdbdogaaDoorW.PrintWords Go.Proofs.YtibfoaahdbdogaaDoorW.PrintLast Go.Proofs.YtibfoaahdbdogaaDoorW.PrintMore
attribute [local go_sem] max2_int min2_int max_two min_two max_three min_three max_four min_four   -- for this text's walks alone
set_option linter.unusedVariables false
set_option linter.unusedSimpArgs false











-- NOT PRINTED: function 30 (html_Node_AppendChild)

-- NOT PRINTED: function 18 (impl_made)

-- NOT PRINTED: function 31 (dom_NodeName)


-- NOT PRINTED: function 32 (dom_AllNodes)

-- NOT PRINTED: function 33 (impl_pathOf)



/-! ### laws_living29: function 9 -/
def laws_living29.f (k : Nat)  : Option (Bool) := (laws_text29.f (⟨#[97]⟩ : ByteArray)).bind fun bt131 => ((laws_tag29.f (⟨#[112]⟩ : ByteArray) (([(⟨bt131.1, bt131.2.1, bt131.2.2.1, bt131.2.2.2.1, bt131.2.2.2.2⟩ : S25)] : List (S25)))).bind fun bt143 => ((impl_NameOf.f k bt143.1 bt143.2.1 bt143.2.2.1 bt143.2.2.2.1 bt143.2.2.2.2).bind fun t153 => (if t153.toList = ([112] : List UInt8) then ((impl_AllNodes.f k bt143.1 bt143.2.1 bt143.2.2.1 bt143.2.2.2.1 bt143.2.2.2.2).bind fun t154 => (some ((t154.length : Int) == 2))) else (some false))))
theorem laws_living29.mono : ∀ k, LeO (laws_living29.f k ) (laws_living29.f (k + 1) ) := by
  intro  k
  unfold laws_living29.f
  repeat' first
      | (with_reducible exact impl_AllNodes.mono _ _ _ _ _ _)
      | (with_reducible exact impl_NameOf.mono _ _ _ _ _ _)
      | (with_reducible exact LeO.refl _)
      | (with_reducible exact LeO.none _)
      | (with_reducible refine LeO.ite ?_ ?_)
      | (with_reducible refine LeO.bind ?_ (fun _ => ?_))
      | exact impl_AllNodes.mono _ _ _ _ _ _
      | exact impl_NameOf.mono _ _ _ _ _ _
      | exact LeO.none _
      | refine LeO.ite ?_ ?_
      | refine LeO.bind ?_ (fun _ => ?_)
set_option maxHeartbeats 8000000 in
set_option maxRecDepth 100000 in
theorem laws_living29.calls (k : Nat)  (r : Bool) (w : World) (h : laws_living29.f k  = some r) :
    Calls Tryd.prog 9 #[] w fun e w' => e = .returned (.bool r) ∧ Below w.heap.size w w' := by
  have hu25 := Tryd.underlying25
  have HB := Aside0.mk (Below.refl w.heap.size w)
  have H : ((laws_text29.f (⟨#[97]⟩ : ByteArray)).bind fun bt131 => ((laws_tag29.f (⟨#[112]⟩ : ByteArray) (([(⟨bt131.1, bt131.2.1, bt131.2.2.1, bt131.2.2.2.1, bt131.2.2.2.2⟩ : S25)] : List (S25)))).bind fun bt143 => ((impl_NameOf.f k bt143.1 bt143.2.1 bt143.2.2.1 bt143.2.2.2.1 bt143.2.2.2.2).bind fun t153 => (if t153.toList = ([112] : List UInt8) then ((impl_AllNodes.f k bt143.1 bt143.2.1 bt143.2.2.1 bt143.2.2.2.1 bt143.2.2.2.2).bind fun t154 => (some ((t154.length : Int) == 2))) else (some false))))) = some r := h
  clear h
  replace H := Option.bind_eq_some_iff.mp H
  obtain ⟨⟨t131, t132, t133, t134, t137⟩, A10, H⟩ := H
  replace H : ((laws_tag29.f (⟨#[112]⟩ : ByteArray) (([(⟨t131, t132, t133, t134, t137⟩ : S25)] : List (S25)))).bind fun bt143 => ((impl_NameOf.f k bt143.1 bt143.2.1 bt143.2.2.1 bt143.2.2.2.1 bt143.2.2.2.2).bind fun t153 => (if t153.toList = ([112] : List UInt8) then ((impl_AllNodes.f k bt143.1 bt143.2.1 bt143.2.2.1 bt143.2.2.2.1 bt143.2.2.2.2).bind fun t154 => (some ((t154.length : Int) == 2))) else (some false)))) = some r := H
  have A1 := Aside0.mk A10
  clear A10
  obtain ⟨y140, hy140⟩ : ∃ y_ : List (S25), y_ = (([(⟨t131, t132, t133, t134, t137⟩ : S25)] : List (S25))) := ⟨_, rfl⟩
  replace H : ((laws_tag29.f (⟨#[112]⟩ : ByteArray) y140).bind fun bt143 => ((impl_NameOf.f k bt143.1 bt143.2.1 bt143.2.2.1 bt143.2.2.2.1 bt143.2.2.2.2).bind fun t153 => (if t153.toList = ([112] : List UInt8) then ((impl_AllNodes.f k bt143.1 bt143.2.1 bt143.2.2.1 bt143.2.2.2.1 bt143.2.2.2.2).bind fun t154 => (some ((t154.length : Int) == 2))) else (some false)))) = some r := by first | (rw [hy140]; with_reducible exact H) | (have H2_ := (Option.bind_some _ _).symm.trans H; rw [hy140]; with_reducible exact H2_) | (have H2_ := (Option.bind_some _ _).symm.trans H; with_reducible exact H2_) | with_reducible exact H | (rw [hy140]; exact H) | exact H
  have Ny140 := Aside0.mk hy140
  clear hy140
  replace H := Option.bind_eq_some_iff.mp H
  obtain ⟨⟨t143, t144, t145, t146, t149⟩, A20, H⟩ := H
  replace H : ((impl_NameOf.f k t143 t144 t145 t146 t149).bind fun t153 => (if t153.toList = ([112] : List UInt8) then ((impl_AllNodes.f k t143 t144 t145 t146 t149).bind fun t154 => (some ((t154.length : Int) == 2))) else (some false))) = some r := H
  have A2 := Aside0.mk A20
  clear A20
  replace H := Option.bind_eq_some_iff.mp H
  obtain ⟨t153, A30, H⟩ := H
  replace H : (if t153.toList = ([112] : List UInt8) then ((impl_AllNodes.f k t143 t144 t145 t146 t149).bind fun t154 => (some ((t154.length : Int) == 2))) else (some false)) = some r := H
  have A3 := Aside0.mk A30
  clear A30
  by_cases c4 : t153.toList = ([112] : List UInt8)
  · rw [if_pos c4] at H
    have c4b0 : (t153.toList == ([112] : List UInt8)) = true := beq_iff_eq.mpr c4
    have c4b1 : (t153.toList != ([112] : List UInt8)) = false := bne_eq_false_iff_eq.mpr c4
    clear c4
    replace H := Option.bind_eq_some_iff.mp H
    obtain ⟨t154, A50, H⟩ := H
    replace H : (some ((t154.length : Int) == 2)) = some r := H
    have A5 := Aside0.mk A50
    clear A50
    obtain rfl := Option.some.inj H
    go_enter Tryd.func9, Tryd.ntmps9
    go_wp2_with (first | ((with_reducible refine gate_callee (f := 20) rfl ?_); refine goesL_ (some 2) rfl rfl Tryd.func20 (by kernel_rfl) rfl #[.string (⟨#[97]⟩ : ByteArray)] rfl (by (try simp only [List.map_toArray, List.map_cons, List.map_nil]); first | done | rfl | (simp only [List.length_drop, List.length_take]; rfl)) ?_; (with_reducible refine (laws_text29.calls (⟨#[97]⟩ : ByteArray) t131 t132 t133 t134 t137 _ A1.out).mono ?_); rintro e w6 ⟨v135, v138, rfl, ho0, ho1, hb⟩; refine ⟨_, rfl, ?_⟩; have n0_ := Aside0.mk (Kd.R_lower ho0 (below_size (by repeat (first | (with_reducible first | exact HB.out | apply below_alloc | apply pw_below_drewN | apply below_drew1) | exact HB.out)))); have n1_ := Aside0.mk (Kd.N_lower (Kd.N_mono (ok' := fun k_ => some k_ ≠ (v135 : Value).ownBlock) (Kd.R_N (Kd.R_bound ho1)) (fun k_ hk_ => hk_.1)) (below_size (by repeat (first | (with_reducible first | exact HB.out | apply below_alloc | apply pw_below_drewN | apply below_drew1) | exact HB.out)))); have n2_ := Aside0.mk (below_step (by repeat (first | (with_reducible first | exact HB.out | apply below_alloc | apply pw_below_drewN | apply below_drew1) | exact HB.out)) hb); clear HB; have HO136 := n0_; have HO139 := n1_; have HB := n2_; clear n0_ n1_ n2_; (try clear hb); (try clear hb2); (try clear hk); (try clear hi); (try clear ho0); (try clear ho1); obtain ⟨Ao7, co7, eo7⟩ := Kd.R_slice HO136.out; subst eo7; obtain ⟨Ao8, co8, eo8⟩ := Kd.N_slice HO139.out; subst eo8) | ((with_reducible refine gate_dst (N := 3) rfl ?_); (try (refine gate_guard (by rfl) ?_; dsimp only)); refine Kd.N_lit k25 _ 25 ?hg (N' := 3) ?hd (xs := ([(⟨t131, t132, t133, t134, t137⟩ : S25)] : List (S25))) (inner := [.int .i64 t131, .string t132, .string t133, .slice Ao7 t134.length co7, .slice Ao8 t137.length co8]) (ok := (fun _ => True)) (okp := (fun _ => True)) ?hr ?hp (fun _ hk => hk) ((show ∀ k_, w6.heap.size ≤ k_ → (fun _ => True) k_ from fun k_ hk => trivial) _ (Nat.le_refl _)) (Below.refl _ _) (Nat.le_refl _) (by simp) ?_; (case hd => rfl); (case hg => rfl); (case hr => first | (go_simp; done) | (go_simp; rfl)); (case hp => exact (Reps.c5 (show Kd.FK k25 _ _ (⟨t131, t132, t133, t134, t137⟩ : S25) [.int .i64 t131, .string t132, .string t133, .slice Ao7 t134.length co7, .slice Ao8 t137.length co8] from (k25_mkF _ _ (⟨t131, t132, t133, t134, t137⟩ : S25) (Kd.R_reads' (Kd.R_mono (ok' := (fun _ => True)) (HO136.out) (fun k_ hk => trivial))).2.1 (Kd.R_F (Kd.R_mono (ok' := (fun _ => True)) (HO136.out) (fun k_ hk => trivial))) (Kd.N_reads' (Kd.N_mono (ok' := (fun _ => True)) (HO139.out) (fun k_ hk => trivial))).2.1 (Kd.N_F (Kd.N_mono (ok' := (fun _ => True)) (HO139.out) (fun k_ hk => trivial))))) (Reps.none _ _))); intro v141 w9 ho10 hb hg_ hnew_; clear hg_ hnew_; (first | rw [← Ny140.out] at ho10 | (simp only [Int.reduceToNat] at ho10; rw [← Ny140.out] at ho10)); have n0_ := Aside0.mk (Kd.N_lower ho10 (below_size (by repeat (first | (with_reducible first | exact HB.out | apply below_alloc | apply pw_below_drewN | apply below_drew1) | exact HB.out)))); have n1_ := Aside0.mk (below_step (by repeat (first | (with_reducible first | exact HB.out | apply below_alloc | apply pw_below_drewN | apply below_drew1) | exact HB.out)) hb); clear HB; clear HO136; clear HO139; have HO142 := n0_; have HB := n1_; clear n0_ n1_; clear hb ho10; obtain ⟨Ao11, co11, eo11⟩ := Kd.N_slice HO142.out; subst eo11) | ((with_reducible refine gate_callee (f := 19) rfl ?_); refine goesL_ (some 4) rfl rfl Tryd.func19 (by kernel_rfl) rfl #[.string (⟨#[112]⟩ : ByteArray), .slice Ao11 y140.length co11] rfl (by (try simp only [List.map_toArray, List.map_cons, List.map_nil]); first | done | rfl | (simp only [List.length_drop, List.length_take]; rfl)) ?_; (with_reducible refine (laws_tag29.calls (⟨#[112]⟩ : ByteArray) (fun k_ => True) _ _ y140 t143 t144 t145 t146 t149 _ ?side1 A2.out).mono ?_); (case side1 => exact Kd.N_V (HO142.out)); rintro e w12 ⟨v147, v150, rfl, ho0, ho1, hb⟩; refine ⟨_, rfl, ?_⟩; have n0_ := Aside0.mk (Kd.N_elder' (by (with_reducible repeat (first | apply Kd.N_alloc | apply Kd.N_drewN | apply Kd.N_drew)); exact HO142.out) (Kd.R_base ho0) hb); have n1_ := Aside0.mk (Kd.R_lower (Kd.R_mono (ok' := fun k_ => True) ho0 (fun _ hk_ => trivial)) (below_size (by repeat (first | (with_reducible first | exact HB.out | apply below_alloc | apply pw_below_drewN | apply below_drew1) | exact HB.out)))); have n2_ := Aside0.mk (Kd.V_lower (Kd.V_mono (ok' := fun k_ => some k_ ≠ (v147 : Value).ownBlock) ho1 (fun k_ hk_ => hk_.2)) (below_size (by repeat (first | (with_reducible first | exact HB.out | apply below_alloc | apply pw_below_drewN | apply below_drew1) | exact HB.out)))); have n3_ := Aside0.mk (below_step (by repeat (first | (with_reducible first | exact HB.out | apply below_alloc | apply pw_below_drewN | apply below_drew1) | exact HB.out)) hb); clear HO142; clear HB; have HO142 := n0_; have HO148 := n1_; have HO151 := n2_; have HB := n3_; clear n0_ n1_ n2_ n3_; (try clear hb); (try clear hb2); (try clear hk); (try clear hi); (try clear ho0); (try clear ho1)) | ((with_reducible refine gate_dst (N := 1) rfl ?_); (try (refine gate_guard (by rfl) ?_; dsimp only)); refine box_event ?hg (N := 1) ?hd (cs := #[.int .i64 0, .string (⟨#[]⟩ : ByteArray), .string (⟨#[]⟩ : ByteArray), .slice none 0 0, .slice none 0 0]) (t := 25) ?hr ?_; (case hd => rfl); (case hg => rfl); (case hr => first | (go_simp; done) | (go_simp; rfl)); intro gb152 hg w13 hbox hb; have n0_ := Aside0.mk (Kd.N_below (Kd.N_elderB (by (with_reducible repeat (first | apply Kd.N_alloc | apply Kd.N_drewN | apply Kd.N_drew)); exact HO142.out) gb152 (Nat.le_of_eq hg.symm)) hb); have n1_ := Aside0.mk (Kd.R_below (by (with_reducible repeat (first | apply Kd.R_alloc | apply Kd.R_drewN | apply Kd.R_drew)); exact HO148.out) hb); have n2_ := Aside0.mk (Kd.V_below (Kd.V_elderB (by (with_reducible repeat (first | apply Kd.V_alloc | apply Kd.V_drewN | apply Kd.V_drew)); exact HO151.out) gb152 (Nat.le_of_eq hg.symm)) hb); have n3_ := Aside0.mk (below_step (by repeat (first | (with_reducible first | exact HB.out | apply below_alloc | apply pw_below_drewN | apply below_drew1) | exact HB.out)) hb); have n4_ := Aside0.mk (hbox); have n5_ := Aside0.mk ((by rw [hg]; exact (below_size (by repeat (first | (with_reducible first | exact HB.out | apply below_alloc | apply pw_below_drewN | apply below_drew1) | exact HB.out))) : w.heap.size ≤ gb152)); have n6_ := Aside0.mk ((by rw [hg]; exact (below_size (by repeat (first | (with_reducible first | exact HB.out | apply below_alloc | apply pw_below_drewN | apply below_drew1) | exact HB.out))) : w.heap.size ≤ gb152)); clear HO142; clear HO148; clear HO151; clear HB; have HO142 := n0_; have HO148 := n1_; have HO151 := n2_; have HB := n3_; have BK152 := n4_; have GW152 := n5_; have GE152 := n6_; clear n0_ n1_ n2_ n3_ n4_ n5_ n6_; clear hb hbox hg; have hcz14_0 : w13.cell? ⟨gb152, 0, none⟩ = some (.int .i64 0) := (blk_cell BK152.out 0).trans rfl; have hcz14_1 : w13.cell? ⟨gb152, 1, none⟩ = some (.string (⟨#[]⟩ : ByteArray)) := (blk_cell BK152.out 1).trans rfl; have hcz14_2 : w13.cell? ⟨gb152, 2, none⟩ = some (.string (⟨#[]⟩ : ByteArray)) := (blk_cell BK152.out 2).trans rfl; have hcz14_3 : w13.cell? ⟨gb152, 3, none⟩ = some (.slice none 0 0) := (blk_cell BK152.out 3).trans rfl; have hcz14_4 : w13.cell? ⟨gb152, 4, none⟩ = some (.slice none 0 0) := (blk_cell BK152.out 4).trans rfl; have hfz14_0 := blk_frozen BK152.out 0; have hfz14_1 := blk_frozen BK152.out 1; have hfz14_2 := blk_frozen BK152.out 2; have hfz14_3 := blk_frozen BK152.out 3; have hfz14_4 := blk_frozen BK152.out 4; obtain ⟨Ao15, co15, eo15⟩ := Kd.R_slice HO148.out; subst eo15; obtain ⟨Ao16, co16, eo16⟩ := Kd.V_slice HO151.out; subst eo16) | ((with_reducible refine gate_callee (f := 21) rfl ?_); refine goesL_ (some 6) rfl rfl Tryd.func21 (by kernel_rfl) rfl #[.agg #[.int .i64 t143, .string t144, .string t145, .slice Ao15 t146.length co15, .slice Ao16 t149.length co16]] rfl (by (try simp only [List.map_toArray, List.map_cons, List.map_nil]); first | done | rfl | (simp only [List.length_drop, List.length_take]; rfl)) ?_; (with_reducible refine (impl_NameOf.calls k t143 t144 t145 _ _ t146 _ _ t149 t153 _ ?side1 ?side2 ?side3 ?side4 A3.out).mono ?_); (case side1 => refine (Kd.R_reads' (e := 31) (base := w.heap.size) (ok := fun k_ => True) (n := t146.length) (c := co15) ?_).2.2; exact (by (with_reducible repeat (first | apply Kd.R_alloc | apply Kd.R_drewN | apply Kd.R_drew)); exact (Kd.R_mono (Kd.R_far (p := ⟨gb152, 4, none⟩) (Kd.R_far (p := ⟨gb152, 3, none⟩) (Kd.R_far (p := ⟨gb152, 2, none⟩) (Kd.R_far (p := ⟨gb152, 1, none⟩) (Kd.R_far (p := ⟨gb152, 0, none⟩) (Kd.R_types HO148.out BK152.out (by decide)) (fun _ hk => hk.2) (.int .i64 t143)) (fun _ hk => hk.2) (.string t144)) (fun _ hk => hk.2) (.string t145)) (fun _ hk => hk.2) (.slice Ao15 t146.length co15)) (fun _ hk => hk.2) (.slice Ao16 t149.length co16)) (fun _ h_ => h_.1)))); (case side2 => exact (Kd.R_reads' HO148.out).2.1); (case side3 => refine (Kd.V_reads' (e := 25) (base := w.heap.size) (ok := fun k_ => (some k_ ≠ (.slice Ao15 t146.length co15 : Value).ownBlock ∧ k_ ≠ gb152)) (n := t149.length) (c := co16) ?_).2.2; exact (by (with_reducible repeat (first | apply Kd.V_alloc | apply Kd.V_drewN | apply Kd.V_drew)); exact (Kd.V_mono (Kd.V_far (p := ⟨gb152, 4, none⟩) (Kd.V_far (p := ⟨gb152, 3, none⟩) (Kd.V_far (p := ⟨gb152, 2, none⟩) (Kd.V_far (p := ⟨gb152, 1, none⟩) (Kd.V_far (p := ⟨gb152, 0, none⟩) (Kd.V_mono HO151.out (fun k_ hk => (⟨hk, hk.2⟩ : _ ∧ k_ ≠ gb152))) (fun _ hk => hk.2) (.int .i64 t143)) (fun _ hk => hk.2) (.string t144)) (fun _ hk => hk.2) (.string t145)) (fun _ hk => hk.2) (.slice Ao15 t146.length co15)) (fun _ hk => hk.2) (.slice Ao16 t149.length co16)) (fun _ h_ => h_.1)))); (case side4 => exact (Kd.V_reads' HO151.out).2.1); rintro e w17 ⟨rfl, hb⟩; refine ⟨_, rfl, ?_⟩; have n0_ := Aside0.mk (Kd.N_below (by (with_reducible repeat (first | apply Kd.N_alloc | apply Kd.N_drewN | apply Kd.N_drew)); exact (Kd.N_mono (Kd.N_far (p := ⟨gb152, 4, none⟩) (Kd.N_far (p := ⟨gb152, 3, none⟩) (Kd.N_far (p := ⟨gb152, 2, none⟩) (Kd.N_far (p := ⟨gb152, 1, none⟩) (Kd.N_far (p := ⟨gb152, 0, none⟩) (Kd.N_mono HO142.out (fun k_ hk => (⟨hk, hk.2⟩ : _ ∧ k_ ≠ gb152))) (fun _ hk => hk.2) (.int .i64 t143)) (fun _ hk => hk.2) (.string t144)) (fun _ hk => hk.2) (.string t145)) (fun _ hk => hk.2) (.slice Ao15 t146.length co15)) (fun _ hk => hk.2) (.slice Ao16 t149.length co16)) (fun _ h_ => h_.1))) hb); have n1_ := Aside0.mk (Kd.R_below (by (with_reducible repeat (first | apply Kd.R_alloc | apply Kd.R_drewN | apply Kd.R_drew)); exact (Kd.R_mono (Kd.R_far (p := ⟨gb152, 4, none⟩) (Kd.R_far (p := ⟨gb152, 3, none⟩) (Kd.R_far (p := ⟨gb152, 2, none⟩) (Kd.R_far (p := ⟨gb152, 1, none⟩) (Kd.R_far (p := ⟨gb152, 0, none⟩) (Kd.R_types HO148.out BK152.out (by decide)) (fun _ hk => hk.2) (.int .i64 t143)) (fun _ hk => hk.2) (.string t144)) (fun _ hk => hk.2) (.string t145)) (fun _ hk => hk.2) (.slice Ao15 t146.length co15)) (fun _ hk => hk.2) (.slice Ao16 t149.length co16)) (fun _ h_ => h_.1))) hb); have n2_ := Aside0.mk (Kd.V_below (by (with_reducible repeat (first | apply Kd.V_alloc | apply Kd.V_drewN | apply Kd.V_drew)); exact (Kd.V_mono (Kd.V_far (p := ⟨gb152, 4, none⟩) (Kd.V_far (p := ⟨gb152, 3, none⟩) (Kd.V_far (p := ⟨gb152, 2, none⟩) (Kd.V_far (p := ⟨gb152, 1, none⟩) (Kd.V_far (p := ⟨gb152, 0, none⟩) (Kd.V_mono HO151.out (fun k_ hk => (⟨hk, hk.2⟩ : _ ∧ k_ ≠ gb152))) (fun _ hk => hk.2) (.int .i64 t143)) (fun _ hk => hk.2) (.string t144)) (fun _ hk => hk.2) (.string t145)) (fun _ hk => hk.2) (.slice Ao15 t146.length co15)) (fun _ hk => hk.2) (.slice Ao16 t149.length co16)) (fun _ h_ => h_.1))) hb); have n3_ := Aside0.mk (blk_below (g := gb152) (o := .cells #[.int .i64 t143, .string t144, .string t145, .slice Ao15 t146.length co15, .slice Ao16 t149.length co16] 25 (0, 0)) (by (with_reducible repeat (first | refine blk_drewN ?_ _ | refine blk_drew ?_ | refine blk_alloc ?_ _)); refine blk_put (cs := #[.int .i64 t143, .string t144, .string t145, .slice Ao15 t146.length co15, .slice none 0 0]) ?_ 4 _ rfl; (with_reducible repeat (first | refine blk_drewN ?_ _ | refine blk_drew ?_ | refine blk_alloc ?_ _)); refine blk_put (cs := #[.int .i64 t143, .string t144, .string t145, .slice none 0 0, .slice none 0 0]) ?_ 3 _ rfl; (with_reducible repeat (first | refine blk_drewN ?_ _ | refine blk_drew ?_ | refine blk_alloc ?_ _)); refine blk_put (cs := #[.int .i64 t143, .string t144, .string (⟨#[]⟩ : ByteArray), .slice none 0 0, .slice none 0 0]) ?_ 2 _ rfl; (with_reducible repeat (first | refine blk_drewN ?_ _ | refine blk_drew ?_ | refine blk_alloc ?_ _)); refine blk_put (cs := #[.int .i64 t143, .string (⟨#[]⟩ : ByteArray), .string (⟨#[]⟩ : ByteArray), .slice none 0 0, .slice none 0 0]) ?_ 1 _ rfl; (with_reducible repeat (first | refine blk_drewN ?_ _ | refine blk_drew ?_ | refine blk_alloc ?_ _)); refine blk_put (cs := #[.int .i64 0, .string (⟨#[]⟩ : ByteArray), .string (⟨#[]⟩ : ByteArray), .slice none 0 0, .slice none 0 0]) ?_ 0 _ rfl; (with_reducible repeat (first | refine blk_drewN ?_ _ | refine blk_drew ?_ | refine blk_alloc ?_ _)); exact BK152.out) hb); have n4_ := Aside0.mk (below_step (by repeat (first | (with_reducible first | exact HB.out | apply below_alloc | apply pw_below_drewN | apply below_drew1 | refine below_set ?_ GE152.out) | exact HB.out)) hb); clear HO142; clear HO148; clear HO151; clear BK152; clear HB; have HO142 := n0_; have HO148 := n1_; have HO151 := n2_; have BK152 := n3_; have HB := n4_; clear n0_ n1_ n2_ n3_ n4_; (try clear hb); (try clear hb2); (try clear hk); (try clear hi); have hcz18_0 : w17.cell? ⟨gb152, 0, none⟩ = some (.int .i64 t143) := (blk_cell BK152.out 0).trans rfl; have hcz18_1 : w17.cell? ⟨gb152, 1, none⟩ = some (.string t144) := (blk_cell BK152.out 1).trans rfl; have hcz18_2 : w17.cell? ⟨gb152, 2, none⟩ = some (.string t145) := (blk_cell BK152.out 2).trans rfl; have hcz18_3 : w17.cell? ⟨gb152, 3, none⟩ = some (.slice Ao15 t146.length co15) := (blk_cell BK152.out 3).trans rfl; have hcz18_4 : w17.cell? ⟨gb152, 4, none⟩ = some (.slice Ao16 t149.length co16) := (blk_cell BK152.out 4).trans rfl; have hfz18_0 := blk_frozen BK152.out 0; have hfz18_1 := blk_frozen BK152.out 1; have hfz18_2 := blk_frozen BK152.out 2; have hfz18_3 := blk_frozen BK152.out 3; have hfz18_4 := blk_frozen BK152.out 4) | (go_at_call 22; (with_reducible refine (impl_AllNodes.calls k t143 t144 t145 _ _ t146 _ _ t149 t154 _ ?side1 ?side2 ?side3 ?side4 A5.out).mono ?_); (case side1 => repeat (first | exact (Kd.R_reads' HO148.out).2.2 | (with_reducible refine Kd.C_alloc ?_ _) | (with_reducible refine Kd.C_drewN ?_ _) | (with_reducible refine Kd.C_drew ?_))); (case side2 => exact (Kd.R_reads' HO148.out).2.1); (case side3 => repeat (first | exact (Kd.V_reads' HO151.out).2.2 | (with_reducible refine Kd.C_alloc ?_ _) | (with_reducible refine Kd.C_drewN ?_ _) | (with_reducible refine Kd.C_drew ?_))); (case side4 => exact (Kd.V_reads' HO151.out).2.1); rintro e w19 ⟨v155, rfl, ho0, hb⟩; have n0_ := Aside0.mk (Kd.N_elder' (by (with_reducible repeat (first | apply Kd.N_alloc | apply Kd.N_drewN | apply Kd.N_drew)); exact HO142.out) (Kd.N_base ho0) hb); have n1_ := Aside0.mk (Kd.R_below (by (with_reducible repeat (first | apply Kd.R_alloc | apply Kd.R_drewN | apply Kd.R_drew)); exact HO148.out) hb); have n2_ := Aside0.mk (Kd.V_elder' (by (with_reducible repeat (first | apply Kd.V_alloc | apply Kd.V_drewN | apply Kd.V_drew)); exact HO151.out) (Kd.N_base ho0) hb); have n3_ := Aside0.mk (Kd.N_lower (Kd.N_mono (ok' := fun k_ => some k_ ≠ (.slice Ao11 y140.length co11 : Value).ownBlock ∧ some k_ ≠ (.slice Ao15 t146.length co15 : Value).ownBlock ∧ k_ ≠ gb152) ho0 (fun k_ hk_ => ⟨(Kd.fresh' (Kd.N_lt (by (with_reducible repeat (first | apply Kd.N_alloc | apply Kd.N_drewN | apply Kd.N_drew)); exact HO142.out)) k_ hk_), (Kd.fresh' (Kd.R_lt (by (with_reducible repeat (first | apply Kd.R_alloc | apply Kd.R_drewN | apply Kd.R_drew)); exact HO148.out)) k_ hk_), (Kd.freshB (g := gb152) (o := .cells #[.int .i64 t143, .string t144, .string t145, .slice Ao15 t146.length co15, .slice Ao16 t149.length co16] 25 (0, 0)) (by (with_reducible repeat (first | refine blk_drewN ?_ _ | refine blk_drew ?_ | refine blk_alloc ?_ _)); exact BK152.out) k_ hk_)⟩)) (below_size (by repeat (first | (with_reducible first | exact HB.out | apply below_alloc | apply pw_below_drewN | apply below_drew1 | refine below_set ?_ GE152.out) | exact HB.out)))); have n4_ := Aside0.mk (blk_below (g := gb152) (o := .cells #[.int .i64 t143, .string t144, .string t145, .slice Ao15 t146.length co15, .slice Ao16 t149.length co16] 25 (0, 0)) (by (with_reducible repeat (first | refine blk_drewN ?_ _ | refine blk_drew ?_ | refine blk_alloc ?_ _)); exact BK152.out) hb); have n5_ := Aside0.mk (below_step (by repeat (first | (with_reducible first | exact HB.out | apply below_alloc | apply pw_below_drewN | apply below_drew1 | refine below_set ?_ GE152.out) | exact HB.out)) hb); clear HO142; clear HO148; clear HO151; clear BK152; clear HB; have HO142 := n0_; have HO148 := n1_; have HO151 := n2_; have HO156 := n3_; have BK152 := n4_; have HB := n5_; clear n0_ n1_ n2_ n3_ n4_ n5_; (try clear hb); (try clear hb2); (try clear hk); (try clear hi); (try clear ho0); obtain ⟨Ao20, co20, eo20⟩ := Kd.N_slice HO156.out; subst eo20))
    go_ret
    exact ⟨by first | rfl | (simp [errW_none, errW_some] <;> rfl) | (simp [*, errW_none, errW_some] <;> rfl), by repeat (first | (with_reducible first | exact HB.out | apply below_alloc | apply pw_below_drewN | apply below_drew1 | refine below_set ?_ GE152.out) | exact HB.out)⟩
  · rw [if_neg c4] at H
    have c4b0 : (t153.toList == ([112] : List UInt8)) = false := beq_eq_false_iff_ne.mpr c4
    have c4b1 : (t153.toList != ([112] : List UInt8)) = true := bne_iff_ne.mpr c4
    obtain rfl := Option.some.inj H
    go_enter Tryd.func9, Tryd.ntmps9
    go_wp2_with (first | ((with_reducible refine gate_callee (f := 20) rfl ?_); refine goesL_ (some 2) rfl rfl Tryd.func20 (by kernel_rfl) rfl #[.string (⟨#[97]⟩ : ByteArray)] rfl (by (try simp only [List.map_toArray, List.map_cons, List.map_nil]); first | done | rfl | (simp only [List.length_drop, List.length_take]; rfl)) ?_; (with_reducible refine (laws_text29.calls (⟨#[97]⟩ : ByteArray) t131 t132 t133 t134 t137 _ A1.out).mono ?_); rintro e w21 ⟨v135, v138, rfl, ho0, ho1, hb⟩; refine ⟨_, rfl, ?_⟩; have n0_ := Aside0.mk (Kd.R_lower ho0 (below_size (by repeat (first | (with_reducible first | exact HB.out | apply below_alloc | apply pw_below_drewN | apply below_drew1) | exact HB.out)))); have n1_ := Aside0.mk (Kd.N_lower (Kd.N_mono (ok' := fun k_ => some k_ ≠ (v135 : Value).ownBlock) (Kd.R_N (Kd.R_bound ho1)) (fun k_ hk_ => hk_.1)) (below_size (by repeat (first | (with_reducible first | exact HB.out | apply below_alloc | apply pw_below_drewN | apply below_drew1) | exact HB.out)))); have n2_ := Aside0.mk (below_step (by repeat (first | (with_reducible first | exact HB.out | apply below_alloc | apply pw_below_drewN | apply below_drew1) | exact HB.out)) hb); clear HB; have HO136 := n0_; have HO139 := n1_; have HB := n2_; clear n0_ n1_ n2_; (try clear hb); (try clear hb2); (try clear hk); (try clear hi); (try clear ho0); (try clear ho1); obtain ⟨Ao22, co22, eo22⟩ := Kd.R_slice HO136.out; subst eo22; obtain ⟨Ao23, co23, eo23⟩ := Kd.N_slice HO139.out; subst eo23) | ((with_reducible refine gate_dst (N := 3) rfl ?_); (try (refine gate_guard (by rfl) ?_; dsimp only)); refine Kd.N_lit k25 _ 25 ?hg (N' := 3) ?hd (xs := ([(⟨t131, t132, t133, t134, t137⟩ : S25)] : List (S25))) (inner := [.int .i64 t131, .string t132, .string t133, .slice Ao22 t134.length co22, .slice Ao23 t137.length co23]) (ok := (fun _ => True)) (okp := (fun _ => True)) ?hr ?hp (fun _ hk => hk) ((show ∀ k_, w21.heap.size ≤ k_ → (fun _ => True) k_ from fun k_ hk => trivial) _ (Nat.le_refl _)) (Below.refl _ _) (Nat.le_refl _) (by simp) ?_; (case hd => rfl); (case hg => rfl); (case hr => first | (go_simp; done) | (go_simp; rfl)); (case hp => exact (Reps.c5 (show Kd.FK k25 _ _ (⟨t131, t132, t133, t134, t137⟩ : S25) [.int .i64 t131, .string t132, .string t133, .slice Ao22 t134.length co22, .slice Ao23 t137.length co23] from (k25_mkF _ _ (⟨t131, t132, t133, t134, t137⟩ : S25) (Kd.R_reads' (Kd.R_mono (ok' := (fun _ => True)) (HO136.out) (fun k_ hk => trivial))).2.1 (Kd.R_F (Kd.R_mono (ok' := (fun _ => True)) (HO136.out) (fun k_ hk => trivial))) (Kd.N_reads' (Kd.N_mono (ok' := (fun _ => True)) (HO139.out) (fun k_ hk => trivial))).2.1 (Kd.N_F (Kd.N_mono (ok' := (fun _ => True)) (HO139.out) (fun k_ hk => trivial))))) (Reps.none _ _))); intro v141 w24 ho25 hb hg_ hnew_; clear hg_ hnew_; (first | rw [← Ny140.out] at ho25 | (simp only [Int.reduceToNat] at ho25; rw [← Ny140.out] at ho25)); have n0_ := Aside0.mk (Kd.N_lower ho25 (below_size (by repeat (first | (with_reducible first | exact HB.out | apply below_alloc | apply pw_below_drewN | apply below_drew1) | exact HB.out)))); have n1_ := Aside0.mk (below_step (by repeat (first | (with_reducible first | exact HB.out | apply below_alloc | apply pw_below_drewN | apply below_drew1) | exact HB.out)) hb); clear HB; clear HO136; clear HO139; have HO142 := n0_; have HB := n1_; clear n0_ n1_; clear hb ho25; obtain ⟨Ao26, co26, eo26⟩ := Kd.N_slice HO142.out; subst eo26) | ((with_reducible refine gate_callee (f := 19) rfl ?_); refine goesL_ (some 4) rfl rfl Tryd.func19 (by kernel_rfl) rfl #[.string (⟨#[112]⟩ : ByteArray), .slice Ao26 y140.length co26] rfl (by (try simp only [List.map_toArray, List.map_cons, List.map_nil]); first | done | rfl | (simp only [List.length_drop, List.length_take]; rfl)) ?_; (with_reducible refine (laws_tag29.calls (⟨#[112]⟩ : ByteArray) (fun k_ => True) _ _ y140 t143 t144 t145 t146 t149 _ ?side1 A2.out).mono ?_); (case side1 => exact Kd.N_V (HO142.out)); rintro e w27 ⟨v147, v150, rfl, ho0, ho1, hb⟩; refine ⟨_, rfl, ?_⟩; have n0_ := Aside0.mk (Kd.N_elder' (by (with_reducible repeat (first | apply Kd.N_alloc | apply Kd.N_drewN | apply Kd.N_drew)); exact HO142.out) (Kd.R_base ho0) hb); have n1_ := Aside0.mk (Kd.R_lower (Kd.R_mono (ok' := fun k_ => True) ho0 (fun _ hk_ => trivial)) (below_size (by repeat (first | (with_reducible first | exact HB.out | apply below_alloc | apply pw_below_drewN | apply below_drew1) | exact HB.out)))); have n2_ := Aside0.mk (Kd.V_lower (Kd.V_mono (ok' := fun k_ => some k_ ≠ (v147 : Value).ownBlock) ho1 (fun k_ hk_ => hk_.2)) (below_size (by repeat (first | (with_reducible first | exact HB.out | apply below_alloc | apply pw_below_drewN | apply below_drew1) | exact HB.out)))); have n3_ := Aside0.mk (below_step (by repeat (first | (with_reducible first | exact HB.out | apply below_alloc | apply pw_below_drewN | apply below_drew1) | exact HB.out)) hb); clear HO142; clear HB; have HO142 := n0_; have HO148 := n1_; have HO151 := n2_; have HB := n3_; clear n0_ n1_ n2_ n3_; (try clear hb); (try clear hb2); (try clear hk); (try clear hi); (try clear ho0); (try clear ho1)) | ((with_reducible refine gate_dst (N := 1) rfl ?_); (try (refine gate_guard (by rfl) ?_; dsimp only)); refine box_event ?hg (N := 1) ?hd (cs := #[.int .i64 0, .string (⟨#[]⟩ : ByteArray), .string (⟨#[]⟩ : ByteArray), .slice none 0 0, .slice none 0 0]) (t := 25) ?hr ?_; (case hd => rfl); (case hg => rfl); (case hr => first | (go_simp; done) | (go_simp; rfl)); intro gb152 hg w28 hbox hb; have n0_ := Aside0.mk (Kd.N_below (Kd.N_elderB (by (with_reducible repeat (first | apply Kd.N_alloc | apply Kd.N_drewN | apply Kd.N_drew)); exact HO142.out) gb152 (Nat.le_of_eq hg.symm)) hb); have n1_ := Aside0.mk (Kd.R_below (by (with_reducible repeat (first | apply Kd.R_alloc | apply Kd.R_drewN | apply Kd.R_drew)); exact HO148.out) hb); have n2_ := Aside0.mk (Kd.V_below (Kd.V_elderB (by (with_reducible repeat (first | apply Kd.V_alloc | apply Kd.V_drewN | apply Kd.V_drew)); exact HO151.out) gb152 (Nat.le_of_eq hg.symm)) hb); have n3_ := Aside0.mk (below_step (by repeat (first | (with_reducible first | exact HB.out | apply below_alloc | apply pw_below_drewN | apply below_drew1) | exact HB.out)) hb); have n4_ := Aside0.mk (hbox); have n5_ := Aside0.mk ((by rw [hg]; exact (below_size (by repeat (first | (with_reducible first | exact HB.out | apply below_alloc | apply pw_below_drewN | apply below_drew1) | exact HB.out))) : w.heap.size ≤ gb152)); have n6_ := Aside0.mk ((by rw [hg]; exact (below_size (by repeat (first | (with_reducible first | exact HB.out | apply below_alloc | apply pw_below_drewN | apply below_drew1) | exact HB.out))) : w.heap.size ≤ gb152)); clear HO142; clear HO148; clear HO151; clear HB; have HO142 := n0_; have HO148 := n1_; have HO151 := n2_; have HB := n3_; have BK152 := n4_; have GW152 := n5_; have GE152 := n6_; clear n0_ n1_ n2_ n3_ n4_ n5_ n6_; clear hb hbox hg; have hcz29_0 : w28.cell? ⟨gb152, 0, none⟩ = some (.int .i64 0) := (blk_cell BK152.out 0).trans rfl; have hcz29_1 : w28.cell? ⟨gb152, 1, none⟩ = some (.string (⟨#[]⟩ : ByteArray)) := (blk_cell BK152.out 1).trans rfl; have hcz29_2 : w28.cell? ⟨gb152, 2, none⟩ = some (.string (⟨#[]⟩ : ByteArray)) := (blk_cell BK152.out 2).trans rfl; have hcz29_3 : w28.cell? ⟨gb152, 3, none⟩ = some (.slice none 0 0) := (blk_cell BK152.out 3).trans rfl; have hcz29_4 : w28.cell? ⟨gb152, 4, none⟩ = some (.slice none 0 0) := (blk_cell BK152.out 4).trans rfl; have hfz29_0 := blk_frozen BK152.out 0; have hfz29_1 := blk_frozen BK152.out 1; have hfz29_2 := blk_frozen BK152.out 2; have hfz29_3 := blk_frozen BK152.out 3; have hfz29_4 := blk_frozen BK152.out 4; obtain ⟨Ao30, co30, eo30⟩ := Kd.R_slice HO148.out; subst eo30; obtain ⟨Ao31, co31, eo31⟩ := Kd.V_slice HO151.out; subst eo31) | ((with_reducible refine gate_callee (f := 21) rfl ?_); refine goesL_ (some 6) rfl rfl Tryd.func21 (by kernel_rfl) rfl #[.agg #[.int .i64 t143, .string t144, .string t145, .slice Ao30 t146.length co30, .slice Ao31 t149.length co31]] rfl (by (try simp only [List.map_toArray, List.map_cons, List.map_nil]); first | done | rfl | (simp only [List.length_drop, List.length_take]; rfl)) ?_; (with_reducible refine (impl_NameOf.calls k t143 t144 t145 _ _ t146 _ _ t149 t153 _ ?side1 ?side2 ?side3 ?side4 A3.out).mono ?_); (case side1 => refine (Kd.R_reads' (e := 31) (base := w.heap.size) (ok := fun k_ => True) (n := t146.length) (c := co30) ?_).2.2; exact (by (with_reducible repeat (first | apply Kd.R_alloc | apply Kd.R_drewN | apply Kd.R_drew)); exact (Kd.R_mono (Kd.R_far (p := ⟨gb152, 4, none⟩) (Kd.R_far (p := ⟨gb152, 3, none⟩) (Kd.R_far (p := ⟨gb152, 2, none⟩) (Kd.R_far (p := ⟨gb152, 1, none⟩) (Kd.R_far (p := ⟨gb152, 0, none⟩) (Kd.R_types HO148.out BK152.out (by decide)) (fun _ hk => hk.2) (.int .i64 t143)) (fun _ hk => hk.2) (.string t144)) (fun _ hk => hk.2) (.string t145)) (fun _ hk => hk.2) (.slice Ao30 t146.length co30)) (fun _ hk => hk.2) (.slice Ao31 t149.length co31)) (fun _ h_ => h_.1)))); (case side2 => exact (Kd.R_reads' HO148.out).2.1); (case side3 => refine (Kd.V_reads' (e := 25) (base := w.heap.size) (ok := fun k_ => (some k_ ≠ (.slice Ao30 t146.length co30 : Value).ownBlock ∧ k_ ≠ gb152)) (n := t149.length) (c := co31) ?_).2.2; exact (by (with_reducible repeat (first | apply Kd.V_alloc | apply Kd.V_drewN | apply Kd.V_drew)); exact (Kd.V_mono (Kd.V_far (p := ⟨gb152, 4, none⟩) (Kd.V_far (p := ⟨gb152, 3, none⟩) (Kd.V_far (p := ⟨gb152, 2, none⟩) (Kd.V_far (p := ⟨gb152, 1, none⟩) (Kd.V_far (p := ⟨gb152, 0, none⟩) (Kd.V_mono HO151.out (fun k_ hk => (⟨hk, hk.2⟩ : _ ∧ k_ ≠ gb152))) (fun _ hk => hk.2) (.int .i64 t143)) (fun _ hk => hk.2) (.string t144)) (fun _ hk => hk.2) (.string t145)) (fun _ hk => hk.2) (.slice Ao30 t146.length co30)) (fun _ hk => hk.2) (.slice Ao31 t149.length co31)) (fun _ h_ => h_.1)))); (case side4 => exact (Kd.V_reads' HO151.out).2.1); rintro e w32 ⟨rfl, hb⟩; refine ⟨_, rfl, ?_⟩; have n0_ := Aside0.mk (Kd.N_below (by (with_reducible repeat (first | apply Kd.N_alloc | apply Kd.N_drewN | apply Kd.N_drew)); exact (Kd.N_mono (Kd.N_far (p := ⟨gb152, 4, none⟩) (Kd.N_far (p := ⟨gb152, 3, none⟩) (Kd.N_far (p := ⟨gb152, 2, none⟩) (Kd.N_far (p := ⟨gb152, 1, none⟩) (Kd.N_far (p := ⟨gb152, 0, none⟩) (Kd.N_mono HO142.out (fun k_ hk => (⟨hk, hk.2⟩ : _ ∧ k_ ≠ gb152))) (fun _ hk => hk.2) (.int .i64 t143)) (fun _ hk => hk.2) (.string t144)) (fun _ hk => hk.2) (.string t145)) (fun _ hk => hk.2) (.slice Ao30 t146.length co30)) (fun _ hk => hk.2) (.slice Ao31 t149.length co31)) (fun _ h_ => h_.1))) hb); have n1_ := Aside0.mk (Kd.R_below (by (with_reducible repeat (first | apply Kd.R_alloc | apply Kd.R_drewN | apply Kd.R_drew)); exact (Kd.R_mono (Kd.R_far (p := ⟨gb152, 4, none⟩) (Kd.R_far (p := ⟨gb152, 3, none⟩) (Kd.R_far (p := ⟨gb152, 2, none⟩) (Kd.R_far (p := ⟨gb152, 1, none⟩) (Kd.R_far (p := ⟨gb152, 0, none⟩) (Kd.R_types HO148.out BK152.out (by decide)) (fun _ hk => hk.2) (.int .i64 t143)) (fun _ hk => hk.2) (.string t144)) (fun _ hk => hk.2) (.string t145)) (fun _ hk => hk.2) (.slice Ao30 t146.length co30)) (fun _ hk => hk.2) (.slice Ao31 t149.length co31)) (fun _ h_ => h_.1))) hb); have n2_ := Aside0.mk (Kd.V_below (by (with_reducible repeat (first | apply Kd.V_alloc | apply Kd.V_drewN | apply Kd.V_drew)); exact (Kd.V_mono (Kd.V_far (p := ⟨gb152, 4, none⟩) (Kd.V_far (p := ⟨gb152, 3, none⟩) (Kd.V_far (p := ⟨gb152, 2, none⟩) (Kd.V_far (p := ⟨gb152, 1, none⟩) (Kd.V_far (p := ⟨gb152, 0, none⟩) (Kd.V_mono HO151.out (fun k_ hk => (⟨hk, hk.2⟩ : _ ∧ k_ ≠ gb152))) (fun _ hk => hk.2) (.int .i64 t143)) (fun _ hk => hk.2) (.string t144)) (fun _ hk => hk.2) (.string t145)) (fun _ hk => hk.2) (.slice Ao30 t146.length co30)) (fun _ hk => hk.2) (.slice Ao31 t149.length co31)) (fun _ h_ => h_.1))) hb); have n3_ := Aside0.mk (blk_below (g := gb152) (o := .cells #[.int .i64 t143, .string t144, .string t145, .slice Ao30 t146.length co30, .slice Ao31 t149.length co31] 25 (0, 0)) (by (with_reducible repeat (first | refine blk_drewN ?_ _ | refine blk_drew ?_ | refine blk_alloc ?_ _)); refine blk_put (cs := #[.int .i64 t143, .string t144, .string t145, .slice Ao30 t146.length co30, .slice none 0 0]) ?_ 4 _ rfl; (with_reducible repeat (first | refine blk_drewN ?_ _ | refine blk_drew ?_ | refine blk_alloc ?_ _)); refine blk_put (cs := #[.int .i64 t143, .string t144, .string t145, .slice none 0 0, .slice none 0 0]) ?_ 3 _ rfl; (with_reducible repeat (first | refine blk_drewN ?_ _ | refine blk_drew ?_ | refine blk_alloc ?_ _)); refine blk_put (cs := #[.int .i64 t143, .string t144, .string (⟨#[]⟩ : ByteArray), .slice none 0 0, .slice none 0 0]) ?_ 2 _ rfl; (with_reducible repeat (first | refine blk_drewN ?_ _ | refine blk_drew ?_ | refine blk_alloc ?_ _)); refine blk_put (cs := #[.int .i64 t143, .string (⟨#[]⟩ : ByteArray), .string (⟨#[]⟩ : ByteArray), .slice none 0 0, .slice none 0 0]) ?_ 1 _ rfl; (with_reducible repeat (first | refine blk_drewN ?_ _ | refine blk_drew ?_ | refine blk_alloc ?_ _)); refine blk_put (cs := #[.int .i64 0, .string (⟨#[]⟩ : ByteArray), .string (⟨#[]⟩ : ByteArray), .slice none 0 0, .slice none 0 0]) ?_ 0 _ rfl; (with_reducible repeat (first | refine blk_drewN ?_ _ | refine blk_drew ?_ | refine blk_alloc ?_ _)); exact BK152.out) hb); have n4_ := Aside0.mk (below_step (by repeat (first | (with_reducible first | exact HB.out | apply below_alloc | apply pw_below_drewN | apply below_drew1 | refine below_set ?_ GE152.out) | exact HB.out)) hb); clear HO142; clear HO148; clear HO151; clear BK152; clear HB; have HO142 := n0_; have HO148 := n1_; have HO151 := n2_; have BK152 := n3_; have HB := n4_; clear n0_ n1_ n2_ n3_ n4_; (try clear hb); (try clear hb2); (try clear hk); (try clear hi)))
    go_ret
    exact ⟨by first | rfl | (simp [errW_none, errW_some] <;> rfl) | (simp [*, errW_none, errW_some] <;> rfl), by repeat (first | (with_reducible first | exact HB.out | apply below_alloc | apply pw_below_drewN | apply below_drew1 | refine below_set ?_ GE152.out) | exact HB.out)⟩



-- NOT PRINTED: function 34 (dom_GetAttribute)

-- NOT PRINTED: function 38 (strings_FieldsFunc)

-- NOT PRINTED: function 46 (unicode_is16)

-- NOT PRINTED: function 47 (unicode_is32)

-- NOT PRINTED: function 42 (unicode_isExcludingLatin)

-- NOT PRINTED: function 39 (unicode_IsSpace)

-- NOT PRINTED: function 35 (strings_Fields)

-- NOT PRINTED: function 23 (dom_GetClasses)


-- NOT PRINTED: function 24 (dom_HasClass)
end Go.Proofs.YtibfoaahdbdogaaDoor.PDom

/- Printed by the program extprint.py of this session, out of the kit's print and contracts of this session's own; Lean checks it. -/
namespace Go.Proofs.YtibfoaahdbdogaaDoor.PDom
open Go.RowKit Go.Proofs.YtibfoaahdbdogaaDoorW.PrintWords Go.Proofs.YtibfoaahdbdogaaDoorW.PrintLast Go.Proofs.YtibfoaahdbdogaaDoorW.PrintMore
attribute [local go_sem] max2_int min2_int max_two min_two max_three min_three max_four min_four   -- for this text's walks alone
set_option linter.unusedVariables false
set_option linter.unusedSimpArgs false


/-! ### laws_FnDomClasses: function 4 -/
mutual
def laws_FnDomClasses.j0 : Nat → ByteArray → Bool → Int → ByteArray → ByteArray → List (S31) → List (S25) → Option (Bool)
  | 0, _, _, _, _, _, _, _ => none
  | k + 1, x1, x19, x178000, x178001, x178002, x178003, x178004 => if x19 = true then (some true) else ((laws_tree29.f k x178000 x178001 x178002 x178003 x178004).bind fun t179 => (if t179 = true then (laws_FnDomClasses.l0 k x1 ([] : List ByteArray) x178003 (x178003.length : Int) 0 x178000 x178001 x178002 x178003 x178004) else (some true)))
def laws_FnDomClasses.l0 : Nat → ByteArray → List ByteArray → List (S31) → Int → Int → Int → ByteArray → ByteArray → List (S31) → List (S25) → Option (Bool)
  | 0, _, _, _, _, _, _, _, _, _, _ => none
  | k + 1, x1, x5, x24, x25, x26, x178000, x178001, x178002, x178003, x178004 => if x26 < x25 then (if 0 ≤ x26 then (if x26 < (x24.length : Int) then (if ((rd_T31 x24 x26).f0).toList = ([99, 108, 97, 115, 115] : List UInt8) then (laws_FnDomClasses.l1 k x1 x24 x25 x26 (((rd_T31 x24 x26).f1).size : Int) 0 x178000 x178001 x178002 x178003 x178004 ((rd_T31 x24 x26).f0) ((rd_T31 x24 x26).f1)) else (laws_FnDomClasses.l0 k x1 x5 x24 x25 (wrap64 (x26 + 1)) x178000 x178001 x178002 x178003 x178004)) else (none)) else (none)) else (laws_FnDomClasses.l2 k x1 x5 false x5 (x5.length : Int) 0 x178000 x178001 x178002 x178003 x178004)
def laws_FnDomClasses.l1 : Nat → ByteArray → List (S31) → Int → Int → Int → Int → Int → ByteArray → ByteArray → List (S31) → List (S25) → ByteArray → ByteArray → Option (Bool)
  | 0, _, _, _, _, _, _, _, _, _, _, _, _, _ => none
  | k + 1, x1, x24, x25, x26, x35, x36, x178000, x178001, x178002, x178003, x178004, x182000, x182001 => if x36 < x35 then (if 0 ≤ x36 then (if x36 < (x182001.size : Int) then (if (bt x182001 x36) ≥ 128 then (some true) else (laws_FnDomClasses.l1 k x1 x24 x25 x26 x35 (wrap64 (x36 + 1)) x178000 x178001 x178002 x178003 x178004 x182000 x182001)) else (none)) else (none)) else ((spec_Words29.f k x182001).bind fun t182 => (laws_FnDomClasses.l0 k x1 t182 x24 x25 (wrap64 (x26 + 1)) x178000 x178001 x178002 x178003 x178004))
def laws_FnDomClasses.l2 : Nat → ByteArray → List ByteArray → Bool → List ByteArray → Int → Int → Int → ByteArray → ByteArray → List (S31) → List (S25) → Option (Bool)
  | 0, _, _, _, _, _, _, _, _, _, _, _ => none
  | k + 1, x1, x5, x9, x49, x50, x51, x178000, x178001, x178002, x178003, x178004 => if x51 < x50 then (if 0 ≤ x51 then (if x51 < (x49.length : Int) then (if x9 = true then (laws_FnDomClasses.l2 k x1 x5 true x49 x50 (wrap64 (x51 + 1)) x178000 x178001 x178002 x178003 x178004) else (laws_FnDomClasses.l2 k x1 x5 ((rdOf ByteArray.empty x49 x51).toList == x1.toList) x49 x50 (wrap64 (x51 + 1)) x178000 x178001 x178002 x178003 x178004)) else (none)) else (none)) else ((impl_Classes.f k x178000 x178001 x178002 x178003 x178004).bind fun t186 => ((laws_same29.f k t186 x5).bind fun t189 => (if t189 = true then ((impl_HasClass.f k x178000 x178001 x178002 x178003 x178004 x1).bind fun t190 => (if (t190 == x9) = true then ((laws_living29.f k).bind fun t191 => (some t191)) else (some false))) else (some false))))
end
def laws_FnDomClasses.f (k : Nat) (a0_0 : Int) (a0_1 : ByteArray) (a0_2 : ByteArray) (l0_3 : List (S31)) (l0_4 : List (S25)) (a1 : ByteArray) : Option (Bool) := (laws_zzFits2.f k a0_0 a0_1 a0_2 l0_3 l0_4).bind fun t178 => (if t178 = true then (laws_FnDomClasses.j0 k a1 (decide ((a1.size : Int) > 2147483647)) a0_0 a0_1 a0_2 l0_3 l0_4) else (laws_FnDomClasses.j0 k a1 true a0_0 a0_1 a0_2 l0_3 l0_4))
theorem laws_FnDomClasses.mono_l : ∀ k, (∀ y0 y1 y2 y3 y4 y5 y6, LeO (laws_FnDomClasses.j0 k y0 y1 y2 y3 y4 y5 y6) (laws_FnDomClasses.j0 (k + 1) y0 y1 y2 y3 y4 y5 y6)) ∧ (∀ y0 y1 y2 y3 y4 y5 y6 y7 y8 y9, LeO (laws_FnDomClasses.l0 k y0 y1 y2 y3 y4 y5 y6 y7 y8 y9) (laws_FnDomClasses.l0 (k + 1) y0 y1 y2 y3 y4 y5 y6 y7 y8 y9)) ∧ (∀ y0 y1 y2 y3 y4 y5 y6 y7 y8 y9 y10 y11 y12, LeO (laws_FnDomClasses.l1 k y0 y1 y2 y3 y4 y5 y6 y7 y8 y9 y10 y11 y12) (laws_FnDomClasses.l1 (k + 1) y0 y1 y2 y3 y4 y5 y6 y7 y8 y9 y10 y11 y12)) ∧ (∀ y0 y1 y2 y3 y4 y5 y6 y7 y8 y9 y10, LeO (laws_FnDomClasses.l2 k y0 y1 y2 y3 y4 y5 y6 y7 y8 y9 y10) (laws_FnDomClasses.l2 (k + 1) y0 y1 y2 y3 y4 y5 y6 y7 y8 y9 y10))
  | 0 => ⟨fun _ _ _ _ _ _ _ r h => by simp [laws_FnDomClasses.j0] at h, fun _ _ _ _ _ _ _ _ _ _ r h => by simp [laws_FnDomClasses.l0] at h, fun _ _ _ _ _ _ _ _ _ _ _ _ _ r h => by simp [laws_FnDomClasses.l1] at h, fun _ _ _ _ _ _ _ _ _ _ _ r h => by simp [laws_FnDomClasses.l2] at h⟩
  | k + 1 => by
    obtain ⟨ih0, ih1, ih2, ih3⟩ := laws_FnDomClasses.mono_l k
    refine ⟨?_, ?_, ?_, ?_⟩
    · intro y0 y1 y2 y3 y4 y5 y6
      unfold laws_FnDomClasses.j0
      repeat' first
      | (with_reducible exact ih0 _ _ _ _ _ _ _)
      | (with_reducible exact ih1 _ _ _ _ _ _ _ _ _ _)
      | (with_reducible exact ih2 _ _ _ _ _ _ _ _ _ _ _ _ _)
      | (with_reducible exact ih3 _ _ _ _ _ _ _ _ _ _ _)
      | (with_reducible exact impl_Classes.mono _ _ _ _ _ _)
      | (with_reducible exact impl_HasClass.mono _ _ _ _ _ _ _)
      | (with_reducible exact laws_living29.mono _)
      | (with_reducible exact laws_same29.mono _ _ _)
      | (with_reducible exact laws_tree29.mono _ _ _ _ _ _)
      | (with_reducible exact laws_zzFits2.mono _ _ _ _ _ _)
      | (with_reducible exact spec_Words29.mono _ _)
      | (with_reducible exact LeO.refl _)
      | (with_reducible exact LeO.none _)
      | (with_reducible refine LeO.ite ?_ ?_)
      | (with_reducible refine LeO.bind ?_ (fun _ => ?_))
      | exact ih0 _ _ _ _ _ _ _
      | exact ih1 _ _ _ _ _ _ _ _ _ _
      | exact ih2 _ _ _ _ _ _ _ _ _ _ _ _ _
      | exact ih3 _ _ _ _ _ _ _ _ _ _ _
      | exact impl_Classes.mono _ _ _ _ _ _
      | exact impl_HasClass.mono _ _ _ _ _ _ _
      | exact laws_living29.mono _
      | exact laws_same29.mono _ _ _
      | exact laws_tree29.mono _ _ _ _ _ _
      | exact laws_zzFits2.mono _ _ _ _ _ _
      | exact spec_Words29.mono _ _
      | exact LeO.none _
      | refine LeO.ite ?_ ?_
      | refine LeO.bind ?_ (fun _ => ?_)
    · intro y0 y1 y2 y3 y4 y5 y6 y7 y8 y9
      unfold laws_FnDomClasses.l0
      repeat' first
      | (with_reducible exact ih0 _ _ _ _ _ _ _)
      | (with_reducible exact ih1 _ _ _ _ _ _ _ _ _ _)
      | (with_reducible exact ih2 _ _ _ _ _ _ _ _ _ _ _ _ _)
      | (with_reducible exact ih3 _ _ _ _ _ _ _ _ _ _ _)
      | (with_reducible exact impl_Classes.mono _ _ _ _ _ _)
      | (with_reducible exact impl_HasClass.mono _ _ _ _ _ _ _)
      | (with_reducible exact laws_living29.mono _)
      | (with_reducible exact laws_same29.mono _ _ _)
      | (with_reducible exact laws_tree29.mono _ _ _ _ _ _)
      | (with_reducible exact laws_zzFits2.mono _ _ _ _ _ _)
      | (with_reducible exact spec_Words29.mono _ _)
      | (with_reducible exact LeO.refl _)
      | (with_reducible exact LeO.none _)
      | (with_reducible refine LeO.ite ?_ ?_)
      | (with_reducible refine LeO.bind ?_ (fun _ => ?_))
      | exact ih0 _ _ _ _ _ _ _
      | exact ih1 _ _ _ _ _ _ _ _ _ _
      | exact ih2 _ _ _ _ _ _ _ _ _ _ _ _ _
      | exact ih3 _ _ _ _ _ _ _ _ _ _ _
      | exact impl_Classes.mono _ _ _ _ _ _
      | exact impl_HasClass.mono _ _ _ _ _ _ _
      | exact laws_living29.mono _
      | exact laws_same29.mono _ _ _
      | exact laws_tree29.mono _ _ _ _ _ _
      | exact laws_zzFits2.mono _ _ _ _ _ _
      | exact spec_Words29.mono _ _
      | exact LeO.none _
      | refine LeO.ite ?_ ?_
      | refine LeO.bind ?_ (fun _ => ?_)
    · intro y0 y1 y2 y3 y4 y5 y6 y7 y8 y9 y10 y11 y12
      unfold laws_FnDomClasses.l1
      repeat' first
      | (with_reducible exact ih0 _ _ _ _ _ _ _)
      | (with_reducible exact ih1 _ _ _ _ _ _ _ _ _ _)
      | (with_reducible exact ih2 _ _ _ _ _ _ _ _ _ _ _ _ _)
      | (with_reducible exact ih3 _ _ _ _ _ _ _ _ _ _ _)
      | (with_reducible exact impl_Classes.mono _ _ _ _ _ _)
      | (with_reducible exact impl_HasClass.mono _ _ _ _ _ _ _)
      | (with_reducible exact laws_living29.mono _)
      | (with_reducible exact laws_same29.mono _ _ _)
      | (with_reducible exact laws_tree29.mono _ _ _ _ _ _)
      | (with_reducible exact laws_zzFits2.mono _ _ _ _ _ _)
      | (with_reducible exact spec_Words29.mono _ _)
      | (with_reducible exact LeO.refl _)
      | (with_reducible exact LeO.none _)
      | (with_reducible refine LeO.ite ?_ ?_)
      | (with_reducible refine LeO.bind ?_ (fun _ => ?_))
      | exact ih0 _ _ _ _ _ _ _
      | exact ih1 _ _ _ _ _ _ _ _ _ _
      | exact ih2 _ _ _ _ _ _ _ _ _ _ _ _ _
      | exact ih3 _ _ _ _ _ _ _ _ _ _ _
      | exact impl_Classes.mono _ _ _ _ _ _
      | exact impl_HasClass.mono _ _ _ _ _ _ _
      | exact laws_living29.mono _
      | exact laws_same29.mono _ _ _
      | exact laws_tree29.mono _ _ _ _ _ _
      | exact laws_zzFits2.mono _ _ _ _ _ _
      | exact spec_Words29.mono _ _
      | exact LeO.none _
      | refine LeO.ite ?_ ?_
      | refine LeO.bind ?_ (fun _ => ?_)
    · intro y0 y1 y2 y3 y4 y5 y6 y7 y8 y9 y10
      unfold laws_FnDomClasses.l2
      repeat' first
      | (with_reducible exact ih0 _ _ _ _ _ _ _)
      | (with_reducible exact ih1 _ _ _ _ _ _ _ _ _ _)
      | (with_reducible exact ih2 _ _ _ _ _ _ _ _ _ _ _ _ _)
      | (with_reducible exact ih3 _ _ _ _ _ _ _ _ _ _ _)
      | (with_reducible exact impl_Classes.mono _ _ _ _ _ _)
      | (with_reducible exact impl_HasClass.mono _ _ _ _ _ _ _)
      | (with_reducible exact laws_living29.mono _)
      | (with_reducible exact laws_same29.mono _ _ _)
      | (with_reducible exact laws_tree29.mono _ _ _ _ _ _)
      | (with_reducible exact laws_zzFits2.mono _ _ _ _ _ _)
      | (with_reducible exact spec_Words29.mono _ _)
      | (with_reducible exact LeO.refl _)
      | (with_reducible exact LeO.none _)
      | (with_reducible refine LeO.ite ?_ ?_)
      | (with_reducible refine LeO.bind ?_ (fun _ => ?_))
      | exact ih0 _ _ _ _ _ _ _
      | exact ih1 _ _ _ _ _ _ _ _ _ _
      | exact ih2 _ _ _ _ _ _ _ _ _ _ _ _ _
      | exact ih3 _ _ _ _ _ _ _ _ _ _ _
      | exact impl_Classes.mono _ _ _ _ _ _
      | exact impl_HasClass.mono _ _ _ _ _ _ _
      | exact laws_living29.mono _
      | exact laws_same29.mono _ _ _
      | exact laws_tree29.mono _ _ _ _ _ _
      | exact laws_zzFits2.mono _ _ _ _ _ _
      | exact spec_Words29.mono _ _
      | exact LeO.none _
      | refine LeO.ite ?_ ?_
      | refine LeO.bind ?_ (fun _ => ?_)
theorem laws_FnDomClasses.mono : ∀ a0 a1 a2 a3 a4 a5 k, LeO (laws_FnDomClasses.f k a0 a1 a2 a3 a4 a5) (laws_FnDomClasses.f (k + 1) a0 a1 a2 a3 a4 a5) := by
  intro a0 a1 a2 a3 a4 a5 k
  obtain ⟨ih0, ih1, ih2, ih3⟩ := laws_FnDomClasses.mono_l k
  unfold laws_FnDomClasses.f
  repeat' first
      | (with_reducible exact ih0 _ _ _ _ _ _ _)
      | (with_reducible exact ih1 _ _ _ _ _ _ _ _ _ _)
      | (with_reducible exact ih2 _ _ _ _ _ _ _ _ _ _ _ _ _)
      | (with_reducible exact ih3 _ _ _ _ _ _ _ _ _ _ _)
      | (with_reducible exact impl_Classes.mono _ _ _ _ _ _)
      | (with_reducible exact impl_HasClass.mono _ _ _ _ _ _ _)
      | (with_reducible exact laws_living29.mono _)
      | (with_reducible exact laws_same29.mono _ _ _)
      | (with_reducible exact laws_tree29.mono _ _ _ _ _ _)
      | (with_reducible exact laws_zzFits2.mono _ _ _ _ _ _)
      | (with_reducible exact spec_Words29.mono _ _)
      | (with_reducible exact LeO.refl _)
      | (with_reducible exact LeO.none _)
      | (with_reducible refine LeO.ite ?_ ?_)
      | (with_reducible refine LeO.bind ?_ (fun _ => ?_))
      | exact ih0 _ _ _ _ _ _ _
      | exact ih1 _ _ _ _ _ _ _ _ _ _
      | exact ih2 _ _ _ _ _ _ _ _ _ _ _ _ _
      | exact ih3 _ _ _ _ _ _ _ _ _ _ _
      | exact impl_Classes.mono _ _ _ _ _ _
      | exact impl_HasClass.mono _ _ _ _ _ _ _
      | exact laws_living29.mono _
      | exact laws_same29.mono _ _ _
      | exact laws_tree29.mono _ _ _ _ _ _
      | exact laws_zzFits2.mono _ _ _ _ _ _
      | exact spec_Words29.mono _ _
      | exact LeO.none _
      | refine LeO.ite ?_ ?_
      | refine LeO.bind ?_ (fun _ => ?_)
set_option maxHeartbeats 8000000 in
set_option maxRecDepth 100000 in
theorem laws_FnDomClasses.calls (k : Nat) (a0_0 : Int) (a0_1 : ByteArray) (a0_2 : ByteArray) (A0_3 : Option Addr) (c0_3 : Nat) (l0_3 : List (S31)) (A0_4 : Option Addr) (c0_4 : Nat) (l0_4 : List (S25)) (a1 : ByteArray) (r : Bool) (w : World) (hr0_3 : Kd.C k31 w A0_3 l0_3.length l0_3) (hc0_3 : l0_3.length ≤ c0_3) (hr0_4 : Kd.C k25 w A0_4 l0_4.length l0_4) (hc0_4 : l0_4.length ≤ c0_4) (h : laws_FnDomClasses.f k a0_0 a0_1 a0_2 l0_3 l0_4 a1 = some r) (hcv : Go.Proofs.YtibfoaahdbdogaaDoor.Dom.CV w) :
    Calls Tryd.prog 4 #[.agg #[.int .i64 a0_0, .string a0_1, .string a0_2, .slice A0_3 l0_3.length c0_3, .slice A0_4 l0_4.length c0_4], .string a1] w fun e w' => e = .returned (.bool r) ∧ Below w.heap.size w w' := by
  have hu25 := Tryd.underlying25
  have hu31 := Tryd.underlying31
  have HR0_3 := Aside0.mk hr0_3
  have HC0_3 := Aside0.mk hc0_3
  clear hr0_3 hc0_3
  have HR0_4 := Aside0.mk hr0_4
  have HC0_4 := Aside0.mk hc0_4
  clear hr0_4 hc0_4
  have HCV := Aside0.mk hcv
  clear hcv
  have HB := Aside0.mk (Below.refl w.heap.size w)
  have H : ((laws_zzFits2.f k a0_0 a0_1 a0_2 l0_3 l0_4).bind fun t178 => (if t178 = true then (laws_FnDomClasses.j0 k a1 (decide ((a1.size : Int) > 2147483647)) a0_0 a0_1 a0_2 l0_3 l0_4) else (laws_FnDomClasses.j0 k a1 true a0_0 a0_1 a0_2 l0_3 l0_4))) = some r := h
  clear h
  have HC3 := Aside0.mk H
  clear H
  go_enter Tryd.func4, Tryd.ntmps4
  go_upto_region 1 with (first | ((with_reducible refine gate_dst (N := 2) rfl ?_); (try (refine gate_guard (by rfl) ?_; dsimp only)); refine box_event ?hg (N := 2) ?hd (cs := #[.int .i64 a0_0, .string a0_1, .string a0_2, .slice A0_3 l0_3.length c0_3, .slice A0_4 l0_4.length c0_4]) (t := 25) ?hr ?_; (case hd => rfl); (case hg => rfl); (case hr => first | (go_simp; done) | (go_simp; rfl)); intro gb177 hg w4 hbox hb; have n0_ := Aside0.mk (below_step (by repeat (first | (with_reducible first | exact HB.out | apply below_alloc | apply pw_below_drewN | apply below_drew1) | exact HB.out)) hb); have n1_ := Aside0.mk (hbox); have n2_ := Aside0.mk ((by rw [hg]; exact (below_size (by repeat (first | (with_reducible first | exact HB.out | apply below_alloc | apply pw_below_drewN | apply below_drew1) | exact HB.out))) : w.heap.size ≤ gb177)); have n3_ := Aside0.mk ((by rw [hg]; exact (below_size (by repeat (first | (with_reducible first | exact HB.out | apply below_alloc | apply pw_below_drewN | apply below_drew1) | exact HB.out))) : w.heap.size ≤ gb177)); clear HB; have HB := n0_; have BK177 := n1_; have GW177 := n2_; have GE177 := n3_; clear n0_ n1_ n2_ n3_; clear hb hbox hg))
  (try simp only [Act.put, List.setIfInBounds_toArray, List.set_cons_zero, List.set_cons_succ])
  go_cut [19] (fun v19 wc => ∃ (kq : Nat) (x19_2 : Bool), v19 = .bool x19_2 ∧ Aside0 (laws_FnDomClasses.j0 kq a1 x19_2 a0_0 a0_1 a0_2 l0_3 l0_4 = some r) ∧ Aside0 (kq ≤ k) ∧ Aside0 (wc.heap[gb177]? = some (.cells #[.int .i64 a0_0, .string a0_1, .string a0_2, (.slice A0_3 l0_3.length c0_3), (.slice A0_4 l0_4.length c0_4)] 25 (0, 0))) ∧ Aside0 (Below w.heap.size w wc))
  case first =>
    have H := HC3.out
    clear HC3
    replace H := Option.bind_eq_some_iff.mp H
    obtain ⟨t178, A50, H⟩ := H
    replace H : (if t178 = true then (laws_FnDomClasses.j0 k a1 (decide ((a1.size : Int) > 2147483647)) a0_0 a0_1 a0_2 l0_3 l0_4) else (laws_FnDomClasses.j0 k a1 true a0_0 a0_1 a0_2 l0_3 l0_4)) = some r := H
    have A5 := Aside0.mk A50
    clear A50
    by_cases c6 : t178 = true
    · subst c6
      have H1 : (laws_FnDomClasses.j0 k a1 (decide ((a1.size : Int) > 2147483647)) a0_0 a0_1 a0_2 l0_3 l0_4) = some r := by rw [if_pos rfl] at H; exact H
      clear H
      have H := H1
      clear H1
      have H' := Aside0.mk H
      clear H
      have hcz7_0 : w4.cell? ⟨gb177, 0, none⟩ = some (.int .i64 a0_0) := (blk_cell BK177.out 0).trans rfl
      have hcz7_1 : w4.cell? ⟨gb177, 1, none⟩ = some (.string a0_1) := (blk_cell BK177.out 1).trans rfl
      have hcz7_2 : w4.cell? ⟨gb177, 2, none⟩ = some (.string a0_2) := (blk_cell BK177.out 2).trans rfl
      have hcz7_3 : w4.cell? ⟨gb177, 3, none⟩ = some (.slice A0_3 l0_3.length c0_3) := (blk_cell BK177.out 3).trans rfl
      have hcz7_4 : w4.cell? ⟨gb177, 4, none⟩ = some (.slice A0_4 l0_4.length c0_4) := (blk_cell BK177.out 4).trans rfl
      have hfz7_0 := blk_frozen BK177.out 0
      have hfz7_1 := blk_frozen BK177.out 1
      have hfz7_2 := blk_frozen BK177.out 2
      have hfz7_3 := blk_frozen BK177.out 3
      have hfz7_4 := blk_frozen BK177.out 4
      go_wp2_with (first | ((with_reducible refine gate_callee (f := 5) rfl ?_); refine goesL_ (some 13) rfl rfl Tryd.func5 (by kernel_rfl) rfl #[.agg #[.int .i64 a0_0, .string a0_1, .string a0_2, .slice A0_3 l0_3.length c0_3, .slice A0_4 l0_4.length c0_4]] rfl (by (try simp only [List.map_toArray, List.map_cons, List.map_nil]); first | done | rfl | (simp only [List.length_drop, List.length_take]; rfl)) ?_; (with_reducible refine (laws_zzFits2.calls k a0_0 a0_1 a0_2 _ _ l0_3 _ _ l0_4 true _ ?side1 ?side2 ?side3 ?side4 A5.out).mono ?_); (case side1 => repeat (first | exact (Kd.C_below HR0_3.out HB.out) | (with_reducible refine Kd.C_alloc ?_ _) | (with_reducible refine Kd.C_drewN ?_ _) | (with_reducible refine Kd.C_drew ?_))); (case side2 => exact HC0_3.out); (case side3 => repeat (first | exact (Kd.C_below HR0_4.out HB.out) | (with_reducible refine Kd.C_alloc ?_ _) | (with_reducible refine Kd.C_drewN ?_ _) | (with_reducible refine Kd.C_drew ?_))); (case side4 => exact HC0_4.out); rintro e w8 ⟨rfl, hb⟩; refine ⟨_, rfl, ?_⟩; have n0_ := Aside0.mk (blk_below (g := gb177) (o := .cells #[.int .i64 a0_0, .string a0_1, .string a0_2, .slice A0_3 l0_3.length c0_3, .slice A0_4 l0_4.length c0_4] 25 (0, 0)) (by (with_reducible repeat (first | refine blk_drewN ?_ _ | refine blk_drew ?_ | refine blk_alloc ?_ _)); exact BK177.out) hb); have n1_ := Aside0.mk (below_step (by repeat (first | (with_reducible first | exact HB.out | apply below_alloc | apply pw_below_drewN | apply below_drew1 | refine below_set ?_ GE177.out) | exact HB.out)) hb); clear BK177; clear HB; have BK177 := n0_; have HB := n1_; clear n0_ n1_; (try clear hb); (try clear hb2); (try clear hk); (try clear hi)))
      go_meet
      case rel => exact ⟨_, (decide ((a1.size : Int) > 2147483647)), (by first | rfl | (simp; done) | (simp [*]; done)), H', ⟨by first | omega | exact Nat.le_refl _⟩, ⟨by (with_reducible repeat (first | refine blk_drewN ?_ _ | refine blk_drew ?_ | refine blk_alloc ?_ _)); exact BK177.out⟩, ⟨by repeat (first | (with_reducible first | exact HB.out | apply below_alloc | apply pw_below_drewN | apply below_drew1 | refine below_set ?_ GE177.out) | exact HB.out)⟩⟩
    · replace c6 := Bool.eq_false_iff.mpr c6
      subst c6
      have H1 : (laws_FnDomClasses.j0 k a1 true a0_0 a0_1 a0_2 l0_3 l0_4) = some r := by rw [if_neg (show ¬ (false = true) by decide)] at H; exact H
      clear H
      have H := H1
      clear H1
      have H' := Aside0.mk H
      clear H
      have hcz9_0 : w4.cell? ⟨gb177, 0, none⟩ = some (.int .i64 a0_0) := (blk_cell BK177.out 0).trans rfl
      have hcz9_1 : w4.cell? ⟨gb177, 1, none⟩ = some (.string a0_1) := (blk_cell BK177.out 1).trans rfl
      have hcz9_2 : w4.cell? ⟨gb177, 2, none⟩ = some (.string a0_2) := (blk_cell BK177.out 2).trans rfl
      have hcz9_3 : w4.cell? ⟨gb177, 3, none⟩ = some (.slice A0_3 l0_3.length c0_3) := (blk_cell BK177.out 3).trans rfl
      have hcz9_4 : w4.cell? ⟨gb177, 4, none⟩ = some (.slice A0_4 l0_4.length c0_4) := (blk_cell BK177.out 4).trans rfl
      have hfz9_0 := blk_frozen BK177.out 0
      have hfz9_1 := blk_frozen BK177.out 1
      have hfz9_2 := blk_frozen BK177.out 2
      have hfz9_3 := blk_frozen BK177.out 3
      have hfz9_4 := blk_frozen BK177.out 4
      go_wp2_with (first | ((with_reducible refine gate_callee (f := 5) rfl ?_); refine goesL_ (some 13) rfl rfl Tryd.func5 (by kernel_rfl) rfl #[.agg #[.int .i64 a0_0, .string a0_1, .string a0_2, .slice A0_3 l0_3.length c0_3, .slice A0_4 l0_4.length c0_4]] rfl (by (try simp only [List.map_toArray, List.map_cons, List.map_nil]); first | done | rfl | (simp only [List.length_drop, List.length_take]; rfl)) ?_; (with_reducible refine (laws_zzFits2.calls k a0_0 a0_1 a0_2 _ _ l0_3 _ _ l0_4 false _ ?side1 ?side2 ?side3 ?side4 A5.out).mono ?_); (case side1 => repeat (first | exact (Kd.C_below HR0_3.out HB.out) | (with_reducible refine Kd.C_alloc ?_ _) | (with_reducible refine Kd.C_drewN ?_ _) | (with_reducible refine Kd.C_drew ?_))); (case side2 => exact HC0_3.out); (case side3 => repeat (first | exact (Kd.C_below HR0_4.out HB.out) | (with_reducible refine Kd.C_alloc ?_ _) | (with_reducible refine Kd.C_drewN ?_ _) | (with_reducible refine Kd.C_drew ?_))); (case side4 => exact HC0_4.out); rintro e w10 ⟨rfl, hb⟩; refine ⟨_, rfl, ?_⟩; have n0_ := Aside0.mk (blk_below (g := gb177) (o := .cells #[.int .i64 a0_0, .string a0_1, .string a0_2, .slice A0_3 l0_3.length c0_3, .slice A0_4 l0_4.length c0_4] 25 (0, 0)) (by (with_reducible repeat (first | refine blk_drewN ?_ _ | refine blk_drew ?_ | refine blk_alloc ?_ _)); exact BK177.out) hb); have n1_ := Aside0.mk (below_step (by repeat (first | (with_reducible first | exact HB.out | apply below_alloc | apply pw_below_drewN | apply below_drew1 | refine below_set ?_ GE177.out) | exact HB.out)) hb); clear BK177; clear HB; have BK177 := n0_; have HB := n1_; clear n0_ n1_; (try clear hb); (try clear hb2); (try clear hk); (try clear hi)))
      go_meet
      case rel => exact ⟨_, (true), (by first | rfl | (simp; done) | (simp [*]; done)), H', ⟨by first | omega | exact Nat.le_refl _⟩, ⟨by (with_reducible repeat (first | refine blk_drewN ?_ _ | refine blk_drew ?_ | refine blk_alloc ?_ _)); exact BK177.out⟩, ⟨by repeat (first | (with_reducible first | exact HB.out | apply below_alloc | apply pw_below_drewN | apply below_drew1 | refine below_set ?_ GE177.out) | exact HB.out)⟩⟩
  case rest =>
    clear HC3
    try clear p2
    try clear c4
    try clear c5
    try clear c6
    try clear hcz7_0
    try clear hcz7_1
    try clear hcz7_2
    try clear hcz7_3
    try clear hcz7_4
    try clear hcz9_0
    try clear hcz9_1
    try clear hcz9_2
    try clear hcz9_3
    try clear hcz9_4
    try clear hfz7_0
    try clear hfz7_1
    try clear hfz7_2
    try clear hfz7_3
    try clear hfz7_4
    try clear hfz9_0
    try clear hfz9_1
    try clear hfz9_2
    try clear hfz9_3
    try clear hfz9_4
    obtain ⟨kq, x19_2, rfl, HA, HJ2, BK177, HB⟩ := hcut
    cases kq with
    | zero => exact absurd HA.out (by simp [laws_FnDomClasses.j0])
    | succ kj2 =>
      have H := HA.out
      clear HA
      simp only [laws_FnDomClasses.j0] at H
      by_cases c11 : x19_2 = true
      · subst c11
        have H1 : (some true) = some r := by rw [if_pos rfl] at H; exact H
        clear H
        have H := H1
        clear H1
        obtain rfl := Option.some.inj H
        go_wp2
        go_ret
        exact ⟨by first | rfl | (simp [errW_none, errW_some] <;> rfl) | (simp [*, errW_none, errW_some] <;> rfl), by repeat (first | (with_reducible first | exact HB.out | apply below_alloc | apply pw_below_drewN | apply below_drew1 | refine below_set ?_ GE177.out) | exact HB.out)⟩
      · replace c11 := Bool.eq_false_iff.mpr c11
        subst c11
        have H1 : ((laws_tree29.f kj2 a0_0 a0_1 a0_2 l0_3 l0_4).bind fun t179 => (if t179 = true then (laws_FnDomClasses.l0 kj2 a1 ([] : List ByteArray) l0_3 (l0_3.length : Int) 0 a0_0 a0_1 a0_2 l0_3 l0_4) else (some true))) = some r := by rw [if_neg (show ¬ (false = true) by decide)] at H; exact H
        clear H
        have H := H1
        clear H1
        replace H := Option.bind_eq_some_iff.mp H
        obtain ⟨t179, A120, H⟩ := H
        replace H : (if t179 = true then (laws_FnDomClasses.l0 kj2 a1 ([] : List ByteArray) l0_3 (l0_3.length : Int) 0 a0_0 a0_1 a0_2 l0_3 l0_4) else (some true)) = some r := H
        have A12 := Aside0.mk A120
        clear A120
        by_cases c13 : t179 = true
        · subst c13
          have H1 : (laws_FnDomClasses.l0 kj2 a1 ([] : List ByteArray) l0_3 (l0_3.length : Int) 0 a0_0 a0_1 a0_2 l0_3 l0_4) = some r := by rw [if_pos rfl] at H; exact H
          clear H
          have H := H1
          clear H1
          have H' := Aside0.mk H
          clear H
          have hcz14_0 : wc.cell? ⟨gb177, 0, none⟩ = some (.int .i64 a0_0) := (blk_cell BK177.out 0).trans rfl
          have hcz14_1 : wc.cell? ⟨gb177, 1, none⟩ = some (.string a0_1) := (blk_cell BK177.out 1).trans rfl
          have hcz14_2 : wc.cell? ⟨gb177, 2, none⟩ = some (.string a0_2) := (blk_cell BK177.out 2).trans rfl
          have hcz14_3 : wc.cell? ⟨gb177, 3, none⟩ = some (.slice A0_3 l0_3.length c0_3) := (blk_cell BK177.out 3).trans rfl
          have hcz14_4 : wc.cell? ⟨gb177, 4, none⟩ = some (.slice A0_4 l0_4.length c0_4) := (blk_cell BK177.out 4).trans rfl
          have hfz14_0 := blk_frozen BK177.out 0
          have hfz14_1 := blk_frozen BK177.out 1
          have hfz14_2 := blk_frozen BK177.out 2
          have hfz14_3 := blk_frozen BK177.out 3
          have hfz14_4 := blk_frozen BK177.out 4
          go_wp2_with (first | ((with_reducible refine gate_callee (f := 6) rfl ?_); refine goesL_ (some 21) rfl rfl Tryd.func6 (by kernel_rfl) rfl #[.agg #[.int .i64 a0_0, .string a0_1, .string a0_2, .slice A0_3 l0_3.length c0_3, .slice A0_4 l0_4.length c0_4]] rfl (by (try simp only [List.map_toArray, List.map_cons, List.map_nil]); first | done | rfl | (simp only [List.length_drop, List.length_take]; rfl)) ?_; (with_reducible refine (laws_tree29.calls kj2 a0_0 a0_1 a0_2 _ _ l0_3 _ _ l0_4 true _ ?side1 ?side2 ?side3 ?side4 A12.out).mono ?_); (case side1 => repeat (first | exact (Kd.C_below HR0_3.out HB.out) | (with_reducible refine Kd.C_alloc ?_ _) | (with_reducible refine Kd.C_drewN ?_ _) | (with_reducible refine Kd.C_drew ?_))); (case side2 => exact HC0_3.out); (case side3 => repeat (first | exact (Kd.C_below HR0_4.out HB.out) | (with_reducible refine Kd.C_alloc ?_ _) | (with_reducible refine Kd.C_drewN ?_ _) | (with_reducible refine Kd.C_drew ?_))); (case side4 => exact HC0_4.out); rintro e w15 ⟨rfl, hb⟩; refine ⟨_, rfl, ?_⟩; have n0_ := Aside0.mk (blk_below (g := gb177) (o := .cells #[.int .i64 a0_0, .string a0_1, .string a0_2, .slice A0_3 l0_3.length c0_3, .slice A0_4 l0_4.length c0_4] 25 (0, 0)) (by (with_reducible repeat (first | refine blk_drewN ?_ _ | refine blk_drew ?_ | refine blk_alloc ?_ _)); exact BK177.out) hb); have n1_ := Aside0.mk (below_step (by repeat (first | (with_reducible first | exact HB.out | apply below_alloc | apply pw_below_drewN | apply below_drew1 | refine below_set ?_ GE177.out) | exact HB.out)) hb); clear BK177; clear HB; have BK177 := n0_; have HB := n1_; clear n0_ n1_; (try clear hb); (try clear hb2); (try clear hk); (try clear hi); have hcz16_0 : w15.cell? ⟨gb177, 0, none⟩ = some (.int .i64 a0_0) := (blk_cell BK177.out 0).trans rfl; have hcz16_1 : w15.cell? ⟨gb177, 1, none⟩ = some (.string a0_1) := (blk_cell BK177.out 1).trans rfl; have hcz16_2 : w15.cell? ⟨gb177, 2, none⟩ = some (.string a0_2) := (blk_cell BK177.out 2).trans rfl; have hcz16_3 : w15.cell? ⟨gb177, 3, none⟩ = some (.slice A0_3 l0_3.length c0_3) := (blk_cell BK177.out 3).trans rfl; have hcz16_4 : w15.cell? ⟨gb177, 4, none⟩ = some (.slice A0_4 l0_4.length c0_4) := (blk_cell BK177.out 4).trans rfl; have hfz16_0 := blk_frozen BK177.out 0; have hfz16_1 := blk_frozen BK177.out 1; have hfz16_2 := blk_frozen BK177.out 2; have hfz16_3 := blk_frozen BK177.out 3; have hfz16_4 := blk_frozen BK177.out 4))
          go_loopg [5, 26] kj2 (fun kq v5 v26 w' => ∃ (x5_2 : List ByteArray) (x26_2 : Int), v26 = .int .i64 x26_2 ∧ Aside0 (laws_FnDomClasses.l0 kq a1 x5_2 l0_3 (l0_3.length : Int) x26_2 a0_0 a0_1 a0_2 l0_3 l0_4 = some r) ∧ Aside0 (kq ≤ kj2) ∧ Aside0 (Kd.R Kd.string 9 w' w.heap.size (fun _ => True) v5 x5_2) ∧ Aside0 (w'.heap[gb177]? = some (.cells #[.int .i64 a0_0, .string a0_1, .string a0_2, (.slice A0_3 l0_3.length c0_3), (.slice A0_4 l0_4.length c0_4)] 25 (0, 0))) ∧ Aside0 (Below w.heap.size w w'))
          case atStart => exact ⟨(([] : List ByteArray)), (0), (by first | rfl | (simp; done) | (simp [*]; done)), H', ⟨Nat.le_refl _⟩, ⟨by first | exact Kd.R_nil _ _ _ _ _ | exact Kd.N_nil _ _ _ _ _ | exact Kd.V_nil _ _ _ _ _ | exact Kd.Q_nil _ _ _ _ _ | exact Kd.S_nil _ _ _ _ _⟩, ⟨by (with_reducible repeat (first | refine blk_drewN ?_ _ | refine blk_drew ?_ | refine blk_alloc ?_ _)); exact BK177.out⟩, ⟨by repeat (first | (with_reducible first | exact HB.out | apply below_alloc | apply pw_below_drewN | apply below_drew1 | refine below_set ?_ GE177.out) | exact HB.out)⟩⟩
          case round =>
            clear H'
            try clear c1
            try clear p2
            try clear c4
            try clear c5
            try clear c6
            try clear c11
            try clear c13
            try clear hcz14_0
            try clear hcz14_1
            try clear hcz14_2
            try clear hcz14_3
            try clear hcz14_4
            try clear hcz16_0
            try clear hcz16_1
            try clear hcz16_2
            try clear hcz16_3
            try clear hcz16_4
            try clear hcz7_0
            try clear hcz7_1
            try clear hcz7_2
            try clear hcz7_3
            try clear hcz7_4
            try clear hcz9_0
            try clear hcz9_1
            try clear hcz9_2
            try clear hcz9_3
            try clear hcz9_4
            try clear hfz14_0
            try clear hfz14_1
            try clear hfz14_2
            try clear hfz14_3
            try clear hfz14_4
            try clear hfz16_0
            try clear hfz16_1
            try clear hfz16_2
            try clear hfz16_3
            try clear hfz16_4
            try clear hfz7_0
            try clear hfz7_1
            try clear hfz7_2
            try clear hfz7_3
            try clear hfz7_4
            try clear hfz9_0
            try clear hfz9_1
            try clear hfz9_2
            try clear hfz9_3
            try clear hfz9_4
            try clear p2
            obtain ⟨x5_2, x26_2, rfl, HA, HK2, HO_5, BK177, HB⟩ := hrel
            cases gk with
            | zero => exact absurd HA.out (by simp [laws_FnDomClasses.l0])
            | succ k2 =>
              have H := HA.out
              clear HA
              simp only [laws_FnDomClasses.l0] at H
              by_cases c17 : x26_2 < (l0_3.length : Int)
              · rw [if_pos c17] at H
                have c17b0 : decide (x26_2 < (l0_3.length : Int)) = true := decide_eq_true c17
                clear c17
                by_cases c18 : 0 ≤ x26_2
                · rw [if_pos c18] at H
                  have c18b0 : decide (0 ≤ x26_2) = true := decide_eq_true c18
                  clear c18
                  by_cases c19 : x26_2 < (l0_3.length : Int)
                  · rw [if_pos c19] at H
                    have c19b0 : decide (x26_2 < (l0_3.length : Int)) = true := decide_eq_true c19
                    clear c19
                    by_cases c20 : ((rd_T31 l0_3 x26_2).f0).toList = ([99, 108, 97, 115, 115] : List UInt8)
                    · rw [if_pos c20] at H
                      have c20b0 : (((rd_T31 l0_3 x26_2).f0).toList == ([99, 108, 97, 115, 115] : List UInt8)) = true := beq_iff_eq.mpr c20
                      have c20b1 : (((rd_T31 l0_3 x26_2).f0).toList != ([99, 108, 97, 115, 115] : List UInt8)) = false := bne_eq_false_iff_eq.mpr c20
                      clear c20
                      have H' := Aside0.mk H
                      clear H
                      have p180 : 0 ≤ (x26_2 : Int) := of_decide_eq_true (by first | (with_reducible assumption) | assumption)
                      have q180 : x26_2 < (l0_3.length : Int) := of_decide_eq_true (by first | (with_reducible assumption) | assumption)
                      obtain ⟨ad180, e180, hx180_0, hx180_1⟩ := at_T31 HR0_3.out x26_2 p180 q180
                      cases e180
                      replace hx180_0 := (HB.out.cell (World.block_lt_of_cell? w _ hx180_0)).trans hx180_0
                      replace hx180_1 := (HB.out.cell (World.block_lt_of_cell? w _ hx180_1)).trans hx180_1
                      replace p180 := eq_true p180
                      replace q180 := eq_true q180
                      go_wp2_with (first | ((with_reducible refine gate_dst (N := 7) rfl ?_); (try (refine gate_guard (by rfl) ?_; dsimp only)); refine box_event ?hg (N := 7) ?hd (cs := #[.string (⟨#[]⟩ : ByteArray), .string (⟨#[]⟩ : ByteArray)]) (t := 31) ?hr ?_; (case hd => rfl); (case hg => rfl); (case hr => first | (go_simp; done) | (go_simp; rfl)); intro gb181 hg w21 hbox hb; have n0_ := Aside0.mk (Kd.R_below (by (with_reducible repeat (first | apply Kd.R_alloc | apply Kd.R_drewN | apply Kd.R_drew)); exact HO_5.out) hb); have n1_ := Aside0.mk (blk_below (g := gb177) (o := .cells #[.int .i64 a0_0, .string a0_1, .string a0_2, .slice (some ad180) l0_3.length c0_3, .slice A0_4 l0_4.length c0_4] 25 (0, 0)) (by (with_reducible repeat (first | refine blk_drewN ?_ _ | refine blk_drew ?_ | refine blk_alloc ?_ _)); exact BK177.out) hb); have n2_ := Aside0.mk (below_step (by repeat (first | (with_reducible first | exact HB.out | apply below_alloc | apply pw_below_drewN | apply below_drew1 | refine below_set ?_ GE177.out) | exact HB.out)) hb); have n3_ := Aside0.mk (hbox); have n4_ := Aside0.mk ((by rw [hg]; exact (below_size (by repeat (first | (with_reducible first | exact HB.out | apply below_alloc | apply pw_below_drewN | apply below_drew1 | refine below_set ?_ GE177.out) | exact HB.out))) : w.heap.size ≤ gb181)); have n5_ := Aside0.mk ((by rw [hg]; exact (below_size (by repeat (first | (with_reducible first | exact HB.out | apply below_alloc | apply pw_below_drewN | apply below_drew1 | refine below_set ?_ GE177.out) | exact HB.out))) : w.heap.size ≤ gb181)); have n6_ := Aside0.mk ((by rw [hg]; exact Nat.ne_of_lt (blk_lt (g := gb177) (o := .cells #[.int .i64 a0_0, .string a0_1, .string a0_2, .slice (some ad180) l0_3.length c0_3, .slice A0_4 l0_4.length c0_4] 25 (0, 0)) (by (with_reducible repeat (first | refine blk_drewN ?_ _ | refine blk_drew ?_ | refine blk_alloc ?_ _)); exact BK177.out)) : gb177 ≠ gb181)); have n7_ := Aside0.mk ((by rw [hg]; exact Nat.ne_of_gt (blk_lt (g := gb177) (o := .cells #[.int .i64 a0_0, .string a0_1, .string a0_2, .slice (some ad180) l0_3.length c0_3, .slice A0_4 l0_4.length c0_4] 25 (0, 0)) (by (with_reducible repeat (first | refine blk_drewN ?_ _ | refine blk_drew ?_ | refine blk_alloc ?_ _)); exact BK177.out)) : gb181 ≠ gb177)); clear HO_5; clear BK177; clear HB; have HO_5 := n0_; have BK177 := n1_; have HB := n2_; have BK181 := n3_; have GW181 := n4_; have GE181 := n5_; have NB177_181 := n6_; have NB181_177 := n7_; clear n0_ n1_ n2_ n3_ n4_ n5_ n6_ n7_; clear hb hbox hg; have hnb22 := NB181_177.out; have hnc22 := NB177_181.out; have hcz23_0 : w21.cell? ⟨gb181, 0, none⟩ = some (.string (⟨#[]⟩ : ByteArray)) := (blk_cell BK181.out 0).trans rfl; have hcz23_1 : w21.cell? ⟨gb181, 1, none⟩ = some (.string (⟨#[]⟩ : ByteArray)) := (blk_cell BK181.out 1).trans rfl; have hfz23_0 := blk_frozen BK181.out 0; have hfz23_1 := blk_frozen BK181.out 1))
                      go_loopg [36] k2 (fun kq v36 w' => ∃ (x36_3 : Int), v36 = .int .i64 x36_3 ∧ Aside0 (laws_FnDomClasses.l1 kq a1 l0_3 (l0_3.length : Int) x26_2 (((rd_T31 l0_3 x26_2).f1).size : Int) x36_3 a0_0 a0_1 a0_2 l0_3 l0_4 ((rd_T31 l0_3 x26_2).f0) ((rd_T31 l0_3 x26_2).f1) = some r) ∧ Aside0 (kq ≤ k2) ∧ Aside0 (w'.heap[gb177]? = some (.cells #[.int .i64 a0_0, .string a0_1, .string a0_2, (.slice (some ad180) l0_3.length c0_3), (.slice A0_4 l0_4.length c0_4)] 25 (0, 0))) ∧ Aside0 (w'.heap[gb181]? = some (.cells #[.string ((rd_T31 l0_3 x26_2).f0), .string ((rd_T31 l0_3 x26_2).f1)] 31 (0, 0))) ∧ Aside0 (Below w.heap.size w w'))
                      case atStart => exact ⟨(0), (by first | rfl | (simp; done) | (simp [*]; done)), H', ⟨Nat.le_refl _⟩, ⟨by (with_reducible repeat (first | refine blk_drewN ?_ _ | refine blk_drew ?_ | refine blk_alloc ?_ _)); refine blk_far ?_ NB177_181.out _; (with_reducible repeat (first | refine blk_drewN ?_ _ | refine blk_drew ?_ | refine blk_alloc ?_ _)); refine blk_far ?_ NB177_181.out _; (with_reducible repeat (first | refine blk_drewN ?_ _ | refine blk_drew ?_ | refine blk_alloc ?_ _)); exact BK177.out⟩, ⟨by (with_reducible repeat (first | refine blk_drewN ?_ _ | refine blk_drew ?_ | refine blk_alloc ?_ _)); refine blk_put (cs := #[.string ((rd_T31 l0_3 x26_2).f0), .string (⟨#[]⟩ : ByteArray)]) ?_ 1 _ rfl; (with_reducible repeat (first | refine blk_drewN ?_ _ | refine blk_drew ?_ | refine blk_alloc ?_ _)); refine blk_put (cs := #[.string (⟨#[]⟩ : ByteArray), .string (⟨#[]⟩ : ByteArray)]) ?_ 0 _ rfl; (with_reducible repeat (first | refine blk_drewN ?_ _ | refine blk_drew ?_ | refine blk_alloc ?_ _)); exact BK181.out⟩, ⟨by repeat (first | (with_reducible first | exact HB.out | apply below_alloc | apply pw_below_drewN | apply below_drew1 | refine below_set ?_ GE177.out | refine below_set ?_ GE181.out) | exact HB.out)⟩⟩
                      case round =>
                        clear H'
                        try clear c1
                        try clear p1
                        try clear q1
                        try clear hx1
                        try clear c2
                        try clear p2
                        try clear c4
                        try clear c5
                        try clear c6
                        try clear c11
                        try clear c13
                        try clear c17
                        try clear c17b0
                        try clear c18
                        try clear c18b0
                        try clear p18
                        try clear q18
                        try clear hx18
                        try clear c19
                        try clear c19b0
                        try clear c20
                        try clear c20b0
                        try clear c20b1
                        try clear c22
                        try clear hcz14_0
                        try clear hcz14_1
                        try clear hcz14_2
                        try clear hcz14_3
                        try clear hcz14_4
                        try clear hcz16_0
                        try clear hcz16_1
                        try clear hcz16_2
                        try clear hcz16_3
                        try clear hcz16_4
                        try clear hcz23_0
                        try clear hcz23_1
                        try clear hcz7_0
                        try clear hcz7_1
                        try clear hcz7_2
                        try clear hcz7_3
                        try clear hcz7_4
                        try clear hcz9_0
                        try clear hcz9_1
                        try clear hcz9_2
                        try clear hcz9_3
                        try clear hcz9_4
                        try clear hfz14_0
                        try clear hfz14_1
                        try clear hfz14_2
                        try clear hfz14_3
                        try clear hfz14_4
                        try clear hfz16_0
                        try clear hfz16_1
                        try clear hfz16_2
                        try clear hfz16_3
                        try clear hfz16_4
                        try clear hfz23_0
                        try clear hfz23_1
                        try clear hfz7_0
                        try clear hfz7_1
                        try clear hfz7_2
                        try clear hfz7_3
                        try clear hfz7_4
                        try clear hfz9_0
                        try clear hfz9_1
                        try clear hfz9_2
                        try clear hfz9_3
                        try clear hfz9_4
                        try clear hx180_0
                        try clear hx180_1
                        try clear p180
                        try clear p2
                        try clear q180
                        obtain ⟨x36_3, rfl, HA, HK3, BK177, BK181, HB⟩ := hrel
                        cases gk with
                        | zero => exact absurd HA.out (by simp [laws_FnDomClasses.l1])
                        | succ k3 =>
                          have H := HA.out
                          clear HA
                          simp only [laws_FnDomClasses.l1] at H
                          by_cases c24 : x36_3 < (((rd_T31 l0_3 x26_2).f1).size : Int)
                          · rw [if_pos c24] at H
                            have c24b0 : decide (x36_3 < (((rd_T31 l0_3 x26_2).f1).size : Int)) = true := decide_eq_true c24
                            clear c24
                            by_cases c25 : 0 ≤ x36_3
                            · rw [if_pos c25] at H
                              have c25b0 : decide (0 ≤ x36_3) = true := decide_eq_true c25
                              clear c25
                              by_cases c26 : x36_3 < (((rd_T31 l0_3 x26_2).f1).size : Int)
                              · rw [if_pos c26] at H
                                have c26b0 : decide (x36_3 < (((rd_T31 l0_3 x26_2).f1).size : Int)) = true := decide_eq_true c26
                                clear c26
                                by_cases c28 : (bt ((rd_T31 l0_3 x26_2).f1) x36_3) ≥ 128
                                · rw [if_pos c28] at H
                                  have c28b0 : decide (128 ≤ (bt ((rd_T31 l0_3 x26_2).f1) x36_3)) = true := decide_eq_true c28
                                  clear c28
                                  obtain rfl := Option.some.inj H
                                  have hnb29 := NB181_177.out
                                  have hnc29 := NB177_181.out
                                  have hcz30_0 : wr.cell? ⟨gb181, 0, none⟩ = some (.string ((rd_T31 l0_3 x26_2).f0)) := (blk_cell BK181.out 0).trans rfl
                                  have hcz30_1 : wr.cell? ⟨gb181, 1, none⟩ = some (.string ((rd_T31 l0_3 x26_2).f1)) := (blk_cell BK181.out 1).trans rfl
                                  have hfz30_0 := blk_frozen BK181.out 0
                                  have hfz30_1 := blk_frozen BK181.out 1
                                  have p27 : 0 ≤ (x36_3 : Int) := of_decide_eq_true (by first | (with_reducible assumption) | assumption)
                                  have q27 : x36_3 < (((rd_T31 l0_3 x26_2).f1).size : Int) := of_decide_eq_true (by first | (with_reducible assumption) | assumption)
                                  have hx27 := bt_at ((rd_T31 l0_3 x26_2).f1) x36_3
                                  replace p27 := eq_true p27
                                  replace q27 := eq_true q27
                                  go_wp2
                                  go_ret
                                  exact ⟨by first | rfl | (simp [errW_none, errW_some] <;> rfl) | (simp [*, errW_none, errW_some] <;> rfl), by repeat (first | (with_reducible first | exact HB.out | apply below_alloc | apply pw_below_drewN | apply below_drew1 | refine below_set ?_ GE177.out | refine below_set ?_ GE181.out) | exact HB.out)⟩
                                · rw [if_neg c28] at H
                                  have c28b0 : decide (128 ≤ (bt ((rd_T31 l0_3 x26_2).f1) x36_3)) = false := decide_eq_false c28
                                  clear c28
                                  have H' := Aside0.mk H
                                  clear H
                                  have hnb31 := NB181_177.out
                                  have hnc31 := NB177_181.out
                                  have hcz32_0 : wr.cell? ⟨gb181, 0, none⟩ = some (.string ((rd_T31 l0_3 x26_2).f0)) := (blk_cell BK181.out 0).trans rfl
                                  have hcz32_1 : wr.cell? ⟨gb181, 1, none⟩ = some (.string ((rd_T31 l0_3 x26_2).f1)) := (blk_cell BK181.out 1).trans rfl
                                  have hfz32_0 := blk_frozen BK181.out 0
                                  have hfz32_1 := blk_frozen BK181.out 1
                                  have p27 : 0 ≤ (x36_3 : Int) := of_decide_eq_true (by first | (with_reducible assumption) | assumption)
                                  have q27 : x36_3 < (((rd_T31 l0_3 x26_2).f1).size : Int) := of_decide_eq_true (by first | (with_reducible assumption) | assumption)
                                  have hx27 := bt_at ((rd_T31 l0_3 x26_2).f1) x36_3
                                  replace p27 := eq_true p27
                                  replace q27 := eq_true q27
                                  go_wp2
                                  go_roundg k3
                                  case measure => have := HJ2.out; have := HK2.out; have := HK3.out; omega
                                  case rel => exact ⟨(wrap64 (x36_3 + 1)), (by first | rfl | (simp; done) | (simp [*]; done)), H', ⟨by have := HJ2.out; have := HK2.out; have := HK3.out; omega⟩, ⟨by (with_reducible repeat (first | refine blk_drewN ?_ _ | refine blk_drew ?_ | refine blk_alloc ?_ _)); exact BK177.out⟩, ⟨by (with_reducible repeat (first | refine blk_drewN ?_ _ | refine blk_drew ?_ | refine blk_alloc ?_ _)); exact BK181.out⟩, ⟨by repeat (first | (with_reducible first | exact HB.out | apply below_alloc | apply pw_below_drewN | apply below_drew1 | refine below_set ?_ GE177.out | refine below_set ?_ GE181.out) | exact HB.out)⟩⟩
                              · rw [if_neg c26] at H
                                exact absurd H (by simp)
                            · rw [if_neg c25] at H
                              exact absurd H (by simp)
                          · rw [if_neg c24] at H
                            have c24b0 : decide (x36_3 < (((rd_T31 l0_3 x26_2).f1).size : Int)) = false := decide_eq_false c24
                            clear c24
                            replace H := Option.bind_eq_some_iff.mp H
                            obtain ⟨t182, A330, H⟩ := H
                            replace H : (laws_FnDomClasses.l0 k3 a1 t182 l0_3 (l0_3.length : Int) (wrap64 (x26_2 + 1)) a0_0 a0_1 a0_2 l0_3 l0_4) = some r := H
                            have A33 := Aside0.mk A330
                            clear A330
                            have H' := Aside0.mk H
                            clear H
                            have hnb34 := NB181_177.out
                            have hnc34 := NB177_181.out
                            have hcz35_0 : wr.cell? ⟨gb181, 0, none⟩ = some (.string ((rd_T31 l0_3 x26_2).f0)) := (blk_cell BK181.out 0).trans rfl
                            have hcz35_1 : wr.cell? ⟨gb181, 1, none⟩ = some (.string ((rd_T31 l0_3 x26_2).f1)) := (blk_cell BK181.out 1).trans rfl
                            have hfz35_0 := blk_frozen BK181.out 0
                            have hfz35_1 := blk_frozen BK181.out 1
                            go_wp2_with (first | ((with_reducible refine gate_callee (f := 10) rfl ?_); refine goesL_ (some 47) rfl rfl Tryd.func10 (by kernel_rfl) rfl #[.string ((rd_T31 l0_3 x26_2).f1)] rfl (by (try simp only [List.map_toArray, List.map_cons, List.map_nil]); first | done | rfl | (simp only [List.length_drop, List.length_take]; rfl)) ?_; (with_reducible refine (spec_Words29.calls k3 ((rd_T31 l0_3 x26_2).f1) t182 _ A33.out).mono ?_); rintro e w36 ⟨v183, rfl, ho0, hb⟩; refine ⟨_, rfl, ?_⟩; have n0_ := Aside0.mk (Kd.R_lower ho0 (below_size (by repeat (first | (with_reducible first | exact HB.out | apply below_alloc | apply pw_below_drewN | apply below_drew1 | refine below_set ?_ GE177.out | refine below_set ?_ GE181.out) | exact HB.out)))); have n1_ := Aside0.mk (blk_below (g := gb177) (o := .cells #[.int .i64 a0_0, .string a0_1, .string a0_2, .slice (some ad180) l0_3.length c0_3, .slice A0_4 l0_4.length c0_4] 25 (0, 0)) (by (with_reducible repeat (first | refine blk_drewN ?_ _ | refine blk_drew ?_ | refine blk_alloc ?_ _)); exact BK177.out) hb); have n2_ := Aside0.mk (blk_below (g := gb181) (o := .cells #[.string ((rd_T31 l0_3 x26_2).f0), .string ((rd_T31 l0_3 x26_2).f1)] 31 (0, 0)) (by (with_reducible repeat (first | refine blk_drewN ?_ _ | refine blk_drew ?_ | refine blk_alloc ?_ _)); exact BK181.out) hb); have n3_ := Aside0.mk (below_step (by repeat (first | (with_reducible first | exact HB.out | apply below_alloc | apply pw_below_drewN | apply below_drew1 | refine below_set ?_ GE177.out | refine below_set ?_ GE181.out) | exact HB.out)) hb); clear BK177; clear BK181; clear HB; have HO184 := n0_; have BK177 := n1_; have BK181 := n2_; have HB := n3_; clear n0_ n1_ n2_ n3_; (try clear hb); (try clear hb2); (try clear hk); (try clear hi); (try clear ho0)))
                            go_roundg k3
                            case measure => have := HJ2.out; have := HK2.out; have := HK3.out; omega
                            case rel => exact ⟨(t182), (wrap64 (x26_2 + 1)), (by first | rfl | (simp; done) | (simp [*]; done)), H', ⟨by have := HJ2.out; have := HK2.out; have := HK3.out; omega⟩, ⟨by (with_reducible repeat (first | apply Kd.R_alloc | apply Kd.R_drewN | apply Kd.R_drew)); exact HO184.out⟩, ⟨by (with_reducible repeat (first | refine blk_drewN ?_ _ | refine blk_drew ?_ | refine blk_alloc ?_ _)); exact BK177.out⟩, ⟨by repeat (first | (with_reducible first | exact HB.out | apply below_alloc | apply pw_below_drewN | apply below_drew1 | refine below_set ?_ GE177.out | refine below_set ?_ GE181.out) | exact HB.out)⟩⟩
                    · rw [if_neg c20] at H
                      have c20b0 : (((rd_T31 l0_3 x26_2).f0).toList == ([99, 108, 97, 115, 115] : List UInt8)) = false := beq_eq_false_iff_ne.mpr c20
                      have c20b1 : (((rd_T31 l0_3 x26_2).f0).toList != ([99, 108, 97, 115, 115] : List UInt8)) = true := bne_iff_ne.mpr c20
                      have H' := Aside0.mk H
                      clear H
                      have p180 : 0 ≤ (x26_2 : Int) := of_decide_eq_true (by first | (with_reducible assumption) | assumption)
                      have q180 : x26_2 < (l0_3.length : Int) := of_decide_eq_true (by first | (with_reducible assumption) | assumption)
                      obtain ⟨ad180, e180, hx180_0, hx180_1⟩ := at_T31 HR0_3.out x26_2 p180 q180
                      cases e180
                      replace hx180_0 := (HB.out.cell (World.block_lt_of_cell? w _ hx180_0)).trans hx180_0
                      replace hx180_1 := (HB.out.cell (World.block_lt_of_cell? w _ hx180_1)).trans hx180_1
                      replace p180 := eq_true p180
                      replace q180 := eq_true q180
                      go_wp2_with (first | ((with_reducible refine gate_dst (N := 7) rfl ?_); (try (refine gate_guard (by rfl) ?_; dsimp only)); refine box_event ?hg (N := 7) ?hd (cs := #[.string (⟨#[]⟩ : ByteArray), .string (⟨#[]⟩ : ByteArray)]) (t := 31) ?hr ?_; (case hd => rfl); (case hg => rfl); (case hr => first | (go_simp; done) | (go_simp; rfl)); intro gb181 hg w37 hbox hb; have n0_ := Aside0.mk (Kd.R_below (by (with_reducible repeat (first | apply Kd.R_alloc | apply Kd.R_drewN | apply Kd.R_drew)); exact HO_5.out) hb); have n1_ := Aside0.mk (blk_below (g := gb177) (o := .cells #[.int .i64 a0_0, .string a0_1, .string a0_2, .slice (some ad180) l0_3.length c0_3, .slice A0_4 l0_4.length c0_4] 25 (0, 0)) (by (with_reducible repeat (first | refine blk_drewN ?_ _ | refine blk_drew ?_ | refine blk_alloc ?_ _)); exact BK177.out) hb); have n2_ := Aside0.mk (below_step (by repeat (first | (with_reducible first | exact HB.out | apply below_alloc | apply pw_below_drewN | apply below_drew1 | refine below_set ?_ GE177.out) | exact HB.out)) hb); have n3_ := Aside0.mk (hbox); have n4_ := Aside0.mk ((by rw [hg]; exact (below_size (by repeat (first | (with_reducible first | exact HB.out | apply below_alloc | apply pw_below_drewN | apply below_drew1 | refine below_set ?_ GE177.out) | exact HB.out))) : w.heap.size ≤ gb181)); have n5_ := Aside0.mk ((by rw [hg]; exact (below_size (by repeat (first | (with_reducible first | exact HB.out | apply below_alloc | apply pw_below_drewN | apply below_drew1 | refine below_set ?_ GE177.out) | exact HB.out))) : w.heap.size ≤ gb181)); have n6_ := Aside0.mk ((by rw [hg]; exact Nat.ne_of_lt (blk_lt (g := gb177) (o := .cells #[.int .i64 a0_0, .string a0_1, .string a0_2, .slice (some ad180) l0_3.length c0_3, .slice A0_4 l0_4.length c0_4] 25 (0, 0)) (by (with_reducible repeat (first | refine blk_drewN ?_ _ | refine blk_drew ?_ | refine blk_alloc ?_ _)); exact BK177.out)) : gb177 ≠ gb181)); have n7_ := Aside0.mk ((by rw [hg]; exact Nat.ne_of_gt (blk_lt (g := gb177) (o := .cells #[.int .i64 a0_0, .string a0_1, .string a0_2, .slice (some ad180) l0_3.length c0_3, .slice A0_4 l0_4.length c0_4] 25 (0, 0)) (by (with_reducible repeat (first | refine blk_drewN ?_ _ | refine blk_drew ?_ | refine blk_alloc ?_ _)); exact BK177.out)) : gb181 ≠ gb177)); clear HO_5; clear BK177; clear HB; have HO_5 := n0_; have BK177 := n1_; have HB := n2_; have BK181 := n3_; have GW181 := n4_; have GE181 := n5_; have NB177_181 := n6_; have NB181_177 := n7_; clear n0_ n1_ n2_ n3_ n4_ n5_ n6_ n7_; clear hb hbox hg; have hnb38 := NB181_177.out; have hnc38 := NB177_181.out; have hcz39_0 : w37.cell? ⟨gb181, 0, none⟩ = some (.string (⟨#[]⟩ : ByteArray)) := (blk_cell BK181.out 0).trans rfl; have hcz39_1 : w37.cell? ⟨gb181, 1, none⟩ = some (.string (⟨#[]⟩ : ByteArray)) := (blk_cell BK181.out 1).trans rfl; have hfz39_0 := blk_frozen BK181.out 0; have hfz39_1 := blk_frozen BK181.out 1))
                      go_roundg k2
                      case measure => have := HJ2.out; have := HK2.out; omega
                      case rel => exact ⟨(x5_2), (wrap64 (x26_2 + 1)), (by first | rfl | (simp; done) | (simp [*]; done)), H', ⟨by have := HJ2.out; have := HK2.out; omega⟩, ⟨by (with_reducible repeat (first | apply Kd.R_alloc | apply Kd.R_drewN | apply Kd.R_drew)); exact Kd.R_mono (Kd.R_far (p := ⟨gb181, 1, none⟩) (Kd.R_far (p := ⟨gb181, 0, none⟩) (Kd.R_types HO_5.out BK181.out (by decide)) (fun _ hk => hk.2) (.string ((rd_T31 l0_3 x26_2).f0))) (fun _ hk => hk.2) (.string ((rd_T31 l0_3 x26_2).f1))) (fun _ hk => trivial)⟩, ⟨by (with_reducible repeat (first | refine blk_drewN ?_ _ | refine blk_drew ?_ | refine blk_alloc ?_ _)); refine blk_far ?_ NB177_181.out _; (with_reducible repeat (first | refine blk_drewN ?_ _ | refine blk_drew ?_ | refine blk_alloc ?_ _)); refine blk_far ?_ NB177_181.out _; (with_reducible repeat (first | refine blk_drewN ?_ _ | refine blk_drew ?_ | refine blk_alloc ?_ _)); exact BK177.out⟩, ⟨by repeat (first | (with_reducible first | exact HB.out | apply below_alloc | apply pw_below_drewN | apply below_drew1 | refine below_set ?_ GE177.out | refine below_set ?_ GE181.out) | exact HB.out)⟩⟩
                  · rw [if_neg c19] at H
                    exact absurd H (by simp)
                · rw [if_neg c18] at H
                  exact absurd H (by simp)
              · rw [if_neg c17] at H
                have c17b0 : decide (x26_2 < (l0_3.length : Int)) = false := decide_eq_false c17
                clear c17
                have H' := Aside0.mk H
                clear H
                obtain ⟨Ao40, co40, eo40⟩ := Kd.R_slice HO_5.out
                subst eo40
                go_wp2
                go_loopg [9, 51] k2 (fun kq v9 v51 w' => ∃ (x9_3 : Bool) (x51_3 : Int), v9 = .bool x9_3 ∧ v51 = .int .i64 x51_3 ∧ Aside0 (laws_FnDomClasses.l2 kq a1 x5_2 x9_3 x5_2 (x5_2.length : Int) x51_3 a0_0 a0_1 a0_2 l0_3 l0_4 = some r) ∧ Aside0 (kq ≤ k2) ∧ Aside0 (Kd.R Kd.string 9 w' w.heap.size (fun _ => True) (.slice Ao40 x5_2.length co40) x5_2) ∧ Aside0 (Kd.R Kd.string 9 w' w.heap.size (fun _ => True) (.slice Ao40 x5_2.length co40) x5_2) ∧ Aside0 (w'.heap[gb177]? = some (.cells #[.int .i64 a0_0, .string a0_1, .string a0_2, (.slice A0_3 l0_3.length c0_3), (.slice A0_4 l0_4.length c0_4)] 25 (0, 0))) ∧ Aside0 (Below w.heap.size w w'))
                case atStart => exact ⟨(false), (0), (by first | rfl | (simp; done) | (simp [*]; done)), (by first | rfl | (simp; done) | (simp [*]; done)), H', ⟨Nat.le_refl _⟩, ⟨by (with_reducible repeat (first | apply Kd.R_alloc | apply Kd.R_drewN | apply Kd.R_drew)); exact HO_5.out⟩, ⟨by (with_reducible repeat (first | apply Kd.R_alloc | apply Kd.R_drewN | apply Kd.R_drew)); exact HO_5.out⟩, ⟨by (with_reducible repeat (first | refine blk_drewN ?_ _ | refine blk_drew ?_ | refine blk_alloc ?_ _)); exact BK177.out⟩, ⟨by repeat (first | (with_reducible first | exact HB.out | apply below_alloc | apply pw_below_drewN | apply below_drew1 | refine below_set ?_ GE177.out) | exact HB.out)⟩⟩
                case round =>
                  clear H'
                  try clear c1
                  try clear p1
                  try clear q1
                  try clear hx1
                  try clear c2
                  try clear p2
                  try clear q2
                  try clear hx2
                  try clear c3
                  try clear c4
                  try clear c5
                  try clear c6
                  try clear p6
                  try clear c10
                  try clear c11
                  try clear c13
                  try clear c17
                  try clear c17b0
                  try clear c18
                  try clear c18b0
                  try clear p18
                  try clear q18
                  try clear hx18
                  try clear c19
                  try clear c19b0
                  try clear c20
                  try clear c20b0
                  try clear c20b1
                  try clear c22
                  try clear c24
                  try clear c24b0
                  try clear c25
                  try clear c25b0
                  try clear c26
                  try clear c26b0
                  try clear p27
                  try clear q27
                  try clear hx27
                  try clear c28
                  try clear c28b0
                  try clear c29
                  try clear c31
                  try clear c34
                  try clear c38
                  try clear hcz14_0
                  try clear hcz14_1
                  try clear hcz14_2
                  try clear hcz14_3
                  try clear hcz14_4
                  try clear hcz16_0
                  try clear hcz16_1
                  try clear hcz16_2
                  try clear hcz16_3
                  try clear hcz16_4
                  try clear hcz23_0
                  try clear hcz23_1
                  try clear hcz30_0
                  try clear hcz30_1
                  try clear hcz32_0
                  try clear hcz32_1
                  try clear hcz35_0
                  try clear hcz35_1
                  try clear hcz39_0
                  try clear hcz39_1
                  try clear hcz7_0
                  try clear hcz7_1
                  try clear hcz7_2
                  try clear hcz7_3
                  try clear hcz7_4
                  try clear hcz9_0
                  try clear hcz9_1
                  try clear hcz9_2
                  try clear hcz9_3
                  try clear hcz9_4
                  try clear hfz14_0
                  try clear hfz14_1
                  try clear hfz14_2
                  try clear hfz14_3
                  try clear hfz14_4
                  try clear hfz16_0
                  try clear hfz16_1
                  try clear hfz16_2
                  try clear hfz16_3
                  try clear hfz16_4
                  try clear hfz23_0
                  try clear hfz23_1
                  try clear hfz30_0
                  try clear hfz30_1
                  try clear hfz32_0
                  try clear hfz32_1
                  try clear hfz35_0
                  try clear hfz35_1
                  try clear hfz39_0
                  try clear hfz39_1
                  try clear hfz7_0
                  try clear hfz7_1
                  try clear hfz7_2
                  try clear hfz7_3
                  try clear hfz7_4
                  try clear hfz9_0
                  try clear hfz9_1
                  try clear hfz9_2
                  try clear hfz9_3
                  try clear hfz9_4
                  try clear hx180_0
                  try clear hx180_1
                  try clear p1
                  try clear p18
                  try clear p180
                  try clear p2
                  try clear p27
                  try clear q1
                  try clear q18
                  try clear q180
                  try clear q27
                  obtain ⟨x9_3, x51_3, rfl, rfl, HA, HK3, HO_5, HO_49, BK177, HB⟩ := hrel
                  cases gk with
                  | zero => exact absurd HA.out (by simp [laws_FnDomClasses.l2])
                  | succ k3 =>
                    have H := HA.out
                    clear HA
                    simp only [laws_FnDomClasses.l2] at H
                    by_cases c41 : x51_3 < (x5_2.length : Int)
                    · rw [if_pos c41] at H
                      have c41b0 : decide (x51_3 < (x5_2.length : Int)) = true := decide_eq_true c41
                      clear c41
                      by_cases c42 : 0 ≤ x51_3
                      · rw [if_pos c42] at H
                        have c42b0 : decide (0 ≤ x51_3) = true := decide_eq_true c42
                        clear c42
                        by_cases c43 : x51_3 < (x5_2.length : Int)
                        · rw [if_pos c43] at H
                          have c43b0 : decide (x51_3 < (x5_2.length : Int)) = true := decide_eq_true c43
                          clear c43
                          by_cases c44 : x9_3 = true
                          · subst c44
                            have H1 : (laws_FnDomClasses.l2 k3 a1 x5_2 true x5_2 (x5_2.length : Int) (wrap64 (x51_3 + 1)) a0_0 a0_1 a0_2 l0_3 l0_4) = some r := by rw [if_pos rfl] at H; exact H
                            clear H
                            have H := H1
                            clear H1
                            have H' := Aside0.mk H
                            clear H
                            have p185 : 0 ≤ (x51_3 : Int) := of_decide_eq_true (by first | (with_reducible assumption) | assumption)
                            have q185 : x51_3 < (x5_2.length : Int) := of_decide_eq_true (by first | (with_reducible assumption) | assumption)
                            obtain ⟨ad185, e185, hx185_0⟩ := Kd.at_string (Kd.R_reads' HO_49.out).2.2 x51_3 p185 q185
                            cases e185
                            replace p185 := eq_true p185
                            replace q185 := eq_true q185
                            go_wp2
                            go_roundg k3
                            case measure => have := HJ2.out; have := HK2.out; have := HK3.out; omega
                            case rel => exact ⟨(true), (wrap64 (x51_3 + 1)), (by first | rfl | (simp; done) | (simp [*]; done)), (by first | rfl | (simp; done) | (simp [*]; done)), H', ⟨by have := HJ2.out; have := HK2.out; have := HK3.out; omega⟩, ⟨by (with_reducible repeat (first | apply Kd.R_alloc | apply Kd.R_drewN | apply Kd.R_drew)); exact HO_5.out⟩, ⟨by (with_reducible repeat (first | apply Kd.R_alloc | apply Kd.R_drewN | apply Kd.R_drew)); exact HO_49.out⟩, ⟨by (with_reducible repeat (first | refine blk_drewN ?_ _ | refine blk_drew ?_ | refine blk_alloc ?_ _)); exact BK177.out⟩, ⟨by repeat (first | (with_reducible first | exact HB.out | apply below_alloc | apply pw_below_drewN | apply below_drew1 | refine below_set ?_ GE177.out) | exact HB.out)⟩⟩
                          · replace c44 := Bool.eq_false_iff.mpr c44
                            subst c44
                            have H1 : (laws_FnDomClasses.l2 k3 a1 x5_2 ((rdOf ByteArray.empty x5_2 x51_3).toList == a1.toList) x5_2 (x5_2.length : Int) (wrap64 (x51_3 + 1)) a0_0 a0_1 a0_2 l0_3 l0_4) = some r := by rw [if_neg (show ¬ (false = true) by decide)] at H; exact H
                            clear H
                            have H := H1
                            clear H1
                            have H' := Aside0.mk H
                            clear H
                            have p185 : 0 ≤ (x51_3 : Int) := of_decide_eq_true (by first | (with_reducible assumption) | assumption)
                            have q185 : x51_3 < (x5_2.length : Int) := of_decide_eq_true (by first | (with_reducible assumption) | assumption)
                            obtain ⟨ad185, e185, hx185_0⟩ := Kd.at_string (Kd.R_reads' HO_49.out).2.2 x51_3 p185 q185
                            cases e185
                            replace p185 := eq_true p185
                            replace q185 := eq_true q185
                            go_wp2
                            go_roundg k3
                            case measure => have := HJ2.out; have := HK2.out; have := HK3.out; omega
                            case rel => exact ⟨(((rdOf ByteArray.empty x5_2 x51_3).toList == a1.toList)), (wrap64 (x51_3 + 1)), (by first | rfl | (simp; done) | (simp [*]; done)), (by first | rfl | (simp; done) | (simp [*]; done)), H', ⟨by have := HJ2.out; have := HK2.out; have := HK3.out; omega⟩, ⟨by (with_reducible repeat (first | apply Kd.R_alloc | apply Kd.R_drewN | apply Kd.R_drew)); exact HO_5.out⟩, ⟨by (with_reducible repeat (first | apply Kd.R_alloc | apply Kd.R_drewN | apply Kd.R_drew)); exact HO_49.out⟩, ⟨by (with_reducible repeat (first | refine blk_drewN ?_ _ | refine blk_drew ?_ | refine blk_alloc ?_ _)); exact BK177.out⟩, ⟨by repeat (first | (with_reducible first | exact HB.out | apply below_alloc | apply pw_below_drewN | apply below_drew1 | refine below_set ?_ GE177.out) | exact HB.out)⟩⟩
                        · rw [if_neg c43] at H
                          exact absurd H (by simp)
                      · rw [if_neg c42] at H
                        exact absurd H (by simp)
                    · rw [if_neg c41] at H
                      have c41b0 : decide (x51_3 < (x5_2.length : Int)) = false := decide_eq_false c41
                      clear c41
                      replace H := Option.bind_eq_some_iff.mp H
                      obtain ⟨t186, A450, H⟩ := H
                      replace H : ((laws_same29.f k3 t186 x5_2).bind fun t189 => (if t189 = true then ((impl_HasClass.f k3 a0_0 a0_1 a0_2 l0_3 l0_4 a1).bind fun t190 => (if (t190 == x9_3) = true then ((laws_living29.f k3).bind fun t191 => (some t191)) else (some false))) else (some false))) = some r := H
                      have A45 := Aside0.mk A450
                      clear A450
                      replace H := Option.bind_eq_some_iff.mp H
                      obtain ⟨t189, A460, H⟩ := H
                      replace H : (if t189 = true then ((impl_HasClass.f k3 a0_0 a0_1 a0_2 l0_3 l0_4 a1).bind fun t190 => (if (t190 == x9_3) = true then ((laws_living29.f k3).bind fun t191 => (some t191)) else (some false))) else (some false)) = some r := H
                      have A46 := Aside0.mk A460
                      clear A460
                      by_cases c47 : t189 = true
                      · subst c47
                        have H1 : ((impl_HasClass.f k3 a0_0 a0_1 a0_2 l0_3 l0_4 a1).bind fun t190 => (if (t190 == x9_3) = true then ((laws_living29.f k3).bind fun t191 => (some t191)) else (some false))) = some r := by rw [if_pos rfl] at H; exact H
                        clear H
                        have H := H1
                        clear H1
                        replace H := Option.bind_eq_some_iff.mp H
                        obtain ⟨t190, A480, H⟩ := H
                        replace H : (if (t190 == x9_3) = true then ((laws_living29.f k3).bind fun t191 => (some t191)) else (some false)) = some r := H
                        have A48 := Aside0.mk A480
                        clear A480
                        by_cases c49 : (t190 == x9_3) = true
                        · rw [if_pos c49] at H
                          have c49b0 : (t190 == x9_3) = true := c49
                          (try (have c49b1 : decide (t190 = x9_3) = true := by simpa using c49))
                          (try (have c49b2 : (t190 == x9_3) = true := by simpa using c49))
                          clear c49
                          replace H := Option.bind_eq_some_iff.mp H
                          obtain ⟨t191, A500, H⟩ := H
                          replace H : (some t191) = some r := H
                          have A50 := Aside0.mk A500
                          clear A500
                          obtain rfl := Option.some.inj H
                          have hcz51_0 : wr.cell? ⟨gb177, 0, none⟩ = some (.int .i64 a0_0) := (blk_cell BK177.out 0).trans rfl
                          have hcz51_1 : wr.cell? ⟨gb177, 1, none⟩ = some (.string a0_1) := (blk_cell BK177.out 1).trans rfl
                          have hcz51_2 : wr.cell? ⟨gb177, 2, none⟩ = some (.string a0_2) := (blk_cell BK177.out 2).trans rfl
                          have hcz51_3 : wr.cell? ⟨gb177, 3, none⟩ = some (.slice A0_3 l0_3.length c0_3) := (blk_cell BK177.out 3).trans rfl
                          have hcz51_4 : wr.cell? ⟨gb177, 4, none⟩ = some (.slice A0_4 l0_4.length c0_4) := (blk_cell BK177.out 4).trans rfl
                          have hfz51_0 := blk_frozen BK177.out 0
                          have hfz51_1 := blk_frozen BK177.out 1
                          have hfz51_2 := blk_frozen BK177.out 2
                          have hfz51_3 := blk_frozen BK177.out 3
                          have hfz51_4 := blk_frozen BK177.out 4
                          go_wp2_with (first | ((with_reducible refine gate_callee (f := 12) rfl ?_); refine goesL_ (some 63) rfl rfl Tryd.func12 (by kernel_rfl) rfl #[.agg #[.int .i64 a0_0, .string a0_1, .string a0_2, .slice A0_3 l0_3.length c0_3, .slice A0_4 l0_4.length c0_4]] rfl (by (try simp only [List.map_toArray, List.map_cons, List.map_nil]); first | done | rfl | (simp only [List.length_drop, List.length_take]; rfl)) ?_; (with_reducible refine (impl_Classes.calls k3 a0_0 a0_1 a0_2 _ _ l0_3 _ _ l0_4 t186 _ ?side1 ?side2 ?side3 ?side4 A45.out ?sidecv).mono ?_); (case sidecv => exact HCV.out.below (by repeat (first | (with_reducible first | exact HB.out | apply below_alloc | apply pw_below_drewN | apply below_drew1 | refine below_set ?_ GE177.out) | exact HB.out))); (case side1 => repeat (first | exact (Kd.C_below HR0_3.out HB.out) | (with_reducible refine Kd.C_alloc ?_ _) | (with_reducible refine Kd.C_drewN ?_ _) | (with_reducible refine Kd.C_drew ?_))); (case side2 => exact HC0_3.out); (case side3 => repeat (first | exact (Kd.C_below HR0_4.out HB.out) | (with_reducible refine Kd.C_alloc ?_ _) | (with_reducible refine Kd.C_drewN ?_ _) | (with_reducible refine Kd.C_drew ?_))); (case side4 => exact HC0_4.out); rintro e w52 ⟨v187, rfl, ho0, hb⟩; refine ⟨_, rfl, ?_⟩; have n0_ := Aside0.mk (Kd.R_elder' (by (with_reducible repeat (first | apply Kd.R_alloc | apply Kd.R_drewN | apply Kd.R_drew)); exact HO_5.out) (Kd.R_base ho0) hb); have n1_ := Aside0.mk (Kd.R_elder' (by (with_reducible repeat (first | apply Kd.R_alloc | apply Kd.R_drewN | apply Kd.R_drew)); exact HO_49.out) (Kd.R_base ho0) hb); have n2_ := Aside0.mk (Kd.R_lower (Kd.R_new' (Kd.R_new' ho0 (Kd.R_lt (by (with_reducible repeat (first | apply Kd.R_alloc | apply Kd.R_drewN | apply Kd.R_drew)); exact HO_5.out))) (Kd.R_lt (by (with_reducible repeat (first | apply Kd.R_alloc | apply Kd.R_drewN | apply Kd.R_drew)); exact HO_49.out))) (below_size (by repeat (first | (with_reducible first | exact HB.out | apply below_alloc | apply pw_below_drewN | apply below_drew1 | refine below_set ?_ GE177.out) | exact HB.out)))); have n3_ := Aside0.mk (blk_below (g := gb177) (o := .cells #[.int .i64 a0_0, .string a0_1, .string a0_2, .slice A0_3 l0_3.length c0_3, .slice A0_4 l0_4.length c0_4] 25 (0, 0)) (by (with_reducible repeat (first | refine blk_drewN ?_ _ | refine blk_drew ?_ | refine blk_alloc ?_ _)); exact BK177.out) hb); have n4_ := Aside0.mk (below_step (by repeat (first | (with_reducible first | exact HB.out | apply below_alloc | apply pw_below_drewN | apply below_drew1 | refine below_set ?_ GE177.out) | exact HB.out)) hb); clear HO_5; clear HO_49; clear BK177; clear HB; have HO_5 := n0_; have HO_49 := n1_; have HO188 := n2_; have BK177 := n3_; have HB := n4_; clear n0_ n1_ n2_ n3_ n4_; (try clear hb); (try clear hb2); (try clear hk); (try clear hi); (try clear ho0); obtain ⟨Ao53, co53, eo53⟩ := Kd.R_slice HO188.out; subst eo53) | ((with_reducible refine gate_callee (f := 11) rfl ?_); refine goesL_ (some 65) rfl rfl Tryd.func11 (by kernel_rfl) rfl #[.slice Ao53 t186.length co53, .slice Ao40 x5_2.length co40] rfl (by (try simp only [List.map_toArray, List.map_cons, List.map_nil]); first | done | rfl | (simp only [List.length_drop, List.length_take]; rfl)) ?_; (with_reducible refine (laws_same29.calls k3 _ _ t186 _ _ x5_2 true _ ?side1 ?side2 ?side3 ?side4 A46.out).mono ?_); (case side1 => repeat (first | exact (Kd.R_reads' HO188.out).2.2 | (with_reducible refine Kd.C_alloc ?_ _) | (with_reducible refine Kd.C_drewN ?_ _) | (with_reducible refine Kd.C_drew ?_))); (case side2 => exact (Kd.R_reads' HO188.out).2.1); (case side3 => repeat (first | exact (Kd.R_reads' HO_5.out).2.2 | (with_reducible refine Kd.C_alloc ?_ _) | (with_reducible refine Kd.C_drewN ?_ _) | (with_reducible refine Kd.C_drew ?_))); (case side4 => exact (Kd.R_reads' HO_5.out).2.1); rintro e w' ⟨rfl, ⟨nd, rfl⟩⟩; refine ⟨_, rfl, ?_⟩; have hcz54_0 : w52.cell? ⟨gb177, 0, none⟩ = some (.int .i64 a0_0) := (blk_cell BK177.out 0).trans rfl; have hcz54_1 : w52.cell? ⟨gb177, 1, none⟩ = some (.string a0_1) := (blk_cell BK177.out 1).trans rfl; have hcz54_2 : w52.cell? ⟨gb177, 2, none⟩ = some (.string a0_2) := (blk_cell BK177.out 2).trans rfl; have hcz54_3 : w52.cell? ⟨gb177, 3, none⟩ = some (.slice A0_3 l0_3.length c0_3) := (blk_cell BK177.out 3).trans rfl; have hcz54_4 : w52.cell? ⟨gb177, 4, none⟩ = some (.slice A0_4 l0_4.length c0_4) := (blk_cell BK177.out 4).trans rfl; have hfz54_0 := blk_frozen BK177.out 0; have hfz54_1 := blk_frozen BK177.out 1; have hfz54_2 := blk_frozen BK177.out 2; have hfz54_3 := blk_frozen BK177.out 3; have hfz54_4 := blk_frozen BK177.out 4) | (go_at_call 13; (with_reducible refine (impl_HasClass.calls k3 a0_0 a0_1 a0_2 _ _ l0_3 _ _ l0_4 a1 t190 _ ?side1 ?side2 ?side3 ?side4 A48.out ?sidecv).mono ?_); (case sidecv => exact HCV.out.below (by repeat (first | (with_reducible first | exact HB.out | apply below_alloc | apply pw_below_drewN | apply below_drew1 | refine below_set ?_ GE177.out) | exact HB.out))); (case side1 => repeat (first | exact (Kd.C_below HR0_3.out (by repeat (first | (with_reducible first | exact HB.out | apply below_alloc | apply pw_below_drewN | apply below_drew1 | refine below_set ?_ GE177.out) | exact HB.out))) | (with_reducible refine Kd.C_alloc ?_ _) | (with_reducible refine Kd.C_drewN ?_ _) | (with_reducible refine Kd.C_drew ?_))); (case side2 => exact HC0_3.out); (case side3 => repeat (first | exact (Kd.C_below HR0_4.out (by repeat (first | (with_reducible first | exact HB.out | apply below_alloc | apply pw_below_drewN | apply below_drew1 | refine below_set ?_ GE177.out) | exact HB.out))) | (with_reducible refine Kd.C_alloc ?_ _) | (with_reducible refine Kd.C_drewN ?_ _) | (with_reducible refine Kd.C_drew ?_))); (case side4 => exact HC0_4.out); rintro e w55 ⟨rfl, hb⟩; have n0_ := Aside0.mk (Kd.R_below (by (with_reducible repeat (first | apply Kd.R_alloc | apply Kd.R_drewN | apply Kd.R_drew)); exact HO_5.out) hb); have n1_ := Aside0.mk (Kd.R_below (by (with_reducible repeat (first | apply Kd.R_alloc | apply Kd.R_drewN | apply Kd.R_drew)); exact HO_49.out) hb); have n2_ := Aside0.mk (Kd.R_below (by (with_reducible repeat (first | apply Kd.R_alloc | apply Kd.R_drewN | apply Kd.R_drew)); exact HO188.out) hb); have n3_ := Aside0.mk (blk_below (g := gb177) (o := .cells #[.int .i64 a0_0, .string a0_1, .string a0_2, .slice A0_3 l0_3.length c0_3, .slice A0_4 l0_4.length c0_4] 25 (0, 0)) (by (with_reducible repeat (first | refine blk_drewN ?_ _ | refine blk_drew ?_ | refine blk_alloc ?_ _)); exact BK177.out) hb); have n4_ := Aside0.mk (below_step (by repeat (first | (with_reducible first | exact HB.out | apply below_alloc | apply pw_below_drewN | apply below_drew1 | refine below_set ?_ GE177.out) | exact HB.out)) hb); clear HO_5; clear HO_49; clear HO188; clear BK177; clear HB; have HO_5 := n0_; have HO_49 := n1_; have HO188 := n2_; have BK177 := n3_; have HB := n4_; clear n0_ n1_ n2_ n3_ n4_; (try clear hb); (try clear hb2); (try clear hk); (try clear hi)) | (go_at_call 9; (with_reducible refine (laws_living29.calls k3  t191 _ A50.out).mono ?_); rintro e w56 ⟨rfl, hb⟩; have n0_ := Aside0.mk (Kd.R_below (by (with_reducible repeat (first | apply Kd.R_alloc | apply Kd.R_drewN | apply Kd.R_drew)); exact HO_5.out) hb); have n1_ := Aside0.mk (Kd.R_below (by (with_reducible repeat (first | apply Kd.R_alloc | apply Kd.R_drewN | apply Kd.R_drew)); exact HO_49.out) hb); have n2_ := Aside0.mk (Kd.R_below (by (with_reducible repeat (first | apply Kd.R_alloc | apply Kd.R_drewN | apply Kd.R_drew)); exact HO188.out) hb); have n3_ := Aside0.mk (blk_below (g := gb177) (o := .cells #[.int .i64 a0_0, .string a0_1, .string a0_2, .slice A0_3 l0_3.length c0_3, .slice A0_4 l0_4.length c0_4] 25 (0, 0)) (by (with_reducible repeat (first | refine blk_drewN ?_ _ | refine blk_drew ?_ | refine blk_alloc ?_ _)); exact BK177.out) hb); have n4_ := Aside0.mk (below_step (by repeat (first | (with_reducible first | exact HB.out | apply below_alloc | apply pw_below_drewN | apply below_drew1 | refine below_set ?_ GE177.out) | exact HB.out)) hb); clear HO_5; clear HO_49; clear HO188; clear BK177; clear HB; have HO_5 := n0_; have HO_49 := n1_; have HO188 := n2_; have BK177 := n3_; have HB := n4_; clear n0_ n1_ n2_ n3_ n4_; (try clear hb); (try clear hb2); (try clear hk); (try clear hi)))
                          go_ret
                          exact ⟨by first | rfl | (simp [errW_none, errW_some] <;> rfl) | (simp [*, errW_none, errW_some] <;> rfl), by repeat (first | (with_reducible first | exact HB.out | apply below_alloc | apply pw_below_drewN | apply below_drew1 | refine below_set ?_ GE177.out) | exact HB.out)⟩
                        · rw [if_neg c49] at H
                          have c49b0 : (t190 == x9_3) = false := by simpa using c49
                          (try (have c49b1 : decide (t190 = x9_3) = false := by simpa using c49))
                          (try (have c49b2 : (t190 == x9_3) = false := by simpa using c49))
                          (try (have c49b3 : ¬ (t190 = x9_3) := by simpa using c49))
                          clear c49
                          obtain rfl := Option.some.inj H
                          have hcz57_0 : wr.cell? ⟨gb177, 0, none⟩ = some (.int .i64 a0_0) := (blk_cell BK177.out 0).trans rfl
                          have hcz57_1 : wr.cell? ⟨gb177, 1, none⟩ = some (.string a0_1) := (blk_cell BK177.out 1).trans rfl
                          have hcz57_2 : wr.cell? ⟨gb177, 2, none⟩ = some (.string a0_2) := (blk_cell BK177.out 2).trans rfl
                          have hcz57_3 : wr.cell? ⟨gb177, 3, none⟩ = some (.slice A0_3 l0_3.length c0_3) := (blk_cell BK177.out 3).trans rfl
                          have hcz57_4 : wr.cell? ⟨gb177, 4, none⟩ = some (.slice A0_4 l0_4.length c0_4) := (blk_cell BK177.out 4).trans rfl
                          have hfz57_0 := blk_frozen BK177.out 0
                          have hfz57_1 := blk_frozen BK177.out 1
                          have hfz57_2 := blk_frozen BK177.out 2
                          have hfz57_3 := blk_frozen BK177.out 3
                          have hfz57_4 := blk_frozen BK177.out 4
                          go_wp2_with (first | ((with_reducible refine gate_callee (f := 12) rfl ?_); refine goesL_ (some 63) rfl rfl Tryd.func12 (by kernel_rfl) rfl #[.agg #[.int .i64 a0_0, .string a0_1, .string a0_2, .slice A0_3 l0_3.length c0_3, .slice A0_4 l0_4.length c0_4]] rfl (by (try simp only [List.map_toArray, List.map_cons, List.map_nil]); first | done | rfl | (simp only [List.length_drop, List.length_take]; rfl)) ?_; (with_reducible refine (impl_Classes.calls k3 a0_0 a0_1 a0_2 _ _ l0_3 _ _ l0_4 t186 _ ?side1 ?side2 ?side3 ?side4 A45.out ?sidecv).mono ?_); (case sidecv => exact HCV.out.below (by repeat (first | (with_reducible first | exact HB.out | apply below_alloc | apply pw_below_drewN | apply below_drew1 | refine below_set ?_ GE177.out) | exact HB.out))); (case side1 => repeat (first | exact (Kd.C_below HR0_3.out HB.out) | (with_reducible refine Kd.C_alloc ?_ _) | (with_reducible refine Kd.C_drewN ?_ _) | (with_reducible refine Kd.C_drew ?_))); (case side2 => exact HC0_3.out); (case side3 => repeat (first | exact (Kd.C_below HR0_4.out HB.out) | (with_reducible refine Kd.C_alloc ?_ _) | (with_reducible refine Kd.C_drewN ?_ _) | (with_reducible refine Kd.C_drew ?_))); (case side4 => exact HC0_4.out); rintro e w58 ⟨v187, rfl, ho0, hb⟩; refine ⟨_, rfl, ?_⟩; have n0_ := Aside0.mk (Kd.R_elder' (by (with_reducible repeat (first | apply Kd.R_alloc | apply Kd.R_drewN | apply Kd.R_drew)); exact HO_5.out) (Kd.R_base ho0) hb); have n1_ := Aside0.mk (Kd.R_elder' (by (with_reducible repeat (first | apply Kd.R_alloc | apply Kd.R_drewN | apply Kd.R_drew)); exact HO_49.out) (Kd.R_base ho0) hb); have n2_ := Aside0.mk (Kd.R_lower (Kd.R_new' (Kd.R_new' ho0 (Kd.R_lt (by (with_reducible repeat (first | apply Kd.R_alloc | apply Kd.R_drewN | apply Kd.R_drew)); exact HO_5.out))) (Kd.R_lt (by (with_reducible repeat (first | apply Kd.R_alloc | apply Kd.R_drewN | apply Kd.R_drew)); exact HO_49.out))) (below_size (by repeat (first | (with_reducible first | exact HB.out | apply below_alloc | apply pw_below_drewN | apply below_drew1 | refine below_set ?_ GE177.out) | exact HB.out)))); have n3_ := Aside0.mk (blk_below (g := gb177) (o := .cells #[.int .i64 a0_0, .string a0_1, .string a0_2, .slice A0_3 l0_3.length c0_3, .slice A0_4 l0_4.length c0_4] 25 (0, 0)) (by (with_reducible repeat (first | refine blk_drewN ?_ _ | refine blk_drew ?_ | refine blk_alloc ?_ _)); exact BK177.out) hb); have n4_ := Aside0.mk (below_step (by repeat (first | (with_reducible first | exact HB.out | apply below_alloc | apply pw_below_drewN | apply below_drew1 | refine below_set ?_ GE177.out) | exact HB.out)) hb); clear HO_5; clear HO_49; clear BK177; clear HB; have HO_5 := n0_; have HO_49 := n1_; have HO188 := n2_; have BK177 := n3_; have HB := n4_; clear n0_ n1_ n2_ n3_ n4_; (try clear hb); (try clear hb2); (try clear hk); (try clear hi); (try clear ho0); obtain ⟨Ao59, co59, eo59⟩ := Kd.R_slice HO188.out; subst eo59) | ((with_reducible refine gate_callee (f := 11) rfl ?_); refine goesL_ (some 65) rfl rfl Tryd.func11 (by kernel_rfl) rfl #[.slice Ao59 t186.length co59, .slice Ao40 x5_2.length co40] rfl (by (try simp only [List.map_toArray, List.map_cons, List.map_nil]); first | done | rfl | (simp only [List.length_drop, List.length_take]; rfl)) ?_; (with_reducible refine (laws_same29.calls k3 _ _ t186 _ _ x5_2 true _ ?side1 ?side2 ?side3 ?side4 A46.out).mono ?_); (case side1 => repeat (first | exact (Kd.R_reads' HO188.out).2.2 | (with_reducible refine Kd.C_alloc ?_ _) | (with_reducible refine Kd.C_drewN ?_ _) | (with_reducible refine Kd.C_drew ?_))); (case side2 => exact (Kd.R_reads' HO188.out).2.1); (case side3 => repeat (first | exact (Kd.R_reads' HO_5.out).2.2 | (with_reducible refine Kd.C_alloc ?_ _) | (with_reducible refine Kd.C_drewN ?_ _) | (with_reducible refine Kd.C_drew ?_))); (case side4 => exact (Kd.R_reads' HO_5.out).2.1); rintro e w' ⟨rfl, ⟨nd, rfl⟩⟩; refine ⟨_, rfl, ?_⟩; have hcz60_0 : w58.cell? ⟨gb177, 0, none⟩ = some (.int .i64 a0_0) := (blk_cell BK177.out 0).trans rfl; have hcz60_1 : w58.cell? ⟨gb177, 1, none⟩ = some (.string a0_1) := (blk_cell BK177.out 1).trans rfl; have hcz60_2 : w58.cell? ⟨gb177, 2, none⟩ = some (.string a0_2) := (blk_cell BK177.out 2).trans rfl; have hcz60_3 : w58.cell? ⟨gb177, 3, none⟩ = some (.slice A0_3 l0_3.length c0_3) := (blk_cell BK177.out 3).trans rfl; have hcz60_4 : w58.cell? ⟨gb177, 4, none⟩ = some (.slice A0_4 l0_4.length c0_4) := (blk_cell BK177.out 4).trans rfl; have hfz60_0 := blk_frozen BK177.out 0; have hfz60_1 := blk_frozen BK177.out 1; have hfz60_2 := blk_frozen BK177.out 2; have hfz60_3 := blk_frozen BK177.out 3; have hfz60_4 := blk_frozen BK177.out 4) | (go_at_call 13; (with_reducible refine (impl_HasClass.calls k3 a0_0 a0_1 a0_2 _ _ l0_3 _ _ l0_4 a1 t190 _ ?side1 ?side2 ?side3 ?side4 A48.out ?sidecv).mono ?_); (case sidecv => exact HCV.out.below (by repeat (first | (with_reducible first | exact HB.out | apply below_alloc | apply pw_below_drewN | apply below_drew1 | refine below_set ?_ GE177.out) | exact HB.out))); (case side1 => repeat (first | exact (Kd.C_below HR0_3.out (by repeat (first | (with_reducible first | exact HB.out | apply below_alloc | apply pw_below_drewN | apply below_drew1 | refine below_set ?_ GE177.out) | exact HB.out))) | (with_reducible refine Kd.C_alloc ?_ _) | (with_reducible refine Kd.C_drewN ?_ _) | (with_reducible refine Kd.C_drew ?_))); (case side2 => exact HC0_3.out); (case side3 => repeat (first | exact (Kd.C_below HR0_4.out (by repeat (first | (with_reducible first | exact HB.out | apply below_alloc | apply pw_below_drewN | apply below_drew1 | refine below_set ?_ GE177.out) | exact HB.out))) | (with_reducible refine Kd.C_alloc ?_ _) | (with_reducible refine Kd.C_drewN ?_ _) | (with_reducible refine Kd.C_drew ?_))); (case side4 => exact HC0_4.out); rintro e w61 ⟨rfl, hb⟩; have n0_ := Aside0.mk (Kd.R_below (by (with_reducible repeat (first | apply Kd.R_alloc | apply Kd.R_drewN | apply Kd.R_drew)); exact HO_5.out) hb); have n1_ := Aside0.mk (Kd.R_below (by (with_reducible repeat (first | apply Kd.R_alloc | apply Kd.R_drewN | apply Kd.R_drew)); exact HO_49.out) hb); have n2_ := Aside0.mk (Kd.R_below (by (with_reducible repeat (first | apply Kd.R_alloc | apply Kd.R_drewN | apply Kd.R_drew)); exact HO188.out) hb); have n3_ := Aside0.mk (blk_below (g := gb177) (o := .cells #[.int .i64 a0_0, .string a0_1, .string a0_2, .slice A0_3 l0_3.length c0_3, .slice A0_4 l0_4.length c0_4] 25 (0, 0)) (by (with_reducible repeat (first | refine blk_drewN ?_ _ | refine blk_drew ?_ | refine blk_alloc ?_ _)); exact BK177.out) hb); have n4_ := Aside0.mk (below_step (by repeat (first | (with_reducible first | exact HB.out | apply below_alloc | apply pw_below_drewN | apply below_drew1 | refine below_set ?_ GE177.out) | exact HB.out)) hb); clear HO_5; clear HO_49; clear HO188; clear BK177; clear HB; have HO_5 := n0_; have HO_49 := n1_; have HO188 := n2_; have BK177 := n3_; have HB := n4_; clear n0_ n1_ n2_ n3_ n4_; (try clear hb); (try clear hb2); (try clear hk); (try clear hi)))
                          go_ret
                          exact ⟨by first | rfl | (simp [errW_none, errW_some] <;> rfl) | (simp [*, errW_none, errW_some] <;> rfl), by repeat (first | (with_reducible first | exact HB.out | apply below_alloc | apply pw_below_drewN | apply below_drew1 | refine below_set ?_ GE177.out) | exact HB.out)⟩
                      · replace c47 := Bool.eq_false_iff.mpr c47
                        subst c47
                        have H1 : (some false) = some r := by rw [if_neg (show ¬ (false = true) by decide)] at H; exact H
                        clear H
                        have H := H1
                        clear H1
                        obtain rfl := Option.some.inj H
                        have hcz62_0 : wr.cell? ⟨gb177, 0, none⟩ = some (.int .i64 a0_0) := (blk_cell BK177.out 0).trans rfl
                        have hcz62_1 : wr.cell? ⟨gb177, 1, none⟩ = some (.string a0_1) := (blk_cell BK177.out 1).trans rfl
                        have hcz62_2 : wr.cell? ⟨gb177, 2, none⟩ = some (.string a0_2) := (blk_cell BK177.out 2).trans rfl
                        have hcz62_3 : wr.cell? ⟨gb177, 3, none⟩ = some (.slice A0_3 l0_3.length c0_3) := (blk_cell BK177.out 3).trans rfl
                        have hcz62_4 : wr.cell? ⟨gb177, 4, none⟩ = some (.slice A0_4 l0_4.length c0_4) := (blk_cell BK177.out 4).trans rfl
                        have hfz62_0 := blk_frozen BK177.out 0
                        have hfz62_1 := blk_frozen BK177.out 1
                        have hfz62_2 := blk_frozen BK177.out 2
                        have hfz62_3 := blk_frozen BK177.out 3
                        have hfz62_4 := blk_frozen BK177.out 4
                        go_wp2_with (first | ((with_reducible refine gate_callee (f := 12) rfl ?_); refine goesL_ (some 63) rfl rfl Tryd.func12 (by kernel_rfl) rfl #[.agg #[.int .i64 a0_0, .string a0_1, .string a0_2, .slice A0_3 l0_3.length c0_3, .slice A0_4 l0_4.length c0_4]] rfl (by (try simp only [List.map_toArray, List.map_cons, List.map_nil]); first | done | rfl | (simp only [List.length_drop, List.length_take]; rfl)) ?_; (with_reducible refine (impl_Classes.calls k3 a0_0 a0_1 a0_2 _ _ l0_3 _ _ l0_4 t186 _ ?side1 ?side2 ?side3 ?side4 A45.out ?sidecv).mono ?_); (case sidecv => exact HCV.out.below (by repeat (first | (with_reducible first | exact HB.out | apply below_alloc | apply pw_below_drewN | apply below_drew1 | refine below_set ?_ GE177.out) | exact HB.out))); (case side1 => repeat (first | exact (Kd.C_below HR0_3.out HB.out) | (with_reducible refine Kd.C_alloc ?_ _) | (with_reducible refine Kd.C_drewN ?_ _) | (with_reducible refine Kd.C_drew ?_))); (case side2 => exact HC0_3.out); (case side3 => repeat (first | exact (Kd.C_below HR0_4.out HB.out) | (with_reducible refine Kd.C_alloc ?_ _) | (with_reducible refine Kd.C_drewN ?_ _) | (with_reducible refine Kd.C_drew ?_))); (case side4 => exact HC0_4.out); rintro e w63 ⟨v187, rfl, ho0, hb⟩; refine ⟨_, rfl, ?_⟩; have n0_ := Aside0.mk (Kd.R_elder' (by (with_reducible repeat (first | apply Kd.R_alloc | apply Kd.R_drewN | apply Kd.R_drew)); exact HO_5.out) (Kd.R_base ho0) hb); have n1_ := Aside0.mk (Kd.R_elder' (by (with_reducible repeat (first | apply Kd.R_alloc | apply Kd.R_drewN | apply Kd.R_drew)); exact HO_49.out) (Kd.R_base ho0) hb); have n2_ := Aside0.mk (Kd.R_lower (Kd.R_new' (Kd.R_new' ho0 (Kd.R_lt (by (with_reducible repeat (first | apply Kd.R_alloc | apply Kd.R_drewN | apply Kd.R_drew)); exact HO_5.out))) (Kd.R_lt (by (with_reducible repeat (first | apply Kd.R_alloc | apply Kd.R_drewN | apply Kd.R_drew)); exact HO_49.out))) (below_size (by repeat (first | (with_reducible first | exact HB.out | apply below_alloc | apply pw_below_drewN | apply below_drew1 | refine below_set ?_ GE177.out) | exact HB.out)))); have n3_ := Aside0.mk (blk_below (g := gb177) (o := .cells #[.int .i64 a0_0, .string a0_1, .string a0_2, .slice A0_3 l0_3.length c0_3, .slice A0_4 l0_4.length c0_4] 25 (0, 0)) (by (with_reducible repeat (first | refine blk_drewN ?_ _ | refine blk_drew ?_ | refine blk_alloc ?_ _)); exact BK177.out) hb); have n4_ := Aside0.mk (below_step (by repeat (first | (with_reducible first | exact HB.out | apply below_alloc | apply pw_below_drewN | apply below_drew1 | refine below_set ?_ GE177.out) | exact HB.out)) hb); clear HO_5; clear HO_49; clear BK177; clear HB; have HO_5 := n0_; have HO_49 := n1_; have HO188 := n2_; have BK177 := n3_; have HB := n4_; clear n0_ n1_ n2_ n3_ n4_; (try clear hb); (try clear hb2); (try clear hk); (try clear hi); (try clear ho0); obtain ⟨Ao64, co64, eo64⟩ := Kd.R_slice HO188.out; subst eo64) | ((with_reducible refine gate_callee (f := 11) rfl ?_); refine goesL_ (some 65) rfl rfl Tryd.func11 (by kernel_rfl) rfl #[.slice Ao64 t186.length co64, .slice Ao40 x5_2.length co40] rfl (by (try simp only [List.map_toArray, List.map_cons, List.map_nil]); first | done | rfl | (simp only [List.length_drop, List.length_take]; rfl)) ?_; (with_reducible refine (laws_same29.calls k3 _ _ t186 _ _ x5_2 false _ ?side1 ?side2 ?side3 ?side4 A46.out).mono ?_); (case side1 => repeat (first | exact (Kd.R_reads' HO188.out).2.2 | (with_reducible refine Kd.C_alloc ?_ _) | (with_reducible refine Kd.C_drewN ?_ _) | (with_reducible refine Kd.C_drew ?_))); (case side2 => exact (Kd.R_reads' HO188.out).2.1); (case side3 => repeat (first | exact (Kd.R_reads' HO_5.out).2.2 | (with_reducible refine Kd.C_alloc ?_ _) | (with_reducible refine Kd.C_drewN ?_ _) | (with_reducible refine Kd.C_drew ?_))); (case side4 => exact (Kd.R_reads' HO_5.out).2.1); rintro e w' ⟨rfl, ⟨nd, rfl⟩⟩; refine ⟨_, rfl, ?_⟩))
                        go_ret
                        exact ⟨by first | rfl | (simp [errW_none, errW_some] <;> rfl) | (simp [*, errW_none, errW_some] <;> rfl), by repeat (first | (with_reducible first | exact HB.out | apply below_alloc | apply pw_below_drewN | apply below_drew1 | refine below_set ?_ GE177.out) | exact HB.out)⟩
        · replace c13 := Bool.eq_false_iff.mpr c13
          subst c13
          have H1 : (some true) = some r := by rw [if_neg (show ¬ (false = true) by decide)] at H; exact H
          clear H
          have H := H1
          clear H1
          obtain rfl := Option.some.inj H
          have hcz65_0 : wc.cell? ⟨gb177, 0, none⟩ = some (.int .i64 a0_0) := (blk_cell BK177.out 0).trans rfl
          have hcz65_1 : wc.cell? ⟨gb177, 1, none⟩ = some (.string a0_1) := (blk_cell BK177.out 1).trans rfl
          have hcz65_2 : wc.cell? ⟨gb177, 2, none⟩ = some (.string a0_2) := (blk_cell BK177.out 2).trans rfl
          have hcz65_3 : wc.cell? ⟨gb177, 3, none⟩ = some (.slice A0_3 l0_3.length c0_3) := (blk_cell BK177.out 3).trans rfl
          have hcz65_4 : wc.cell? ⟨gb177, 4, none⟩ = some (.slice A0_4 l0_4.length c0_4) := (blk_cell BK177.out 4).trans rfl
          have hfz65_0 := blk_frozen BK177.out 0
          have hfz65_1 := blk_frozen BK177.out 1
          have hfz65_2 := blk_frozen BK177.out 2
          have hfz65_3 := blk_frozen BK177.out 3
          have hfz65_4 := blk_frozen BK177.out 4
          go_wp2_with (first | ((with_reducible refine gate_callee (f := 6) rfl ?_); refine goesL_ (some 21) rfl rfl Tryd.func6 (by kernel_rfl) rfl #[.agg #[.int .i64 a0_0, .string a0_1, .string a0_2, .slice A0_3 l0_3.length c0_3, .slice A0_4 l0_4.length c0_4]] rfl (by (try simp only [List.map_toArray, List.map_cons, List.map_nil]); first | done | rfl | (simp only [List.length_drop, List.length_take]; rfl)) ?_; (with_reducible refine (laws_tree29.calls kj2 a0_0 a0_1 a0_2 _ _ l0_3 _ _ l0_4 false _ ?side1 ?side2 ?side3 ?side4 A12.out).mono ?_); (case side1 => repeat (first | exact (Kd.C_below HR0_3.out HB.out) | (with_reducible refine Kd.C_alloc ?_ _) | (with_reducible refine Kd.C_drewN ?_ _) | (with_reducible refine Kd.C_drew ?_))); (case side2 => exact HC0_3.out); (case side3 => repeat (first | exact (Kd.C_below HR0_4.out HB.out) | (with_reducible refine Kd.C_alloc ?_ _) | (with_reducible refine Kd.C_drewN ?_ _) | (with_reducible refine Kd.C_drew ?_))); (case side4 => exact HC0_4.out); rintro e w66 ⟨rfl, hb⟩; refine ⟨_, rfl, ?_⟩; have n0_ := Aside0.mk (blk_below (g := gb177) (o := .cells #[.int .i64 a0_0, .string a0_1, .string a0_2, .slice A0_3 l0_3.length c0_3, .slice A0_4 l0_4.length c0_4] 25 (0, 0)) (by (with_reducible repeat (first | refine blk_drewN ?_ _ | refine blk_drew ?_ | refine blk_alloc ?_ _)); exact BK177.out) hb); have n1_ := Aside0.mk (below_step (by repeat (first | (with_reducible first | exact HB.out | apply below_alloc | apply pw_below_drewN | apply below_drew1 | refine below_set ?_ GE177.out) | exact HB.out)) hb); clear BK177; clear HB; have BK177 := n0_; have HB := n1_; clear n0_ n1_; (try clear hb); (try clear hb2); (try clear hk); (try clear hi)))
          go_ret
          exact ⟨by first | rfl | (simp [errW_none, errW_some] <;> rfl) | (simp [*, errW_none, errW_some] <;> rfl), by repeat (first | (with_reducible first | exact HB.out | apply below_alloc | apply pw_below_drewN | apply below_drew1 | refine below_set ?_ GE177.out) | exact HB.out)⟩
end Go.Proofs.YtibfoaahdbdogaaDoor.PDom

/- living29 is true. Plain facts. -/
namespace Go.Proofs.YtibfoaahdbdogaaDoor.PDom
open Go.RowKit Go.Proofs.YtibfoaahdbdogaaDoorW.PrintWords Go.Proofs.YtibfoaahdbdogaaDoorW.PrintLast Go.Proofs.YtibfoaahdbdogaaDoorW.PrintMore Go.Proofs.YtibfoaahdbdogaaDoor.Dom
set_option linter.unusedVariables false
set_option linter.unusedSimpArgs false

theorem name_ev {t : T} (ht : Fit t) {K : Nat} (h : laws_tree29.f K t.f0 t.f1 t.f2 t.f3 t.f4 = some true) : Ev (fun k => impl_NameOf.f k t.f0 t.f1 t.f2 t.f3 t.f4) (if t.f0 = 3 then docName else t.f1) := by
  obtain ⟨K3, e3⟩ := fitB_ev t ht
  have e2 := Ev.of (fun k => laws_tree29.mono t.f0 t.f1 t.f2 t.f3 t.f4 k) h
  obtain ⟨K2, h2⟩ := e2
  refine ⟨K2 + K3, fun k hk => ?_⟩
  have h4 : laws_tree29.f k t.f0 t.f1 t.f2 t.f3 t.f4 = some true := h2 k (by omega)
  show impl_NameOf.f k _ _ _ _ _ = _
  unfold impl_NameOf.f
  rw [h4, Option.bind_some, if_pos rfl, if_pos (e3 k (by omega))]
theorem all_ev {t : T} (ht : Fit t) {K : Nat} (h : laws_tree29.f K t.f0 t.f1 t.f2 t.f3 t.f4 = some true) : Ev (fun k => impl_AllNodes.f k t.f0 t.f1 t.f2 t.f3 t.f4) (pathsT [] t) := by
  obtain ⟨K3, e3⟩ := fitB_ev t ht
  have e2 := Ev.of (fun k => laws_tree29.mono t.f0 t.f1 t.f2 t.f3 t.f4 k) h
  obtain ⟨K2, h2⟩ := e2
  refine ⟨K2 + K3, fun k hk => ?_⟩
  have h4 : laws_tree29.f k t.f0 t.f1 t.f2 t.f3 t.f4 = some true := h2 k (by omega)
  show impl_AllNodes.f k _ _ _ _ _ = _
  unfold impl_AllNodes.f
  rw [h4, Option.bind_some, if_pos rfl, if_pos (e3 k (by omega))]
  cases t
  rfl
def liveT : T := ⟨0, ⟨#[112]⟩, ⟨#[]⟩, [], [⟨1, ⟨#[]⟩, ⟨#[97]⟩, [], []⟩]⟩
theorem live_fit : Fit liveT := Fit.mk _ (by decide) (by decide) (fun y hy => by
  have : y = ⟨1, ⟨#[]⟩, ⟨#[97]⟩, [], []⟩ := by simpa [liveT] using hy
  subst this
  exact Fit.mk _ (by decide) (by decide) (fun y hy => by cases hy))
theorem live_tree : laws_tree29.f 40 liveT.f0 liveT.f1 liveT.f2 liveT.f3 liveT.f4 = some true := by decide +kernel
theorem living_ev : Ev (fun k => laws_living29.f k) true := by
  have e1 := name_ev live_fit live_tree
  have e2 := all_ev live_fit live_tree
  refine Ev.congr (f := fun k => (impl_NameOf.f k liveT.f0 liveT.f1 liveT.f2 liveT.f3 liveT.f4).bind fun t159 => (if t159.toList = ([112] : List UInt8) then ((impl_AllNodes.f k liveT.f0 liveT.f1 liveT.f2 liveT.f3 liveT.f4).bind fun t160 => (some ((t160.length : Int) == 2))) else (some false))) (fun k => ?_) ?_
  · rw [laws_living29.f]
    rfl
  · refine Ev.bind e1 ?_
    have h1 : ((if liveT.f0 = 3 then docName else liveT.f1).toList = ([112] : List UInt8)) := by decide +kernel
    simp only [if_pos h1]
    refine Ev.bind e2 ?_
    have h2 : ((pathsT [] liveT).length : Int) == 2 := by rw [pathsT_len]; decide +kernel
    rw [h2]
    exact Ev.now _
end Go.Proofs.YtibfoaahdbdogaaDoor.PDom

/- Plain facts on texts as lists of numbers: joined, cut, read back. No conditions. -/
namespace Go.Proofs.YtibfoaahdbdogaaDoor.Txt
open Go.RowKit Go.Proofs.YtibfoaahdbdogaaDoorW.PrintWords Go.Proofs.YtibfoaahdbdogaaDoorW.PrintLast Go.Proofs.YtibfoaahdbdogaaDoorW.PrintMore

/-- All numbers are bytes. -/
def Byt (l : List Int) : Prop := ∀ x ∈ l, 0 ≤ x ∧ x < 256
theorem Byt.nil : Byt [] := fun _ h => by cases h
theorem Byt.app {a b : List Int} (h : Byt a) (k : Byt b) : Byt (a ++ b) := fun x hx => by
  rcases List.mem_append.1 hx with h1 | h1
  · exact h x h1
  · exact k x h1
theorem Byt.one {x : Int} (h0 : 0 ≤ x) (h1 : x < 256) : Byt [x] := fun y hy => by
  obtain rfl : y = x := by simpa using hy
  exact ⟨h0, h1⟩
theorem Byt.cons {x : Int} {l : List Int} (h0 : 0 ≤ x) (h1 : x < 256) (h : Byt l) : Byt (x :: l) := (Byt.one h0 h1).app h
theorem Byt.take {l : List Int} (h : Byt l) (n : Nat) : Byt (l.take n) := fun x hx => h x (List.mem_of_mem_take hx)
theorem Byt.drop {l : List Int} (h : Byt l) (n : Nat) : Byt (l.drop n) := fun x hx => h x (List.mem_of_mem_drop hx)
theorem Byt.of (s : ByteArray) : Byt (bytesOf s) := fun x hx => by
  obtain ⟨b, _, rfl⟩ := List.mem_map.1 hx
  have := b.toNat_lt
  omega
theorem str_bytes (s : ByteArray) : strOfNums (bytesOf s) = s := by
  apply ByteArray.ext
  apply Array.ext'
  show ((bytesOf s).map fun n => UInt8.ofNat n.toNat) = s.data.toList
  unfold bytesOf
  rw [List.map_map]
  exact (List.map_congr_left (fun b _ => by simp)).trans (List.map_id _)
theorem bt_rd (s : ByteArray) (i : Int) : bt s i = rd (bytesOf s) i := (rd_bytesOf s i).symm
theorem rd_get {l : List Int} {i : Nat} (h : i < l.length) : rd l (i : Int) = l[i] := by simp [rd, List.getD_eq_getElem?_getD, List.getElem?_eq_getElem h]
theorem wrap_id {x : Int} (h0 : -9223372036854775808 ≤ x) (h1 : x ≤ 9223372036854775807) : wrap64 x = x := by
  unfold wrap64
  omega
end Go.Proofs.YtibfoaahdbdogaaDoor.Txt

/- Plain facts: the keys of a right tree are told apart; Words29 tells the fields of a text; the sizes of attributes. -/
namespace Go.Proofs.YtibfoaahdbdogaaDoor.PDom
open Go.RowKit Go.Proofs.YtibfoaahdbdogaaDoorW.PrintWords Go.Proofs.YtibfoaahdbdogaaDoorW.PrintLast Go.Proofs.YtibfoaahdbdogaaDoorW.PrintMore Go.Proofs.YtibfoaahdbdogaaDoor.Dom Go.Proofs.YtibfoaahdbdogaaDoor.Txt
set_option linter.unusedVariables false
set_option linter.unusedSimpArgs false

theorem rd_attr (l : List S31) {j : Nat} (h : j < l.length) : rd_T31 l (j : Int) = l[j] := by simp [rd_T31, List.getD_eq_getElem?_getD, List.getElem?_eq_getElem h]
/-- From the i-th on each key is told apart from those ahead of it. -/
def UQ (L : List S31) (i : Nat) : Prop := ∀ i', i ≤ i' → ∀ j', j' < i' → i' < L.length → (rd_T31 L (i' : Int)).f0.toList ≠ (rd_T31 L (j' : Int)).f0.toList
theorem uniq_l (k : Nat) : (∀ (L : List S31) (i : Nat) (b0 : Int) (b1 b2 : ByteArray) (b4 : List T), L.length ≤ 4398046510976 → laws_right29.l0 k L (L.length : Int) (i : Int) b0 b1 b2 L b4 = some true → UQ L i)
    ∧ (∀ (L : List S31) (i j : Nat) (b0 : Int) (b1 b2 : ByteArray) (b4 : List T) (v : ByteArray), L.length ≤ 4398046510976 → i < L.length → laws_right29.l1 k L (L.length : Int) (i : Int) (L.take i) ((L.take i).length : Int) (j : Int) b0 b1 b2 L b4 (rd_T31 L (i : Int)).f0 v = some true → (∀ j', j ≤ j' → j' < i → (rd_T31 L (i : Int)).f0.toList ≠ (rd_T31 L (j' : Int)).f0.toList) ∧ UQ L (i + 1)) := by
  induction k with
  | zero => exact ⟨fun _ _ _ _ _ _ _ h => by simp [laws_right29.l0] at h, fun _ _ _ _ _ _ _ _ _ _ h => by simp [laws_right29.l1] at h⟩
  | succ k ih =>
    obtain ⟨i0, i1⟩ := ih
    refine ⟨fun L i b0 b1 b2 b4 hL h => ?_, fun L i j b0 b1 b2 b4 v hL hi h => ?_⟩
    · by_cases hi : i < L.length
      · simp only [laws_right29.l0] at h
        rw [if_pos (by omega), if_pos (by omega), if_pos (by omega), if_pos (by omega), Option.bind_some, Int.toNat_natCast] at h
        obtain ⟨h1, h2⟩ := i1 L i 0 b0 b1 b2 b4 _ hL hi h
        intro i' hi' j' hj' hl'
        by_cases e : i' = i
        · subst e
          exact h1 j' (Nat.zero_le _) hj'
        · exact h2 i' (by omega) j' hj' hl'
      · intro i' hi' j' hj' hl'
        omega
    · have hlen : (L.take i).length = i := by rw [List.length_take]; omega
      simp only [laws_right29.l1] at h
      by_cases hj : j < i
      · have hr : rd_T31 (L.take i) (j : Int) = rd_T31 L (j : Int) := by
          rw [rd_attr _ (show j < (L.take i).length by omega), rd_attr _ (show j < L.length by omega), List.getElem_take]
        rw [if_pos (by omega), if_pos (by omega), if_pos (by omega), hr] at h
        by_cases hk : (rd_T31 L (i : Int)).f0.toList = (rd_T31 L (j : Int)).f0.toList
        · rw [if_pos hk] at h; cases h
        · rw [if_neg hk, show wrap64 ((j : Int) + 1) = ((j + 1 : Nat) : Int) by rw [wrap_id (by omega) (by omega)]; omega] at h
          obtain ⟨h1, h2⟩ := i1 L i (j + 1) b0 b1 b2 b4 v hL hi h
          refine ⟨fun j' hj' hl' => ?_, h2⟩
          by_cases e : j' = j
          · subst e; exact hk
          · exact h1 j' (by omega) hl'
      · rw [if_neg (by omega), show wrap64 ((i : Int) + 1) = ((i + 1 : Nat) : Int) by rw [wrap_id (by omega) (by omega)]; omega] at h
        exact ⟨fun j' _ _ => by omega, i0 L (i + 1) b0 b1 b2 b4 hL h⟩
theorem right_uq {k : Nat} {t : T} (hL : t.f3.length ≤ 4398046510976) (h0 : t.f0 = 0) (h : laws_right29.f k t.f0 t.f1 t.f2 t.f3 t.f4 true = some true) : UQ t.f3 0 := by
  cases k with
  | zero => simp [laws_right29.f] at h
  | succ k =>
    simp only [laws_right29.f] at h
    rw [if_neg (by omega), beq_eq_false_iff_ne.2 (show t.f0 ≠ 2 by omega)] at h
    cases k with
    | zero => simp [laws_right29.j0] at h
    | succ k =>
      simp only [laws_right29.j0] at h
      rw [if_neg (by simp), if_neg (by omega), if_pos h0] at h
      obtain ⟨b, hb, h2⟩ := Option.bind_eq_some_iff.1 h
      have key : ∀ z, laws_right29.j1 k z t.f0 t.f1 t.f2 t.f3 t.f4 = some true → UQ t.f3 0 := by
        intro z hz
        cases k with
        | zero => simp [laws_right29.j1] at hz
        | succ k =>
          simp only [laws_right29.j1] at hz
          by_cases e : z = true
          · rw [if_pos e] at hz; cases hz
          · rw [if_neg e] at hz
            exact (uniq_l k).1 t.f3 0 t.f0 t.f1 t.f2 t.f4 hL hz
      by_cases e : b = true
      · rw [if_pos e] at h2; exact key _ h2
      · rw [if_neg e] at h2; exact key _ h2
theorem tree_uq {k : Nat} {t : T} (ht : Fit t) (h0 : t.f0 = 0) (h : laws_tree29.f k t.f0 t.f1 t.f2 t.f3 t.f4 = some true) : UQ t.f3 0 := by
  unfold laws_tree29.f at h
  rw [if_pos h0] at h
  obtain ⟨n, hn, h2⟩ := Option.bind_eq_some_iff.1 h
  by_cases c : n ≤ 300
  · rw [if_pos c] at h2
    obtain ⟨b, hb, h3⟩ := Option.bind_eq_some_iff.1 h2
    obtain rfl := Option.some.inj h3
    exact right_uq (by obtain ⟨_, ha, _, _⟩ := ht; exact ha) h0 hb
  · rw [if_neg c] at h2; cases h2
/-! Words29 -/
theorem str_of (cur : List UInt8) : strOfNums (cur.map fun b => (b.toNat : Int)) = (⟨cur.toArray⟩ : ByteArray) := by
  have h := str_bytes (⟨cur.toArray⟩ : ByteArray)
  have e : bytesOf (⟨cur.toArray⟩ : ByteArray) = cur.map fun b => (b.toNat : Int) := rfl
  rw [e] at h
  exact h
theorem bt_data (s : ByteArray) (j : Nat) (h : j < s.data.toList.length) : bt s (j : Int) = (s.data.toList[j].toNat : Int) := by
  rw [bt_rd]
  have hl : j < (bytesOf s).length := by rw [bytesOf_length, ← data_length]; exact h
  rw [rd_get hl]
  simp [bytesOf]
theorem isp (b : UInt8) : Lib.isSp b = decide ((b.toNat : Int) = 32 ∨ (9 ≤ (b.toNat : Int) ∧ (b.toNat : Int) ≤ 13)) := by
  have key : ∀ n : Fin 256, Lib.isSp (UInt8.ofNat n.val) = decide (((n.val : Nat) : Int) = 32 ∨ (9 ≤ ((n.val : Nat) : Int) ∧ ((n.val : Nat) : Int) ≤ 13)) := by decide +kernel
  have h := key ⟨b.toNat, b.toNat_lt⟩
  simpa using h
/-- The fields of a text. -/
def flds (cur l : List UInt8) : List ByteArray := (Lib.fieldsGo cur l).map fun x => ⟨x.toArray⟩
theorem flds_sp (cur : List UInt8) (b : UInt8) (l : List UInt8) (h : Lib.isSp b = true) : flds cur (b :: l) = if cur.isEmpty = true then flds [] l else ⟨cur.toArray⟩ :: flds [] l := by
  unfold flds
  rw [Lib.fieldsGo, if_pos h]
  cases cur <;> rfl
theorem flds_no (cur : List UInt8) (b : UInt8) (l : List UInt8) (h : Lib.isSp b = false) : flds cur (b :: l) = flds (cur ++ [b]) l := by
  unfold flds
  rw [Lib.fieldsGo, if_neg (by rw [h]; simp)]
theorem words_ev (s : ByteArray) (hs : s.size ≤ 2147483647) : Ev (fun k => spec_Words29.f k s) (flds [] s.data.toList) := by
  have hlen := data_length s
  have key : ∀ (n j : Nat) (acc : List ByteArray) (cur : List UInt8), s.data.toList.length = j + n → acc.length ≤ j → cur.length ≤ j → Ev (fun k => spec_Words29.l0 k s acc (cur.map fun b => (b.toNat : Int)) (s.size : Int) (j : Int)) (acc ++ flds cur (s.data.toList.drop j)) := by
    intro n
    induction n with
    | zero =>
      intro j acc cur hj ha hc
      rw [List.drop_eq_nil_of_le (by omega)]
      refine Ev.step (f := fun _ => some (acc ++ flds cur [])) (fun k => ?_) (Ev.now _)
      simp only [spec_Words29.l0]
      rw [if_neg (by omega)]
      cases cur with
      | nil =>
        rw [if_neg (by simp)]
        show some acc = some (acc ++ [])
        rw [List.append_nil]
      | cons c cur =>
        rw [if_pos (by first | (simp; done) | (simp; omega)), if_pos (by omega), str_of]
        rfl
    | succ n ih =>
      intro j acc cur hj ha hc
      have hlt : j < s.data.toList.length := by omega
      have hb := bt_data s j hlt
      have hw : wrap64 ((j : Int) + 1) = ((j + 1 : Nat) : Int) := by rw [wrap_id (by omega) (by omega)]; omega
      have q1 : (j : Int) < (s.size : Int) := by omega
      have q2 : (0 : Int) ≤ (j : Int) := by omega
      have q3 : acc.length < 8796093022208 := by omega
      have q4 : (cur.map fun b => (b.toNat : Int)).length < 140737488355328 := by rw [List.length_map]; omega
      have hj1 : s.data.toList.length = j + 1 + n := by omega
      rw [List.drop_eq_getElem_cons hlt]
      have hsp := isp s.data.toList[j]
      generalize s.data.toList[j] = b at *
      have ih1 := ih (j + 1) acc [] hj1 (by omega) (by simp)
      have ih2 := ih (j + 1) (acc ++ [⟨cur.toArray⟩]) [] hj1 (by rw [List.length_append, List.length_singleton]; omega) (by simp)
      have ih3 := ih (j + 1) acc (cur ++ [b]) hj1 (by omega) (by rw [List.length_append, List.length_singleton]; omega)
      have tail : ∀ z, z = Lib.isSp b → Ev (fun k => spec_Words29.j1 k s acc (cur.map fun b => (b.toNat : Int)) (j : Int) (s.size : Int) (j : Int) z) (acc ++ flds cur (b :: s.data.toList.drop (j + 1))) := by
        intro z hz
        cases hx : Lib.isSp b with
        | true =>
          rw [hx] at hz
          subst hz
          rw [flds_sp _ _ _ hx]
          cases cur with
          | nil =>
            refine Ev.step (f := fun k => spec_Words29.l0 k s acc ([] : List Int) (s.size : Int) ((j + 1 : Nat) : Int)) (fun k => ?_) ih1
            simp only [spec_Words29.j1, hw]
            rw [if_pos trivial, if_neg (by simp)]
          | cons c cur =>
            rw [if_neg (by simp)]
            have e : acc ++ (⟨(c :: cur).toArray⟩ : ByteArray) :: flds [] (s.data.toList.drop (j + 1)) = (acc ++ [⟨(c :: cur).toArray⟩]) ++ flds [] (s.data.toList.drop (j + 1)) := by simp
            rw [e]
            refine Ev.step (f := fun k => spec_Words29.l0 k s (acc ++ [⟨(c :: cur).toArray⟩]) ([] : List Int) (s.size : Int) ((j + 1 : Nat) : Int)) (fun k => ?_) ih2
            simp only [spec_Words29.j1, hw]
            rw [if_pos trivial, if_pos (by first | (simp; done) | (simp; omega)), if_pos q3, str_of]
        | false =>
          rw [hx] at hz
          subst hz
          rw [flds_no _ _ _ hx]
          refine Ev.step (f := fun k => spec_Words29.l0 k s acc ((cur ++ [b]).map fun b => (b.toNat : Int)) (s.size : Int) ((j + 1 : Nat) : Int)) (fun k => ?_) ih3
          simp only [spec_Words29.j1, hw, hb]
          rw [if_neg (by simp), if_pos q2, if_pos q1, if_pos q4, List.map_append]
          rfl
      by_cases h32 : (b.toNat : Int) = 32
      · refine Ev.step (f := fun k => spec_Words29.j1 k s acc (cur.map fun b => (b.toNat : Int)) (j : Int) (s.size : Int) (j : Int) true) (fun k => ?_) (tail true (by rw [hsp]; exact (decide_eq_true (.inl h32)).symm))
        simp only [spec_Words29.l0, hb]
        rw [if_pos q1, if_pos q2, if_pos q1, if_pos h32]
      · by_cases h9 : (b.toNat : Int) ≥ 9
        · refine Ev.step (f := fun k => spec_Words29.j1 k s acc (cur.map fun b => (b.toNat : Int)) (j : Int) (s.size : Int) (j : Int) (decide ((b.toNat : Int) ≤ 13))) (fun k => ?_) (tail _ (by rw [hsp]; by_cases h13 : (b.toNat : Int) ≤ 13 <;> simp [h13, h32] <;> omega))
          simp only [spec_Words29.l0, hb]
          rw [if_pos q1, if_pos q2, if_pos q1, if_neg h32, if_pos h9]
        · refine Ev.step (f := fun k => spec_Words29.j1 k s acc (cur.map fun b => (b.toNat : Int)) (j : Int) (s.size : Int) (j : Int) false) (fun k => ?_) (tail false (by rw [hsp]; exact (decide_eq_false (by omega)).symm))
          simp only [spec_Words29.l0, hb]
          rw [if_pos q1, if_pos q2, if_pos q1, if_neg h32, if_neg h9]
  have h := key s.data.toList.length 0 [] [] (by omega) (by simp) (by simp)
  rw [List.drop_zero, List.nil_append] at h
  exact h
/-! The sizes -/
theorem fits_l (l : List S31) (hl : l.length ≤ 4398046510976) : ∀ (k j : Nat), laws_zzFits3.l0 k l (l.length : Int) (j : Int) = some true → ∀ i, j ≤ i → i < l.length → (rd_T31 l (i : Int)).f1.size ≤ 2147483647 := by
  intro k
  induction k with
  | zero => intro j h; simp [laws_zzFits3.l0] at h
  | succ k ih =>
    intro j h i hi hlt
    simp only [laws_zzFits3.l0] at h
    rw [if_pos (by omega), if_pos (by omega), if_pos (by omega)] at h
    obtain ⟨b, hb, h2⟩ := Option.bind_eq_some_iff.1 h
    by_cases e : b = true
    · rw [if_pos e, show wrap64 ((j : Int) + 1) = ((j + 1 : Nat) : Int) by rw [wrap_id (by omega) (by omega)]; omega] at h2
      by_cases hij : i = j
      · subst hij
        unfold laws_zzFits4.f at hb
        split at hb
        · subst e; cases hb
        · split at hb
          · subst e; cases hb
          · omega
      · exact ih (j + 1) h2 i (by omega) hlt
    · rw [if_neg e] at h2; cases h2
theorem fits_val {k : Nat} {t : T} (ht : Fit t) (h : laws_zzFits2.f k t.f0 t.f1 t.f2 t.f3 t.f4 = some true) : ∀ i, i < t.f3.length → (rd_T31 t.f3 (i : Int)).f1.size ≤ 2147483647 := by
  have hl : t.f3.length ≤ 4398046510976 := by obtain ⟨_, ha, _, _⟩ := ht; exact ha
  unfold laws_zzFits2.f at h
  split at h
  · cases h
  split at h
  · cases h
  obtain ⟨b, hb, h2⟩ := Option.bind_eq_some_iff.1 h
  by_cases e : b = true
  · subst e
    unfold laws_zzFits3.f at hb
    split at hb
    · cases hb
    intro i hi
    exact fits_l t.f3 hl k 0 hb i (Nat.zero_le _) hi
  · rw [if_neg e] at h2; cases h2
end Go.Proofs.YtibfoaahdbdogaaDoor.PDom

/- The plain law of FnDomClasses. -/
namespace Go.Proofs.YtibfoaahdbdogaaDoor.PDom
open Go.RowKit Go.Proofs.YtibfoaahdbdogaaDoorW.PrintWords Go.Proofs.YtibfoaahdbdogaaDoorW.PrintLast Go.Proofs.YtibfoaahdbdogaaDoorW.PrintMore Go.Proofs.YtibfoaahdbdogaaDoor.Dom Go.Proofs.YtibfoaahdbdogaaDoor.Txt
set_option linter.unusedVariables false
set_option linter.unusedSimpArgs false

abbrev kC : List UInt8 := [99, 108, 97, 115, 115]
theorem kC_eq : (⟨#[99, 108, 97, 115, 115]⟩ : ByteArray).toList = kC := by rw [Lib.toList_data]
theorem getA_app (key : ByteArray) (a : List (ByteArray × ByteArray)) (x : ByteArray × ByteArray) : getA key (a ++ [x]) = match getA key a with
    | some s => some s
    | none => if x.1.toList = key.toList then some x.2 else none := by
  induction a with
  | nil => rfl
  | cons y a ih =>
    show (if y.1.toList = key.toList then some y.2 else getA key (a ++ [x])) = match (if y.1.toList = key.toList then some y.2 else getA key a) with
      | some s => some s
      | none => if x.1.toList = key.toList then some x.2 else none
    by_cases h : y.1.toList = key.toList
    · rw [if_pos h, if_pos h]
    · rw [if_neg h, if_neg h, ih]
/-- The words of the last class among the first i. -/
def lastW (L : List S31) : Nat → List ByteArray
  | 0 => []
  | i + 1 => if (rd_T31 L (i : Int)).f0.toList = kC then flds [] (rd_T31 L (i : Int)).f1.data.toList else lastW L i
def prs (L : List S31) : List (ByteArray × ByteArray) := L.map fun a => (a.f0, a.f1)
theorem last_eq (L : List S31) (hu : UQ L 0) : ∀ i, i ≤ L.length → ((match getA ⟨#[99, 108, 97, 115, 115]⟩ (prs (L.take i)) with | none => [] | some s => flds [] s.data.toList) = lastW L i) ∧ (∀ s, getA ⟨#[99, 108, 97, 115, 115]⟩ (prs (L.take i)) = some s → ∃ i', i' < i ∧ (rd_T31 L (i' : Int)).f0.toList = kC ∧ s = (rd_T31 L (i' : Int)).f1) := by
  intro i
  induction i with
  | zero => intro _; exact ⟨rfl, fun s h => by cases h⟩
  | succ i ih =>
    intro hi
    obtain ⟨h1, h2⟩ := ih (by omega)
    have hlt : i < L.length := by omega
    have hp : prs (L.take (i + 1)) = prs (L.take i) ++ [((rd_T31 L (i : Int)).f0, (rd_T31 L (i : Int)).f1)] := by
      rw [rd_attr L hlt, List.take_succ_eq_append_getElem hlt]
      unfold prs
      rw [List.map_append]
      rfl
    have hl : lastW L (i + 1) = if (rd_T31 L (i : Int)).f0.toList = kC then flds [] (rd_T31 L (i : Int)).f1.data.toList else lastW L i := rfl
    have hun := hu i (Nat.zero_le _)
    rw [hp, getA_app, hl]
    simp only [kC_eq]
    generalize hx : rd_T31 L (i : Int) = x at *
    cases hg : getA ⟨#[99, 108, 97, 115, 115]⟩ (prs (L.take i)) with
    | some s =>
      obtain ⟨i', hi', hk', hs'⟩ := h2 s hg
      have hne : ¬ x.f0.toList = kC := fun e => hun i' hi' hlt (e.trans hk'.symm)
      rw [hg] at h1
      simp only [if_neg hne]
      exact ⟨h1, fun s2 hs2 => by obtain rfl := Option.some.inj hs2; exact ⟨i', by omega, hk', hs'⟩⟩
    | none =>
      rw [hg] at h1
      by_cases hk : x.f0.toList = kC
      · simp only [if_pos hk]
        exact ⟨trivial, fun s2 hs2 => by obtain rfl := Option.some.inj hs2; exact ⟨i, by omega, by rw [hx]; exact hk, by rw [hx]⟩⟩
      · simp only [if_neg hk]
        exact ⟨h1, fun s2 hs2 => by cases hs2⟩
theorem same_ev (l : List ByteArray) (hl : l.length ≤ 4398046510976) : Ev (fun k => laws_same29.f k l l) true := by
  have key : ∀ (n j : Nat), l.length = j + n → Ev (fun k => laws_same29.l0 k l l (l.length : Int) (j : Int)) true := by
    intro n
    induction n with
    | zero =>
      intro j hj
      refine Ev.step (f := fun _ => some true) (fun k => ?_) (Ev.now _)
      simp only [laws_same29.l0]
      rw [if_neg (by omega)]
    | succ n ih =>
      intro j hj
      refine Ev.step (f := fun k => laws_same29.l0 k l l (l.length : Int) ((j + 1 : Nat) : Int)) (fun k => ?_) (ih (j + 1) (by omega))
      simp only [laws_same29.l0]
      rw [if_pos (by omega), if_pos (by omega), if_pos (by omega), if_pos (by omega), if_pos trivial, show wrap64 ((j : Int) + 1) = ((j + 1 : Nat) : Int) by rw [wrap_id (by omega) (by omega)]; omega]
  refine Ev.congr (f := fun k => laws_same29.l0 k l l (l.length : Int) ((0 : Nat) : Int)) (fun k => ?_) (key l.length 0 (by omega))
  show laws_same29.f k l l = _
  unfold laws_same29.f
  rw [if_pos rfl]
  rfl
section
variable {t : T} (cl : ByteArray)
theorem l2_ev (ht : Fit t) {K : Nat} (hT : laws_tree29.f K t.f0 t.f1 t.f2 t.f3 t.f4 = some true) (hB : clsB (attrsOf t) = true) (W : List ByteArray) (hW : clsOf (attrsOf t) = W) (hWl : W.length ≤ 2147483648) :
    Ev (fun k => laws_FnDomClasses.l2 k cl W false W (W.length : Int) 0 t.f0 t.f1 t.f2 t.f3 t.f4) true := by
  have hg : Ev (fun k => gate k t) () := by
    obtain ⟨K3, e3⟩ := fitB_ev t ht
    obtain ⟨K2, h2⟩ := Ev.of (fun k => laws_tree29.mono t.f0 t.f1 t.f2 t.f3 t.f4 k) hT
    refine ⟨K2 + K3, fun k hk => ?_⟩
    have h4 : laws_tree29.f k t.f0 t.f1 t.f2 t.f3 t.f4 = some true := h2 k (by omega)
    have h5 : fitB k t = true := by have := e3 k (by omega); cases t; exact this
    show gate k t = _
    unfold gate
    rw [h4, Option.bind_some, if_pos rfl, if_pos h5, if_pos hB]
  have he : (⟨t.f0, t.f1, t.f2, t.f3, t.f4⟩ : T) = t := by cases t; rfl
  have hC : Ev (fun k => impl_Classes.f k t.f0 t.f1 t.f2 t.f3 t.f4) W := by
    unfold impl_Classes.f
    rw [he, hW]
    exact Ev.bind hg (Ev.now _)
  have hH : Ev (fun k => impl_HasClass.f k t.f0 t.f1 t.f2 t.f3 t.f4 cl) (W.any fun x => x.toList == cl.toList) := by
    unfold impl_HasClass.f
    rw [he, hW]
    exact Ev.bind hg (Ev.now _)
  have key : ∀ (n j : Nat), W.length = j + n → Ev (fun k => laws_FnDomClasses.l2 k cl W ((W.take j).any fun x => x.toList == cl.toList) W (W.length : Int) (j : Int) t.f0 t.f1 t.f2 t.f3 t.f4) true := by
    intro n
    induction n with
    | zero =>
      intro j hj
      rw [List.take_of_length_le (by omega)]
      refine Ev.step (f := fun k => ((impl_Classes.f k t.f0 t.f1 t.f2 t.f3 t.f4).bind fun t186 => ((laws_same29.f k t186 W).bind fun t189 => (if t189 = true then ((impl_HasClass.f k t.f0 t.f1 t.f2 t.f3 t.f4 cl).bind fun t190 => (if (t190 == (W.any fun x => x.toList == cl.toList)) = true then ((laws_living29.f k).bind fun t191 => (some t191)) else (some false))) else (some false))))) (fun k => ?_) (Ev.bind hC (Ev.bind (same_ev W (by omega)) ?_))
      · simp only [laws_FnDomClasses.l2]
        rw [if_neg (by omega)]
      · simp only [if_true]
        refine Ev.bind hH ?_
        simp only [beq_self_eq_true, if_true]
        exact Ev.bind living_ev (Ev.now _)
    | succ n ih =>
      intro j hj
      have hlt : j < W.length := by omega
      have hrd : rdOf ByteArray.empty W (j : Int) = W[j] := by simp [rdOf, List.getD_eq_getElem?_getD, List.getElem?_eq_getElem hlt]
      have hst : ((W.take (j + 1)).any fun x => x.toList == cl.toList) = (((W.take j).any fun x => x.toList == cl.toList) || (W[j].toList == cl.toList)) := by
        rw [List.take_succ_eq_append_getElem hlt, List.any_append]
        simp
      have hw : wrap64 ((j : Int) + 1) = ((j + 1 : Nat) : Int) := by rw [wrap_id (by omega) (by omega)]; omega
      have ih1 := ih (j + 1) (by omega)
      rw [hst] at ih1
      cases hb : ((W.take j).any fun x => x.toList == cl.toList) with
      | true =>
        rw [hb, Bool.true_or] at ih1
        refine Ev.step (f := fun k => laws_FnDomClasses.l2 k cl W true W (W.length : Int) ((j + 1 : Nat) : Int) t.f0 t.f1 t.f2 t.f3 t.f4) (fun k => ?_) ih1
        simp only [laws_FnDomClasses.l2, hw]
        rw [if_pos (by omega), if_pos (by omega), if_pos (by omega), if_pos trivial]
      | false =>
        rw [hb, Bool.false_or] at ih1
        refine Ev.step (f := fun k => laws_FnDomClasses.l2 k cl W (W[j].toList == cl.toList) W (W.length : Int) ((j + 1 : Nat) : Int) t.f0 t.f1 t.f2 t.f3 t.f4) (fun k => ?_) ih1
        simp only [laws_FnDomClasses.l2, hw, hrd]
        rw [if_pos (by omega), if_pos (by omega), if_pos (by omega), if_neg (by simp)]
  exact key W.length 0 (by omega)
theorem n_wrap (j : Nat) (h : j ≤ 4611686018427387904) : wrap64 ((j : Int) + 1) = ((j + 1 : Nat) : Int) := by rw [wrap_id (by omega) (by omega)]; omega
theorem n_lt (v : ByteArray) (j m : Nat) (hj : v.data.toList.length = j + (m + 1)) (hs : v.size ≤ 2147483647) : (j : Int) < (v.size : Int) ∧ (0 : Int) ≤ (j : Int) ∧ j < v.data.toList.length ∧ v.data.toList.length = j + 1 + m ∧ j ≤ 4611686018427387904 := by
  have := data_length v
  refine ⟨?_, ?_, ?_, ?_, ?_⟩ <;> omega
theorem l1_ev (L : List S31) (i : Nat) (b0 : Int) (b1 b2 : ByteArray) (b3 : List S31) (b4 : List T) (ky v : ByteArray) (hs : v.size ≤ 2147483647) (hi : i ≤ 4398046510976)
    (cont : (∀ b ∈ v.data.toList, b.toNat < 128) → Ev (fun k => laws_FnDomClasses.l0 k cl (flds [] v.data.toList) L (L.length : Int) ((i + 1 : Nat) : Int) b0 b1 b2 b3 b4) true) :
    Ev (fun k => laws_FnDomClasses.l1 k cl L (L.length : Int) (i : Int) (v.size : Int) ((0 : Nat) : Int) b0 b1 b2 b3 b4 ky v) true := by
  have hwe := words_ev v hs
  have hlen := data_length v
  have hw := n_wrap i (Nat.le_trans hi (by decide))
  have k1 : ∀ (m j : Nat), v.data.toList.length = j + m → (∀ b ∈ v.data.toList.take j, b.toNat < 128) → Ev (fun k => laws_FnDomClasses.l1 k cl L (L.length : Int) (i : Int) (v.size : Int) (j : Int) b0 b1 b2 b3 b4 ky v) true := by
    intro m
    induction m with
    | zero =>
      intro j hj hb
      rw [List.take_of_length_le (show v.data.toList.length ≤ j from Nat.le_of_eq hj)] at hb
      have q : ¬ (j : Int) < (v.size : Int) := by clear hw cont hwe; omega
      refine Ev.step (f := fun k => ((spec_Words29.f k v).bind fun t182 => (laws_FnDomClasses.l0 k cl t182 L (L.length : Int) ((i + 1 : Nat) : Int) b0 b1 b2 b3 b4))) (fun k => ?_) (Ev.bind hwe (cont hb))
      simp only [laws_FnDomClasses.l1, hw]
      rw [if_neg q]
    | succ m ihm =>
      intro j hj hb
      obtain ⟨q1, q2, hjl, hj1, q5⟩ := n_lt v j m hj hs
      have hbt := bt_data v j hjl
      have hwj := n_wrap j q5
      by_cases h128 : bt v (j : Int) ≥ 128
      · refine Ev.step (f := fun _ => some true) (fun k => ?_) (Ev.now _)
        simp only [laws_FnDomClasses.l1]
        rw [if_pos q1, if_pos q2, if_pos q1, if_pos h128]
      · refine Ev.step (f := fun k => laws_FnDomClasses.l1 k cl L (L.length : Int) (i : Int) (v.size : Int) ((j + 1 : Nat) : Int) b0 b1 b2 b3 b4 ky v) (fun k => ?_) (ihm (j + 1) hj1 (fun b hb2 => by
          rw [List.take_succ_eq_append_getElem hjl] at hb2
          rcases List.mem_append.1 hb2 with h | h
          · exact hb b h
          · obtain rfl := List.mem_singleton.1 h
            rw [hbt] at h128
            clear hw cont hwe hwj hbt
            omega))
        simp only [laws_FnDomClasses.l1, hwj]
        rw [if_pos q1, if_pos q2, if_pos q1, if_neg h128]
  exact k1 v.data.toList.length 0 (Nat.zero_add _).symm (fun b hb => by cases hb)
theorem l0_ev (hL : t.f3.length ≤ 4398046510976) (hsz : ∀ i, i < t.f3.length → (rd_T31 t.f3 (i : Int)).f1.size ≤ 2147483647)
    (hend : (∀ i, i < t.f3.length → (rd_T31 t.f3 (i : Int)).f0.toList = kC → ∀ b ∈ (rd_T31 t.f3 (i : Int)).f1.data.toList, b.toNat < 128) → Ev (fun k => laws_FnDomClasses.l2 k cl (lastW t.f3 t.f3.length) false (lastW t.f3 t.f3.length) ((lastW t.f3 t.f3.length).length : Int) 0 t.f0 t.f1 t.f2 t.f3 t.f4) true) :
    Ev (fun k => laws_FnDomClasses.l0 k cl [] t.f3 (t.f3.length : Int) 0 t.f0 t.f1 t.f2 t.f3 t.f4) true := by
  have key : ∀ (n i : Nat), t.f3.length = i + n → (∀ i', i' < i → (rd_T31 t.f3 (i' : Int)).f0.toList = kC → ∀ b ∈ (rd_T31 t.f3 (i' : Int)).f1.data.toList, b.toNat < 128) → Ev (fun k => laws_FnDomClasses.l0 k cl (lastW t.f3 i) t.f3 (t.f3.length : Int) (i : Int) t.f0 t.f1 t.f2 t.f3 t.f4) true := by
    intro n
    induction n with
    | zero =>
      intro i hi ha
      obtain rfl : i = t.f3.length := by omega
      refine Ev.step (f := fun k => laws_FnDomClasses.l2 k cl (lastW t.f3 t.f3.length) false (lastW t.f3 t.f3.length) ((lastW t.f3 t.f3.length).length : Int) 0 t.f0 t.f1 t.f2 t.f3 t.f4) (fun k => ?_) (hend ha)
      simp only [laws_FnDomClasses.l0]
      rw [if_neg (by omega)]
    | succ n ih =>
      intro i hi ha
      have hlt : i < t.f3.length := by omega
      have hw : wrap64 ((i : Int) + 1) = ((i + 1 : Nat) : Int) := by rw [wrap_id (by omega) (by omega)]; omega
      have hs := hsz i hlt
      have hl : lastW t.f3 (i + 1) = if (rd_T31 t.f3 (i : Int)).f0.toList = kC then flds [] (rd_T31 t.f3 (i : Int)).f1.data.toList else lastW t.f3 i := rfl
      have ih1 := ih (i + 1) (by omega)
      by_cases hk : (rd_T31 t.f3 (i : Int)).f0.toList = kC
      · rw [hl, if_pos hk] at ih1
        have cont : (∀ b ∈ (rd_T31 t.f3 (i : Int)).f1.data.toList, b.toNat < 128) → Ev (fun k => laws_FnDomClasses.l0 k cl (flds [] (rd_T31 t.f3 (i : Int)).f1.data.toList) t.f3 (t.f3.length : Int) ((i + 1 : Nat) : Int) t.f0 t.f1 t.f2 t.f3 t.f4) true := fun hasc => ih1 (fun i' hi' hk' => by
          by_cases e : i' = i
          · subst e; exact hasc
          · exact ha i' (by omega) hk')
        have q1 : (i : Int) < (t.f3.length : Int) := by omega
        have q2 : (0 : Int) ≤ (i : Int) := by omega
        clear ih1 ih ha hl
        refine Ev.step (f := fun k => laws_FnDomClasses.l1 k cl t.f3 (t.f3.length : Int) (i : Int) ((rd_T31 t.f3 (i : Int)).f1.size : Int) ((0 : Nat) : Int) t.f0 t.f1 t.f2 t.f3 t.f4 (rd_T31 t.f3 (i : Int)).f0 (rd_T31 t.f3 (i : Int)).f1) (fun k => ?_) ?_
        · simp only [laws_FnDomClasses.l0]
          rw [if_pos q1, if_pos q2, if_pos q1, if_pos hk]
          rfl
        · generalize (rd_T31 t.f3 (i : Int)).f1 = v at *
          generalize (rd_T31 t.f3 (i : Int)).f0 = ky at *
          exact l1_ev cl t.f3 i t.f0 t.f1 t.f2 t.f3 t.f4 ky v hs (Nat.le_trans (Nat.le_of_lt hlt) hL) cont
      · rw [hl, if_neg hk] at ih1
        refine Ev.step (f := fun k => laws_FnDomClasses.l0 k cl (lastW t.f3 i) t.f3 (t.f3.length : Int) ((i + 1 : Nat) : Int) t.f0 t.f1 t.f2 t.f3 t.f4) (fun k => ?_) (ih1 (fun i' hi' hk' => by
          by_cases e : i' = i
          · subst e; exact absurd hk' hk
          · exact ha i' (by omega) hk'))
        simp only [laws_FnDomClasses.l0, hw]
        rw [if_pos (by omega), if_pos (by omega), if_pos (by omega), if_neg hk]
  exact key t.f3.length 0 (by omega) (fun i' h => by cases h)
theorem cls_pure (hS : FitS t) : ∃ k, laws_FnDomClasses.f k t.f0 t.f1 t.f2 t.f3 t.f4 cl = some true := by
  have ht := hS.fit
  have hL : t.f3.length ≤ 4398046510976 := by obtain ⟨_, ha, _, _⟩ := ht; exact ha
  obtain ⟨b1, e1⟩ := fits2_ev t ht
  obtain ⟨b2, e2⟩ := tree_ev t hS
  have h : Ev (fun k => laws_FnDomClasses.f k t.f0 t.f1 t.f2 t.f3 t.f4 cl) true := by
    unfold laws_FnDomClasses.f
    have triv : Ev (fun k => laws_FnDomClasses.j0 k cl true t.f0 t.f1 t.f2 t.f3 t.f4) true := Ev.step (f := fun _ => some true) (fun k => by simp only [laws_FnDomClasses.j0]; rw [if_pos trivial]) (Ev.now _)
    refine Ev.bind e1 ?_
    cases b1 with
    | false =>
      simp only [Bool.false_eq_true, if_false]
      exact triv
    | true =>
      simp only [if_true]
      by_cases hc : (cl.size : Int) > 2147483647
      · rw [decide_eq_true hc]
        exact triv
      · rw [decide_eq_false hc]
        refine Ev.step (f := fun k => ((laws_tree29.f k t.f0 t.f1 t.f2 t.f3 t.f4).bind fun t179 => (if t179 = true then (laws_FnDomClasses.l0 k cl ([] : List ByteArray) t.f3 (t.f3.length : Int) 0 t.f0 t.f1 t.f2 t.f3 t.f4) else (some true)))) (fun k => ?_) (Ev.bind e2 ?_)
        · simp only [laws_FnDomClasses.j0]
          rw [if_neg (by simp)]
        · cases b2 with
          | false =>
            simp only [Bool.false_eq_true, if_false]
            exact Ev.now _
          | true =>
            simp only [if_true]
            obtain ⟨k1, hk1⟩ := e1.rounds
            obtain ⟨k2, hk2⟩ := e2.rounds
            have hsz := fits_val ht hk1
            have hfl : ∀ s : ByteArray, s.size ≤ 2147483647 → (flds [] s.data.toList).length ≤ 2147483648 := fun s hs => by
              have h2 := fieldsGo_len s.data.toList []
              have h3 := data_length s
              unfold flds
              rw [List.length_map]
              omega
            refine l0_ev cl hL hsz (fun hasc => ?_)
            have hfacts : clsB (attrsOf t) = true ∧ clsOf (attrsOf t) = lastW t.f3 t.f3.length ∧ (lastW t.f3 t.f3.length).length ≤ 2147483648 := by
              obtain ⟨hn, _, hkind⟩ := tree_norm ht hk2
              rcases hkind with h0 | h3
              · have hu := tree_uq ht h0 hk2
                obtain ⟨a1, a2⟩ := last_eq t.f3 hu t.f3.length (Nat.le_refl _)
                rw [List.take_length] at a1 a2
                have hat : attrsOf t = prs t.f3 := by unfold attrsOf; rw [if_pos h0]; rfl
                rw [hat]
                unfold clsB clsOf
                rw [← a1]
                cases hg : getA ⟨#[99, 108, 97, 115, 115]⟩ (prs t.f3) with
                | none => exact ⟨rfl, rfl, by simp⟩
                | some s =>
                  obtain ⟨i', hi', hk', rfl⟩ := a2 s hg
                  refine ⟨?_, rfl, hfl _ (hsz i' hi')⟩
                  simp only [Bool.and_eq_true, decide_eq_true_eq, List.all_eq_true]
                  exact ⟨hsz i' hi', hasc i' hi' hk'⟩
              · have hnil : t.f3 = [] := by
                  obtain ⟨_, _, hok, _⟩ := hn
                  rcases hok with ⟨h, _⟩ | ⟨_, _, _, _, h⟩ | ⟨h, _⟩
                  · omega
                  · exact h
                  · omega
                have hat : attrsOf t = [] := by unfold attrsOf; rw [if_neg (by omega)]
                rw [hat, hnil]
                exact ⟨rfl, rfl, by simp [lastW]⟩
            obtain ⟨f1, f2, f3⟩ := hfacts
            exact l2_ev cl ht hk2 f1 _ f2 f3
  exact h.rounds
end
theorem cls_walk (t : T) (A3 : Option Addr) (c3 : Nat) (A4 : Option Addr) (c4 : Nat) (cl : ByteArray) (w : World) (ht : FitS t) (h3 : Kd.C k31 w A3 t.f3.length t.f3) (l3 : t.f3.length ≤ c3) (h4 : Kd.C k25 w A4 t.f4.length t.f4) (l4 : t.f4.length ≤ c4) (hcv : CV w) :
    Calls Tryd.prog 4 #[.agg #[.int .i64 t.f0, .string t.f1, .string t.f2, .slice A3 t.f3.length c3, .slice A4 t.f4.length c4], .string cl] w fun e w' => e = .returned (.bool true) ∧ Below w.heap.size w w' := by
  obtain ⟨k, h⟩ := cls_pure cl ht
  exact laws_FnDomClasses.calls k t.f0 t.f1 t.f2 A3 c3 t.f3 A4 c4 t.f4 cl true w h3 l3 h4 l4 h hcv
end Go.Proofs.YtibfoaahdbdogaaDoor.PDom

/- FnDomClasses: the walk as the row wants it. -/
namespace Go.Proofs.YtibfoaahdbdogaaDoor.PDom
open Go.RowKit Go.Proofs.YtibfoaahdbdogaaDoorW.PrintWords Go.Proofs.YtibfoaahdbdogaaDoorW.PrintLast Go.Proofs.YtibfoaahdbdogaaDoorW.PrintMore Go.Proofs.YtibfoaahdbdogaaDoor.Dom
set_option maxRecDepth 100000 in
theorem tab_eq : (Rows.laid_strings_asciiSpace : DataW Unit) = Lib.tabData .u8 Lib.asciiSpaceTab := by kernel_rfl
theorem cv_of (w : World) (h : laidMet Tryd.prog Rows.fnDomClassesRow.laid w) : CV w := by
  have h2 : laidMet Tryd.prog [("strings.asciiSpace", Rows.laid_strings_asciiSpace)] w := h.tail
  rw [tab_eq] at h2
  exact Lib.tabIs_of_head (g := 0) (t := 78) (e := 5) (n := 256) (by kernel_rfl) (by kernel_rfl) (by kernel_rfl) (by kernel_rfl) (by kernel_rfl) (by kernel_rfl) h2
theorem cls_row (t : T) (A3 : Option Addr) (c3 : Nat) (A4 : Option Addr) (c4 : Nat) (cl : ByteArray) (w : World) (ht : FitS t) (h3 : Kd.C k31 w A3 t.f3.length t.f3) (l3 : t.f3.length ≤ c3) (h4 : Kd.C k25 w A4 t.f4.length t.f4) (l4 : t.f4.length ≤ c4) (_w1 : cl.size ≤ 140737488351232) (hL : laidMet Tryd.prog Rows.fnDomClassesRow.laid w) :
    Calls Tryd.prog 4 #[.agg #[.int .i64 t.f0, .string t.f1, .string t.f2, .slice A3 t.f3.length c3, .slice A4 t.f4.length c4], .string cl] w fun e w' => e = .returned (.bool true) ∧ Below w.heap.size w w' := cls_walk t A3 c3 A4 c4 cl w ht h3 l3 h4 l4 (cv_of w hL)
end Go.Proofs.YtibfoaahdbdogaaDoor.PDom

/- Arguments opened: what the reading of a datum says of memory, for texts, numbers, slices and structs, and how large they are. Each as large as a row's reach allows. -/
namespace Go.Proofs.YtibfoaahdbdogaaDoor.Open
open Go.RowKit Go.ChangeShapes Go.WideShapes Go.Proofs.YtibfoaahdbdogaaDoorW.PrintWords Go.Proofs.YtibfoaahdbdogaaDoorW.PrintLast Go.Proofs.YtibfoaahdbdogaaDoorW.PrintMore

/-- A datum of type t that is read within the fuel tells a value of kind k in memory, and the value is Good. -/
def Opens {α : Type} (P : Program) (t : TypeId) (k : Kd α) (Good : α → Prop) (fuel : Nat) : Prop :=
  ∀ (H : Type) (enc : TypeId × Value → H) (W : World) (base : Nat) (spare : Nat → Bool) (held : Bool) (cs : List Value) (x : DataW H × List MemPlace),
    DataW.trod enc P W base spare held fuel t cs = some x → (∀ n ∈ x.1.weights P t, n ≤ reachBytes) → ∃ y, k.K W y cs ∧ Good y

theorem opens_string {P : Program} {t : TypeId} (ht : P.underlying t = some .string) (fuel : Nat) : Opens P t Kd.string (fun s => s.size ≤ 140737488351232) fuel := by
  intro H enc W base spare held cs x h hw
  obtain ⟨s, rfl, rfl, _⟩ := DataW.trod_string ht h
  refine ⟨s, rfl, ?_⟩
  have := hw s.data.toList.length (by simp [DataW.weights])
  rw [Array.length_toList] at this
  exact this
theorem opens_int {P : Program} {t : TypeId} {k : IntKind} (ht : P.underlying t = some (.int k)) (fuel : Nat) : Opens P t (Kd.int k) (fun n => (Lit.int k n).wf = true) fuel := by
  intro H enc W base spare held cs x h hw
  obtain ⟨n, rfl, rfl, hwf⟩ := DataW.trod_int ht h
  exact ⟨n, rfl, hwf⟩

theorem weights_all {H : Type} {P : Program} {e : TypeId} : ∀ {ds : List (DataW H)} {d : DataW H}, d ∈ ds → ∀ n ∈ d.weights P e, n ∈ DataW.weightsAll P e ds
  | d0 :: ds, d, hd, n, hn => by
    simp only [DataW.weightsAll, List.mem_append]
    rcases List.mem_cons.1 hd with rfl | hd
    · exact .inl hn
    · exact .inr (weights_all hd n hn)
theorem addr_add (a : Addr) (i j : Nat) : (a.add i).add j = a.add (i + j) := by
  unfold Addr.add
  by_cases h1 : i = 0 <;> by_cases h2 : j = 0 <;> simp [h1, h2, Nat.add_assoc]

theorem opens_slice {α : Type} {P : Program} {t e : TypeId} {k : Kd α} {Good : α → Prop} (ht : P.underlying t = some (.slice e)) (hc : P.cellsOf e = k.sz) {B : Nat} (hB : P.bytesOf e = B) (fuel : Nat) (he : ∀ n, n < fuel → Opens P e k Good n) :
    Opens P t (Kd.slice e k) (fun xs => xs.length * B ≤ 140737488351232 ∧ ∀ x ∈ xs, Good x) fuel := by
  intro H enc W base spare held cs x h hw
  rcases DataW.trod_slice ht h with ⟨rfl, rfl⟩ | ⟨a, len, cap, elems, rest, n, rfl, rfl, rfl, hb, hl, hm, hlen, hel, hsp, hns⟩
  · exact ⟨[], ⟨none, 0, rfl, Nat.le_refl _, Kd.C_nil _ _⟩, by simp, fun _ h => by cases h⟩
  · have hwt : (elems.length + rest.length) * B ≤ reachBytes := by
      refine hw _ ?_
      simp only [DataW.weights, ht, List.length_map, hB]
      exact List.mem_cons_self ..
    have each : ∀ i, i < len → ∃ y : α, Good y ∧ ∃ c : List Value, c.length = k.sz ∧ k.K W y c ∧ ∀ j u, c[j]? = some u → W.cell? (a.add (i * k.sz + j)) = some u := by
      intro i hi
      have h1 := hel i hi
      rw [hc, List.getElem?_eq_getElem (by omega)] at h1
      obtain ⟨c, hcs, hy⟩ := Option.bind_eq_some_iff.1 h1
      obtain ⟨_, hcl, hcc⟩ := World.cells?_some hcs
      obtain ⟨y, hK, hG⟩ := he n (by omega) H enc W base spare held c _ hy (fun q hq => hw q (by
        simp only [DataW.weights, ht, List.mem_cons, List.mem_append]
        exact .inr (.inl (weights_all (List.mem_map.2 ⟨elems[i], List.getElem_mem _, rfl⟩) q hq))))
      refine ⟨y, hG, c, hcl, hK, fun j u hu => ?_⟩
      have hj : j < k.sz := by have := (List.getElem?_eq_some_iff.1 hu).1; omega
      have h2 := hcc j hj
      rw [addr_add] at h2
      rw [h2]
      exact hu
    let ys : List α := List.ofFn fun i : Fin len => Classical.choose (each i i.isLt)
    have hyl : ys.length = len := List.length_ofFn
    have hyg : ∀ (i : Nat) (hi : i < len), ys[i]'(by omega) = Classical.choose (each i hi) := fun i hi => by simp [ys]
    refine ⟨ys, ⟨some a, cap, by rw [hyl], by omega, rfl, ?_, fun hp => ⟨a, rfl, fun j p hj => ?_⟩⟩, ?_, fun y hy => ?_⟩
    · rw [hyl]
      simp only [maxLen] at hm
      omega
    · obtain ⟨hjl, rfl⟩ := List.getElem?_eq_some_iff.1 hj
      have h1 := Classical.choose_spec (each j (by omega))
      rw [hyg j (by omega)]
      exact h1.2
    · rw [hyl]
      refine Nat.le_trans (Nat.mul_le_mul_right _ ?_) hwt
      omega
    · obtain ⟨i, hi, rfl⟩ := List.getElem_of_mem hy
      rw [hyg i (by omega)]
      exact (Classical.choose_spec (each i (by omega))).1

/-- Fields one behind the other, from the cell with number o on. -/
def OpensFs {β : Type} (P : Program) (fs : List Field) (o : Nat) (k : Kd β) (Good : β → Prop) (fuel : Nat) : Prop :=
  ∀ (H : Type) (enc : TypeId × Value → H) (W : World) (base : Nat) (spare : Nat → Bool) (held : Bool) (cs : List Value) (xs : List (DataW H × List MemPlace)), xs.length = fs.length →
    (∀ (i : Nat) (f : Field), fs[i]? = some f → DataW.trod enc P W base spare held fuel f.type ((cs.drop f.offset).take (P.cellsOf f.type)) = xs[i]?) →
    (∀ (i : Nat) (f : Field) (x : DataW H × List MemPlace), fs[i]? = some f → xs[i]? = some x → ∀ n ∈ x.1.weights P f.type, n ≤ reachBytes) → cs.length = o + k.sz → ∃ y, k.K W y (cs.drop o) ∧ Good y
theorem opens_last {β : Type} {P : Program} {f : Field} {o : Nat} {k : Kd β} {Good : β → Prop} {fuel : Nat} (ho : f.offset = o) (hc : P.cellsOf f.type = k.sz) (h : Opens P f.type k Good fuel) : OpensFs P [f] o k Good fuel := by
  intro H enc W base spare held cs xs hl hx hw hcs
  obtain ⟨x, rfl⟩ : ∃ x, xs = [x] := List.length_eq_one_iff.1 hl
  have h1 := hx 0 f rfl
  rw [ho, hc, List.take_of_length_le (by rw [List.length_drop]; omega)] at h1
  exact h H enc W base spare held _ x h1 (hw 0 f x rfl rfl)
theorem opens_cons {α β : Type} {P : Program} {f : Field} {fs : List Field} {o : Nat} {k : Kd α} {k2 : Kd β} {Good : α → Prop} {Good2 : β → Prop} {fuel : Nat} (ho : f.offset = o) (hc : P.cellsOf f.type = k.sz) (h : Opens P f.type k Good fuel) (h2 : OpensFs P fs (o + k.sz) k2 Good2 fuel) :
    OpensFs P (f :: fs) o (Kd.pair k k2) (fun y => Good y.1 ∧ Good2 y.2) fuel := by
  intro H enc W base spare held cs xs hl hx hw hcs
  cases xs with
  | nil => simp at hl
  | cons x xs =>
    have h1 := hx 0 f rfl
    rw [ho, hc] at h1
    obtain ⟨y1, hK1, hG1⟩ := h H enc W base spare held _ x h1 (hw 0 f x rfl rfl)
    have hsz : (Kd.pair k k2).sz = k.sz + k2.sz := rfl
    obtain ⟨y2, hK2, hG2⟩ := h2 H enc W base spare held cs xs (by simpa using hl) (fun i g hg => by have := hx (i + 1) g (by simpa using hg); simpa using this)
      (fun i g z hg hz => hw (i + 1) g z (by simpa using hg) (by simpa using hz)) (by omega)
    refine ⟨(y1, y2), ⟨(cs.drop o).take k.sz, cs.drop (o + k.sz), ?_, hK1, hK2⟩, hG1, hG2⟩
    rw [← List.drop_drop, List.take_append_drop]
theorem opens_struct {α β : Type} {P : Program} {t : TypeId} {fs : Array Field} {k : Kd β} {Good : β → Prop} {fuel : Nat} (ht : P.underlying t = some (.struct fs)) (hc : P.cellsOf t = k.sz) (f : α → β) (g : β → α) (hfg : ∀ y, f (g y) = y) (h : ∀ n, n < fuel → OpensFs P fs.toList 0 k Good n) :
    Opens P t (Kd.iso k f) (fun x => Good (f x)) fuel := by
  intro H enc W base spare held cs x hx hw
  obtain ⟨xs, n, rfl, rfl, hcl, hl, hf⟩ := DataW.trod_struct ht hx
  obtain ⟨y, hK, hG⟩ := h n (by omega) H enc W base spare held cs xs (by simpa using hl) (fun i g hg => hf i g (by simpa using hg)) (fun i q z hq hz m hm => hw m (by
    simp only [DataW.weights, ht]
    exact DataW.weights_mem_each (j := i) (t := q.type) (d := z.1) (by simp only [List.getElem?_map, hq]; rfl) (by simp only [List.getElem?_map, hz]; rfl) m hm)) (by omega)
  rw [List.drop_zero] at hK
  refine ⟨g y, ?_, by show Good (f (g y)); rw [hfg]; exact hG⟩
  show k.K W (f (g y)) cs
  rw [hfg]
  exact hK

end Go.Proofs.YtibfoaahdbdogaaDoor.Open

/- A tree that comes in as an argument: what it reads as in memory, and that it fits. -/
namespace Go.Proofs.YtibfoaahdbdogaaDoor.PDom
open Go.RowKit Go.ChangeShapes Go.WideShapes Go.Proofs.YtibfoaahdbdogaaDoorW.PrintWords Go.Proofs.YtibfoaahdbdogaaDoorW.PrintLast Go.Proofs.YtibfoaahdbdogaaDoorW.PrintMore Go.Proofs.YtibfoaahdbdogaaDoor.Dom Go.Proofs.YtibfoaahdbdogaaDoor.Open
set_option linter.unusedVariables false
set_option linter.unusedSimpArgs false

theorem opens_attr (fuel : Nat) : Opens Tryd.prog 31 k31 (fun _ => True) fuel := by
  have h := opens_struct (α := S31) (fuel := fuel) Tryd.underlying31 (by kernel_rfl) (fun x : S31 => (x.f0, x.f1)) (fun y => ⟨y.1, y.2⟩) (fun _ => rfl)
    (fun n _ => opens_cons (P := Tryd.prog) (o := 0) rfl (by kernel_rfl) (opens_string Tryd.underlying9 n) (opens_last (o := 1) rfl (by kernel_rfl) (opens_string Tryd.underlying9 n)))
  intro H enc W base spare held cs x hx hw
  obtain ⟨y, hK, _⟩ := h H enc W base spare held cs x hx hw
  exact ⟨y, hK, trivial⟩
theorem opens_T (fuel : Nat) : Opens Tryd.prog 25 k25 FitS fuel := by
  induction fuel using Nat.strongRecOn with
  | _ fuel ih =>
    have h := opens_struct (α := T) (fuel := fuel) Tryd.underlying25 (by kernel_rfl) (fun x : T => (x.f0, x.f1, x.f2, x.f3, x.f4)) (fun y => ⟨y.1, y.2.1, y.2.2.1, y.2.2.2.1, y.2.2.2.2⟩) (fun _ => rfl)
      (fun n hn => opens_cons (P := Tryd.prog) (o := 0) rfl (by kernel_rfl) (opens_int (k := .i64) Tryd.underlying3 n)
        (opens_cons (o := 1) rfl (by kernel_rfl) (opens_string Tryd.underlying9 n) (opens_cons (o := 2) rfl (by kernel_rfl) (opens_string Tryd.underlying9 n)
          (opens_cons (o := 3) rfl (by kernel_rfl) (opens_slice (k := k31) Tryd.underlying22 (by kernel_rfl) (B := 32) (by kernel_rfl) n (fun m _ => opens_attr m))
            (opens_last (o := 4) rfl (by kernel_rfl) (opens_slice (k := k25) Tryd.underlying23 (by kernel_rfl) (B := 88) (by kernel_rfl) n (fun m hm => ih m (by omega))))))))
    intro H enc W base spare held cs x hx hw
    obtain ⟨y, hK, hG⟩ := h H enc W base spare held cs x hx hw
    obtain ⟨_, _, rfl, rfl, ⟨_, _, rfl, rfl, ⟨_, _, rfl, rfl, ⟨_, _, rfl, ⟨A3, c3, rfl, l3, g3⟩, ⟨A4, c4, rfl, l4, g4⟩⟩⟩⟩⟩ := hK
    obtain ⟨_, hn, _, ⟨ha, _⟩, ⟨hb, hy⟩⟩ := hG
    have ha2 : y.f3.length * 32 ≤ 140737488351232 := ha
    have hb2 : y.f4.length * 88 ≤ 140737488351232 := hb
    exact ⟨y, k25_mk W y l3 g3 l4 g4, FitS.mk y hn (by omega) (by omega) hy⟩
theorem open_T {H : Type} {enc : TypeId × Value → H} {W : World} {base : Nat} {spare : Nat → Bool} {held : Bool} {v : Value} {d : DataW H} {ps : List MemPlace} {ts : List TypeId} {ds : List (DataW H)} {j : Nat} {t : TypeId} (e : t = 25)
    (hd : DataW.Trod enc Tryd.prog W base spare held t v d ps) (hsz : (DataW.weightsEach Tryd.prog ts ds).all (· ≤ reachBytes) = true) (ht : ts[j]? = some t) (hdj : ds[j]? = some d) :
    ∃ (y : T) (A3 : Option Addr) (c3 : Nat) (A4 : Option Addr) (c4 : Nat), FitS y ∧ v.cells.toList = [.int .i64 y.f0, .string y.f1, .string y.f2, .slice A3 y.f3.length c3, .slice A4 y.f4.length c4] ∧ k31.C W A3 y.f3.length y.f3 ∧ y.f3.length ≤ c3 ∧ k25.C W A4 y.f4.length y.f4 ∧ y.f4.length ≤ c4 := by
  subst e
  obtain ⟨fuel, hf⟩ := hd
  obtain ⟨y, hK, hG⟩ := opens_T fuel H enc W base spare held _ _ hf (fun n hn => by
    have := List.all_eq_true.1 hsz n (DataW.weights_mem_each ht hdj n hn)
    simpa using this)
  obtain ⟨A3, c3, A4, c4, hcs, l3, g3, l4, g4⟩ := k25_open hK
  exact ⟨y, A3, c3, A4, c4, hG, hcs, g3, l3, g4, l4⟩
end Go.Proofs.YtibfoaahdbdogaaDoor.PDom

/- The row of the law FnDomClasses, out of its walk. No further conditions. -/
namespace Go.Proofs.YtibfoaahdbdogaaDoor.fnDomClasses
open Go.ChangeShapes Go.WideShapes Go.ChangeAt Go.RowKit
open Go.ChangeMaps (open_string shut_string)
open Go.Proofs.YtibfoaahdbdogaaDoor.PDom
set_option linter.unusedVariables false
theorem own : ownKnob Tryd.prog.godebug = none := by kernel_rfl
theorem laidOut : laidOutB Tryd.prog = true := by kernel_rfl
/-- A world in which the listed variables hold what the program lays. -/
noncomputable def laidWorld (os : Os) : World :=
  let N := (World.settled Tryd.prog os).heap.size
  let w0 := World.holding Tryd.prog os ⟨#[.cells #[Value.int .u16 9, Value.int .u16 13, Value.int .u16 1, Value.int .u16 32, Value.int .u16 133, Value.int .u16 101, Value.int .u16 160, Value.int .u16 5760, Value.int .u16 5600, Value.int .u16 8192, Value.int .u16 8202, Value.int .u16 1, Value.int .u16 8232, Value.int .u16 8233, Value.int .u16 1, Value.int .u16 8239, Value.int .u16 8287, Value.int .u16 48, Value.int .u16 12288, Value.int .u16 12288, Value.int .u16 1] 97, .cells #[Value.slice (some ⟨N + 0, 0, none⟩) 7 7, Value.slice none 0 0, Value.int .i64 2] 94], #[], []⟩
  let put (h : Array Obj) (g : Nat) (cs : Array Value) : Array Obj := h.modify g fun
    | .cells _ t frozen => .cells cs t frozen
    | o => o
  { w0 with heap := put (put (w0.heap) 1 #[Value.pointer (some ⟨N + 1, 0, none⟩)]) 0 #[Value.int .u8 0, Value.int .u8 0, Value.int .u8 0, Value.int .u8 0, Value.int .u8 0, Value.int .u8 0, Value.int .u8 0, Value.int .u8 0, Value.int .u8 0, Value.int .u8 1, Value.int .u8 1, Value.int .u8 1, Value.int .u8 1, Value.int .u8 1, Value.int .u8 0, Value.int .u8 0, Value.int .u8 0, Value.int .u8 0, Value.int .u8 0, Value.int .u8 0, Value.int .u8 0, Value.int .u8 0, Value.int .u8 0, Value.int .u8 0, Value.int .u8 0, Value.int .u8 0, Value.int .u8 0, Value.int .u8 0, Value.int .u8 0, Value.int .u8 0, Value.int .u8 0, Value.int .u8 0, Value.int .u8 1, Value.int .u8 0, Value.int .u8 0, Value.int .u8 0, Value.int .u8 0, Value.int .u8 0, Value.int .u8 0, Value.int .u8 0, Value.int .u8 0, Value.int .u8 0, Value.int .u8 0, Value.int .u8 0, Value.int .u8 0, Value.int .u8 0, Value.int .u8 0, Value.int .u8 0, Value.int .u8 0, Value.int .u8 0, Value.int .u8 0, Value.int .u8 0, Value.int .u8 0, Value.int .u8 0, Value.int .u8 0, Value.int .u8 0, Value.int .u8 0, Value.int .u8 0, Value.int .u8 0, Value.int .u8 0, Value.int .u8 0, Value.int .u8 0, Value.int .u8 0, Value.int .u8 0, Value.int .u8 0, Value.int .u8 0, Value.int .u8 0, Value.int .u8 0, Value.int .u8 0, Value.int .u8 0, Value.int .u8 0, Value.int .u8 0, Value.int .u8 0, Value.int .u8 0, Value.int .u8 0, Value.int .u8 0, Value.int .u8 0, Value.int .u8 0, Value.int .u8 0, Value.int .u8 0, Value.int .u8 0, Value.int .u8 0, Value.int .u8 0, Value.int .u8 0, Value.int .u8 0, Value.int .u8 0, Value.int .u8 0, Value.int .u8 0, Value.int .u8 0, Value.int .u8 0, Value.int .u8 0, Value.int .u8 0, Value.int .u8 0, Value.int .u8 0, Value.int .u8 0, Value.int .u8 0, Value.int .u8 0, Value.int .u8 0, Value.int .u8 0, Value.int .u8 0, Value.int .u8 0, Value.int .u8 0, Value.int .u8 0, Value.int .u8 0, Value.int .u8 0, Value.int .u8 0, Value.int .u8 0, Value.int .u8 0, Value.int .u8 0, Value.int .u8 0, Value.int .u8 0, Value.int .u8 0, Value.int .u8 0, Value.int .u8 0, Value.int .u8 0, Value.int .u8 0, Value.int .u8 0, Value.int .u8 0, Value.int .u8 0, Value.int .u8 0, Value.int .u8 0, Value.int .u8 0, Value.int .u8 0, Value.int .u8 0, Value.int .u8 0, Value.int .u8 0, Value.int .u8 0, Value.int .u8 0, Value.int .u8 0, Value.int .u8 0, Value.int .u8 0, Value.int .u8 0, Value.int .u8 0, Value.int .u8 0, Value.int .u8 0, Value.int .u8 0, Value.int .u8 0, Value.int .u8 0, Value.int .u8 0, Value.int .u8 0, Value.int .u8 0, Value.int .u8 0, Value.int .u8 0, Value.int .u8 0, Value.int .u8 0, Value.int .u8 0, Value.int .u8 0, Value.int .u8 0, Value.int .u8 0, Value.int .u8 0, Value.int .u8 0, Value.int .u8 0, Value.int .u8 0, Value.int .u8 0, Value.int .u8 0, Value.int .u8 0, Value.int .u8 0, Value.int .u8 0, Value.int .u8 0, Value.int .u8 0, Value.int .u8 0, Value.int .u8 0, Value.int .u8 0, Value.int .u8 0, Value.int .u8 0, Value.int .u8 0, Value.int .u8 0, Value.int .u8 0, Value.int .u8 0, Value.int .u8 0, Value.int .u8 0, Value.int .u8 0, Value.int .u8 0, Value.int .u8 0, Value.int .u8 0, Value.int .u8 0, Value.int .u8 0, Value.int .u8 0, Value.int .u8 0, Value.int .u8 0, Value.int .u8 0, Value.int .u8 0, Value.int .u8 0, Value.int .u8 0, Value.int .u8 0, Value.int .u8 0, Value.int .u8 0, Value.int .u8 0, Value.int .u8 0, Value.int .u8 0, Value.int .u8 0, Value.int .u8 0, Value.int .u8 0, Value.int .u8 0, Value.int .u8 0, Value.int .u8 0, Value.int .u8 0, Value.int .u8 0, Value.int .u8 0, Value.int .u8 0, Value.int .u8 0, Value.int .u8 0, Value.int .u8 0, Value.int .u8 0, Value.int .u8 0, Value.int .u8 0, Value.int .u8 0, Value.int .u8 0, Value.int .u8 0, Value.int .u8 0, Value.int .u8 0, Value.int .u8 0, Value.int .u8 0, Value.int .u8 0, Value.int .u8 0, Value.int .u8 0, Value.int .u8 0, Value.int .u8 0, Value.int .u8 0, Value.int .u8 0, Value.int .u8 0, Value.int .u8 0, Value.int .u8 0, Value.int .u8 0, Value.int .u8 0, Value.int .u8 0, Value.int .u8 0, Value.int .u8 0, Value.int .u8 0, Value.int .u8 0, Value.int .u8 0, Value.int .u8 0, Value.int .u8 0, Value.int .u8 0, Value.int .u8 0, Value.int .u8 0, Value.int .u8 0, Value.int .u8 0, Value.int .u8 0, Value.int .u8 0, Value.int .u8 0, Value.int .u8 0, Value.int .u8 0, Value.int .u8 0, Value.int .u8 0, Value.int .u8 0, Value.int .u8 0, Value.int .u8 0, Value.int .u8 0, Value.int .u8 0, Value.int .u8 0, Value.int .u8 0, Value.int .u8 0, Value.int .u8 0, Value.int .u8 0, Value.int .u8 0] }
set_option maxRecDepth 100000 in
theorem laid_met (os : Os) (args : Array Value) : laidMet Tryd.prog Rows.fnDomClassesRow.laid ((laidWorld os).forCall (fun _ _ => 0) ⟨#[], args, []⟩).memory :=
  laidMet_of_run3 10 (by kernel_rfl) (by kernel_rfl) (by kernel_rfl)
set_option maxRecDepth 100000 in
theorem wit (os : Os) {H : Type} (enc : TypeId × Value → H) : ∃ (w : World) (tape : Tape) (i : Input), w.os = os ∧ (w.forCall tape i).Shaped Tryd.checked.prog ∧ i.vars = [] ∧ Input.okWide Tryd.checked.prog (w.forCall tape i) .any w.heap.size 4 i ∧
      ((Rows.fnDomClassesSpec.pre enc Tryd.checked.prog Tryd.f4 Rows.fnDomClassesRow.domain false (w.forCall tape i).memory i.args ∧ laidMet Tryd.prog Rows.fnDomClassesRow.laid (w.forCall tape i).memory) ∧ sizedMet enc Tryd.checked.prog Tryd.f4 (OpenSpec.ofChange Rows.fnDomClassesSpec) false (w.forCall tape i).memory i.args) ∧ ({} : Assume).holds Tryd.checked.prog (lone (Frame.enter Tryd.checked.prog 4 i.args .normal) [] (w.forCall tape i)) :=
  have hok : Input.okWideB Tryd.checked.prog ((laidWorld os).forCall (fun _ _ => 0) ⟨#[], #[.agg #[.int .i64 0, .string ByteArray.empty, .string ByteArray.empty, .slice none 0 0, .slice none 0 0], .string ByteArray.empty], []⟩) 4 ⟨#[], #[.agg #[.int .i64 0, .string ByteArray.empty, .string ByteArray.empty, .slice none 0 0, .slice none 0 0], .string ByteArray.empty], []⟩ = true := by kernel_rfl
  ⟨laidWorld os, fun _ _ => 0, ⟨#[], #[.agg #[.int .i64 0, .string ByteArray.empty, .string ByteArray.empty, .slice none 0 0, .slice none 0 0], .string ByteArray.empty], []⟩, rfl, World.shaped_of_RefB (by kernel_rfl) (by kernel_rfl), (Input.okWide_of_okWideB (base := 0) hok).1, (Input.okWide_of_okWideB hok).2, ⟨⟨ChangeSpec.pre_of_preB (fuel := 8) (by kernel_rfl), laid_met os _⟩, sizedMet_of_sizedB (fuel := 8) (by kernel_rfl)⟩, by
    simp only [Assume.holds]
    exact ⟨by simp, by simp, (fun h => by cases h), by simp, by simp⟩⟩
set_option maxRecDepth 100000 in
theorem lifted (os : Os) (started : os.Started) (H : Type) (enc : TypeId × Value → H) :
    ReturnsInHanded {} Tryd.checked os 4 .any (fun w args => (Rows.fnDomClassesSpec.pre enc Tryd.prog Tryd.f4 Rows.fnDomClassesRow.domain false w args ∧ laidMet Tryd.prog Rows.fnDomClassesRow.laid w) ∧ sizedMet enc Tryd.prog Tryd.f4 (OpenSpec.ofChange Rows.fnDomClassesSpec) false w args) (Rows.fnDomClassesSpec.post enc Tryd.prog Tryd.f4 false true false false) := by
  refine returnsInHanded_of_change_and (C := Tryd.checked) (X := fun w _ => laidMet Tryd.prog Rows.fnDomClassesRow.laid w) (fun _ _ _ hh h => h.of_heap hh) own started (by kernel_rfl) Tryd.func4 (wit os enc) ?_
  intro W base args ds gs before hval0 hW hcnd hsz0 hL _
  have hsz : (DataW.weightsEach Tryd.prog (Tryd.f4.params.toList ++ Rows.fnDomClassesSpec.plain.varTypes Tryd.prog) (ds ++ gs)).all (· ≤ reachBytes) = true := hsz0
  have hval : ∀ (j : Nat) t v, Tryd.f4.params[j]? = some t → args[j]? = some v → Value.okWide Tryd.prog W .any base t v := hval0
  have hW' := hW
  obtain ⟨p, q, hA0, hV, rfl, hfz, hnd⟩ := hW
  have hA : DataW.TrodAll enc Tryd.prog W 0 (fun _ => true) true Tryd.f4.params.toList args.toList ds p := hA0
  rw [Tryd.params4] at hA hval hsz
  obtain ⟨v0, vs0, d0, ds0, p0, q0, hargs, rfl, rfl, h0, r0⟩ := trodAll_cons hA
  obtain ⟨v1, vs1, d1, ds1, p1, q1, rfl, rfl, rfl, h1, r1⟩ := trodAll_cons r0
  obtain ⟨rfl, rfl, rfl⟩ := trodAll_nil r1
  obtain rfl : args = #[v0, v1] := by cases args; simp_all
  obtain ⟨rfl, rfl⟩ := trodVars_none hV
  obtain ⟨cs0, rfl, hz0⟩ := okWide_struct Tryd.underlying25 (hval 0 25 v0 rfl rfl)
  have k0 := h0
  have lt0 : ∀ x ∈ p0, x.block < W.heap.size := by obtain ⟨m, hm⟩ := k0; exact DataW.trod_lt m _ _ _ hm
  obtain ⟨x0, A0, c0, B0, d_0, hF0, hcs0, hC0, hl0, hD0, hm0⟩ := open_T rfl h0 hsz (j := 0) (t := 25) rfl rfl
  obtain rfl : cs0 = #[.int .i64 x0.f0, .string x0.f1, .string x0.f2, .slice A0 x0.f3.length c0, .slice B0 x0.f4.length d_0] := by cases cs0; simpa [Value.cells] using hcs0
  obtain ⟨a1, rfl, rfl, rfl, y1⟩ := open_string Tryd.underlying9 (hval 1 9 v1 rfl rfl) h1
  have w1 : a1.size ≤ 140737488351232 := by
    have z := sized_string hsz (j := 1) (t := 9) rfl rfl
    rw [Array.length_toList] at z
    exact z
  clear hA0 hval0 hsz0
  refine (PDom.cls_row x0 A0 c0 B0 d_0 a1 W hF0 hC0 hl0 hD0 hm0 w1 hL).mono fun e W' ⟨he, bel⟩ => ?_
  subst he
  exact ⟨_, rfl, _, _, _, [], _, [], hW', trodAll_mk1 (shut_bool Tryd.underlying4 _), (trodAll_cons_mk (Below.trod laidOut (by kernel_rfl) (of_decide_eq_true (by kernel_rfl)) k0 bel lt0) (trodAll_cons_mk (shut_string Tryd.underlying9 y1) trodAll_mk0)), rfl, bel.frame _, fun h => by cases h⟩
theorem over : Rows.fnDomClassesRow.holds Tryd.pinned (OpenSpec.ofChange Rows.fnDomClassesSpec) :=
  OpenClaim.holds_of_wide 4 Tryd.f4 rfl rfl rfl rfl rfl rfl rfl ⟨rfl, rfl, rfl, rfl, rfl⟩ rfl rfl rfl rfl rfl (by kernel_rfl) Tryd.func4 (by kernel_rfl)
    (of_decide_eq_true (by kernel_rfl)) (by unfold Func.isWrapper; first | (rw [if_pos (by decide +kernel)]; kernel_rfl) | (rw [if_neg (by decide +kernel)]; exact ⟨rfl, rfl⟩))
    (fun os started H enc _ => lifted os started H enc)
theorem proved : Rows.FnDomClassesCardSaid :=
  Claim7.holds_tied_plain_at .later [] [.listed, .data] true (true, "f827e1f945728a26ba5288b95a9c86fd9f8e34eaff24a1c3828cfb0b9ef59399") false
    over (fun _ h => by cases h) (by kernel_rfl) (fun _ h => by cases h) fnDomClasses_row_tie rfl ⟨rfl, rfl⟩ (by kernel_rfl) rfl
    (fun f fn hf hfn => by
      obtain rfl : f = 4 := Option.some.inj ((show Tryd.prog.funcNamed "pub-ligature/laws.FnDomClasses" = some 4 by kernel_rfl).symm.trans hf) |>.symm
      obtain rfl : fn = Tryd.f4 := (Option.some.inj (Tryd.func4.symm.trans hfn)).symm
      exact ⟨by kernel_rfl, fun j t ht => by
        rw [Tryd.params4] at ht
        have hm : t ∈ [25, 9] := by
          have := Array.mem_of_getElem? ht
          simpa using this
        simp only [List.mem_cons, List.mem_nil_iff, or_false] at hm
        rcases hm with rfl | rfl
        · exact (show Tryd.prog.wantsStandIn 25 = false by kernel_rfl)
        · exact (show Tryd.prog.wantsStandIn 9 = false by kernel_rfl)⟩)
    (by kernel_rfl)
#print axioms proved
end Go.Proofs.YtibfoaahdbdogaaDoor.fnDomClasses
namespace Go.Proofs.YtibfoaahdbdogaaDoor
/-- The card, under a short name, for the claim. -/
theorem fnDomClasses_holds : Rows.FnDomClassesCardSaid := fnDomClasses.proved
end Go.Proofs.YtibfoaahdbdogaaDoor
