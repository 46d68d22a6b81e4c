/- A part of the proof of FnDomTextUptoCard: FTxt, LiveT, PureTxt, Open, OpenB, OpenTB, RowFnDomTextUpto, one behind the other. -/
import Derived.Test.YtibfoaahdbdogaaDoorMFnDomTextUptoCard2
import Derived.Test.YtibfoaahdbdogaaDoorMFnDomTextUptoCard3
import Derived.Test.YtibfoaahdbdogaaDoorMFnDomTextUptoCard1
import Derived.ChangeArms
import Derived.ChangeSlices
import Derived.DataReads
import Derived.SizedLaws
import Derived.Test.YtibfoaahdbdogaaDoorRows
import Derived.Test.YtibfoaahdbdogaaDoorTie
import Derived.Test.YtibfoaahdbdogaaDoorCards
import Derived.Deep.DeepHandedRow
import Derived.Deep.DeepWitnessRowRef
import Derived.WalkKit
import Derived.ProofKit
import Derived.OpenShut
import Derived.ShutString
import Derived.ChangeOld
import Derived.Below
import Derived.Handed
import Derived.LaidLaws
import Derived.Deep.DeepLaidRun
import Derived.SevenTiedAt
import Derived.Stop.Joined
import Derived.Lib.LaidU8
/- Printed by the program extprint.py of this session, out of the kit's print and contracts of this session's own; Lean checks it. -/
namespace Go.Proofs.YtibfoaahdbdogaaDoor.PDom
open Go.RowKit Go.Proofs.YtibfoaahdbdogaaDoorW.PrintWords Go.Proofs.YtibfoaahdbdogaaDoorW.PrintLast Go.Proofs.YtibfoaahdbdogaaDoorW.PrintMore
attribute [local go_sem] max2_int min2_int max_two min_two max_three min_three max_four min_four   -- for this text's walks alone
set_option linter.unusedVariables false
set_option linter.unusedSimpArgs false








-- NOT PRINTED: function 40 (bytes_Buffer_tryGrowByReslice)


-- NOT PRINTED: function 44 (bytes_Buffer_Reset)

-- NOT PRINTED: function 45 (bytes_growSlice)

-- NOT PRINTED: function 41 (bytes_Buffer_grow)

-- NOT PRINTED: function 36 (bytes_Buffer_WriteString)

-- NOT PRINTED: function 27 (dom_collectText)

-- NOT PRINTED: function 28 (bytes_Buffer_String)

-- NOT PRINTED: function 17 (dom_CollectText)


-- NOT PRINTED: function 30 (html_Node_AppendChild)

-- NOT PRINTED: function 18 (impl_made)





-- NOT PRINTED: function 31 (dom_NodeName)


-- NOT PRINTED: function 32 (dom_AllNodes)

-- NOT PRINTED: function 33 (impl_pathOf)



/-! ### laws_living29: function 9 -/
def laws_living29.f (k : Nat)  : Option (Bool) := (laws_text29.f (⟨#[97]⟩ : ByteArray)).bind fun bt138 => ((laws_tag29.f (⟨#[112]⟩ : ByteArray) (([(⟨bt138.1, bt138.2.1, bt138.2.2.1, bt138.2.2.2.1, bt138.2.2.2.2⟩ : S25)] : List (S25)))).bind fun bt150 => ((impl_NameOf.f k bt150.1 bt150.2.1 bt150.2.2.1 bt150.2.2.2.1 bt150.2.2.2.2).bind fun t160 => (if t160.toList = ([112] : List UInt8) then ((impl_AllNodes.f k bt150.1 bt150.2.1 bt150.2.2.1 bt150.2.2.2.1 bt150.2.2.2.2).bind fun t161 => (some ((t161.length : Int) == 2))) else (some false))))
theorem laws_living29.mono : ∀ k, LeO (laws_living29.f k ) (laws_living29.f (k + 1) ) := by
  intro  k
  unfold laws_living29.f
  repeat' first
      | (with_reducible exact impl_AllNodes.mono _ _ _ _ _ _)
      | (with_reducible exact impl_NameOf.mono _ _ _ _ _ _)
      | (with_reducible exact LeO.refl _)
      | (with_reducible exact LeO.none _)
      | (with_reducible refine LeO.ite ?_ ?_)
      | (with_reducible refine LeO.bind ?_ (fun _ => ?_))
      | exact impl_AllNodes.mono _ _ _ _ _ _
      | exact impl_NameOf.mono _ _ _ _ _ _
      | exact LeO.none _
      | refine LeO.ite ?_ ?_
      | refine LeO.bind ?_ (fun _ => ?_)
set_option maxHeartbeats 8000000 in
set_option maxRecDepth 100000 in
theorem laws_living29.calls (k : Nat)  (r : Bool) (w : World) (h : laws_living29.f k  = some r) :
    Calls Tryd.prog 9 #[] w fun e w' => e = .returned (.bool r) ∧ Below w.heap.size w w' := by
  have hu25 := Tryd.underlying25
  have HB := Aside0.mk (Below.refl w.heap.size w)
  have H : ((laws_text29.f (⟨#[97]⟩ : ByteArray)).bind fun bt138 => ((laws_tag29.f (⟨#[112]⟩ : ByteArray) (([(⟨bt138.1, bt138.2.1, bt138.2.2.1, bt138.2.2.2.1, bt138.2.2.2.2⟩ : S25)] : List (S25)))).bind fun bt150 => ((impl_NameOf.f k bt150.1 bt150.2.1 bt150.2.2.1 bt150.2.2.2.1 bt150.2.2.2.2).bind fun t160 => (if t160.toList = ([112] : List UInt8) then ((impl_AllNodes.f k bt150.1 bt150.2.1 bt150.2.2.1 bt150.2.2.2.1 bt150.2.2.2.2).bind fun t161 => (some ((t161.length : Int) == 2))) else (some false))))) = some r := h
  clear h
  replace H := Option.bind_eq_some_iff.mp H
  obtain ⟨⟨t138, t139, t140, t141, t144⟩, A10, H⟩ := H
  replace H : ((laws_tag29.f (⟨#[112]⟩ : ByteArray) (([(⟨t138, t139, t140, t141, t144⟩ : S25)] : List (S25)))).bind fun bt150 => ((impl_NameOf.f k bt150.1 bt150.2.1 bt150.2.2.1 bt150.2.2.2.1 bt150.2.2.2.2).bind fun t160 => (if t160.toList = ([112] : List UInt8) then ((impl_AllNodes.f k bt150.1 bt150.2.1 bt150.2.2.1 bt150.2.2.2.1 bt150.2.2.2.2).bind fun t161 => (some ((t161.length : Int) == 2))) else (some false)))) = some r := H
  have A1 := Aside0.mk A10
  clear A10
  obtain ⟨y147, hy147⟩ : ∃ y_ : List (S25), y_ = (([(⟨t138, t139, t140, t141, t144⟩ : S25)] : List (S25))) := ⟨_, rfl⟩
  replace H : ((laws_tag29.f (⟨#[112]⟩ : ByteArray) y147).bind fun bt150 => ((impl_NameOf.f k bt150.1 bt150.2.1 bt150.2.2.1 bt150.2.2.2.1 bt150.2.2.2.2).bind fun t160 => (if t160.toList = ([112] : List UInt8) then ((impl_AllNodes.f k bt150.1 bt150.2.1 bt150.2.2.1 bt150.2.2.2.1 bt150.2.2.2.2).bind fun t161 => (some ((t161.length : Int) == 2))) else (some false)))) = some r := by first | (rw [hy147]; with_reducible exact H) | (have H2_ := (Option.bind_some _ _).symm.trans H; rw [hy147]; with_reducible exact H2_) | (have H2_ := (Option.bind_some _ _).symm.trans H; with_reducible exact H2_) | with_reducible exact H | (rw [hy147]; exact H) | exact H
  have Ny147 := Aside0.mk hy147
  clear hy147
  replace H := Option.bind_eq_some_iff.mp H
  obtain ⟨⟨t150, t151, t152, t153, t156⟩, A20, H⟩ := H
  replace H : ((impl_NameOf.f k t150 t151 t152 t153 t156).bind fun t160 => (if t160.toList = ([112] : List UInt8) then ((impl_AllNodes.f k t150 t151 t152 t153 t156).bind fun t161 => (some ((t161.length : Int) == 2))) else (some false))) = some r := H
  have A2 := Aside0.mk A20
  clear A20
  replace H := Option.bind_eq_some_iff.mp H
  obtain ⟨t160, A30, H⟩ := H
  replace H : (if t160.toList = ([112] : List UInt8) then ((impl_AllNodes.f k t150 t151 t152 t153 t156).bind fun t161 => (some ((t161.length : Int) == 2))) else (some false)) = some r := H
  have A3 := Aside0.mk A30
  clear A30
  by_cases c4 : t160.toList = ([112] : List UInt8)
  · rw [if_pos c4] at H
    have c4b0 : (t160.toList == ([112] : List UInt8)) = true := beq_iff_eq.mpr c4
    have c4b1 : (t160.toList != ([112] : List UInt8)) = false := bne_eq_false_iff_eq.mpr c4
    clear c4
    replace H := Option.bind_eq_some_iff.mp H
    obtain ⟨t161, A50, H⟩ := H
    replace H : (some ((t161.length : Int) == 2)) = some r := H
    have A5 := Aside0.mk A50
    clear A50
    obtain rfl := Option.some.inj H
    go_enter Tryd.func9, Tryd.ntmps9
    go_wp2_with (first | ((with_reducible refine gate_callee (f := 20) rfl ?_); refine goesL_ (some 2) rfl rfl Tryd.func20 (by kernel_rfl) rfl #[.string (⟨#[97]⟩ : ByteArray)] rfl (by (try simp only [List.map_toArray, List.map_cons, List.map_nil]); first | done | rfl | (simp only [List.length_drop, List.length_take]; rfl)) ?_; (with_reducible refine (laws_text29.calls (⟨#[97]⟩ : ByteArray) t138 t139 t140 t141 t144 _ A1.out).mono ?_); rintro e w6 ⟨v142, v145, rfl, ho0, ho1, hb⟩; refine ⟨_, rfl, ?_⟩; have n0_ := Aside0.mk (Kd.R_lower ho0 (below_size (by repeat (first | (with_reducible first | exact HB.out | apply below_alloc | apply pw_below_drewN | apply below_drew1) | exact HB.out)))); have n1_ := Aside0.mk (Kd.N_lower (Kd.N_mono (ok' := fun k_ => some k_ ≠ (v142 : Value).ownBlock) (Kd.R_N (Kd.R_bound ho1)) (fun k_ hk_ => hk_.1)) (below_size (by repeat (first | (with_reducible first | exact HB.out | apply below_alloc | apply pw_below_drewN | apply below_drew1) | exact HB.out)))); have n2_ := Aside0.mk (below_step (by repeat (first | (with_reducible first | exact HB.out | apply below_alloc | apply pw_below_drewN | apply below_drew1) | exact HB.out)) hb); clear HB; have HO143 := n0_; have HO146 := n1_; have HB := n2_; clear n0_ n1_ n2_; (try clear hb); (try clear hb2); (try clear hk); (try clear hi); (try clear ho0); (try clear ho1); obtain ⟨Ao7, co7, eo7⟩ := Kd.R_slice HO143.out; subst eo7; obtain ⟨Ao8, co8, eo8⟩ := Kd.N_slice HO146.out; subst eo8) | ((with_reducible refine gate_dst (N := 3) rfl ?_); (try (refine gate_guard (by rfl) ?_; dsimp only)); refine Kd.N_lit k25 _ 25 ?hg (N' := 3) ?hd (xs := ([(⟨t138, t139, t140, t141, t144⟩ : S25)] : List (S25))) (inner := [.int .i64 t138, .string t139, .string t140, .slice Ao7 t141.length co7, .slice Ao8 t144.length co8]) (ok := (fun _ => True)) (okp := (fun _ => True)) ?hr ?hp (fun _ hk => hk) ((show ∀ k_, w6.heap.size ≤ k_ → (fun _ => True) k_ from fun k_ hk => trivial) _ (Nat.le_refl _)) (Below.refl _ _) (Nat.le_refl _) (by simp) ?_; (case hd => rfl); (case hg => rfl); (case hr => first | (go_simp; done) | (go_simp; rfl)); (case hp => exact (Reps.c5 (show Kd.FK k25 _ _ (⟨t138, t139, t140, t141, t144⟩ : S25) [.int .i64 t138, .string t139, .string t140, .slice Ao7 t141.length co7, .slice Ao8 t144.length co8] from (k25_mkF _ _ (⟨t138, t139, t140, t141, t144⟩ : S25) (Kd.R_reads' (Kd.R_mono (ok' := (fun _ => True)) (HO143.out) (fun k_ hk => trivial))).2.1 (Kd.R_F (Kd.R_mono (ok' := (fun _ => True)) (HO143.out) (fun k_ hk => trivial))) (Kd.N_reads' (Kd.N_mono (ok' := (fun _ => True)) (HO146.out) (fun k_ hk => trivial))).2.1 (Kd.N_F (Kd.N_mono (ok' := (fun _ => True)) (HO146.out) (fun k_ hk => trivial))))) (Reps.none _ _))); intro v148 w9 ho10 hb hg_ hnew_; clear hg_ hnew_; (first | rw [← Ny147.out] at ho10 | (simp only [Int.reduceToNat] at ho10; rw [← Ny147.out] at ho10)); have n0_ := Aside0.mk (Kd.N_lower ho10 (below_size (by repeat (first | (with_reducible first | exact HB.out | apply below_alloc | apply pw_below_drewN | apply below_drew1) | exact HB.out)))); have n1_ := Aside0.mk (below_step (by repeat (first | (with_reducible first | exact HB.out | apply below_alloc | apply pw_below_drewN | apply below_drew1) | exact HB.out)) hb); clear HB; clear HO143; clear HO146; have HO149 := n0_; have HB := n1_; clear n0_ n1_; clear hb ho10; obtain ⟨Ao11, co11, eo11⟩ := Kd.N_slice HO149.out; subst eo11) | ((with_reducible refine gate_callee (f := 19) rfl ?_); refine goesL_ (some 4) rfl rfl Tryd.func19 (by kernel_rfl) rfl #[.string (⟨#[112]⟩ : ByteArray), .slice Ao11 y147.length co11] rfl (by (try simp only [List.map_toArray, List.map_cons, List.map_nil]); first | done | rfl | (simp only [List.length_drop, List.length_take]; rfl)) ?_; (with_reducible refine (laws_tag29.calls (⟨#[112]⟩ : ByteArray) (fun k_ => True) _ _ y147 t150 t151 t152 t153 t156 _ ?side1 A2.out).mono ?_); (case side1 => exact Kd.N_V (HO149.out)); rintro e w12 ⟨v154, v157, rfl, ho0, ho1, hb⟩; refine ⟨_, rfl, ?_⟩; have n0_ := Aside0.mk (Kd.N_elder' (by (with_reducible repeat (first | apply Kd.N_alloc | apply Kd.N_drewN | apply Kd.N_drew)); exact HO149.out) (Kd.R_base ho0) hb); have n1_ := Aside0.mk (Kd.R_lower (Kd.R_mono (ok' := fun k_ => True) ho0 (fun _ hk_ => trivial)) (below_size (by repeat (first | (with_reducible first | exact HB.out | apply below_alloc | apply pw_below_drewN | apply below_drew1) | exact HB.out)))); have n2_ := Aside0.mk (Kd.V_lower (Kd.V_mono (ok' := fun k_ => some k_ ≠ (v154 : Value).ownBlock) ho1 (fun k_ hk_ => hk_.2)) (below_size (by repeat (first | (with_reducible first | exact HB.out | apply below_alloc | apply pw_below_drewN | apply below_drew1) | exact HB.out)))); have n3_ := Aside0.mk (below_step (by repeat (first | (with_reducible first | exact HB.out | apply below_alloc | apply pw_below_drewN | apply below_drew1) | exact HB.out)) hb); clear HO149; clear HB; have HO149 := n0_; have HO155 := n1_; have HO158 := n2_; have HB := n3_; clear n0_ n1_ n2_ n3_; (try clear hb); (try clear hb2); (try clear hk); (try clear hi); (try clear ho0); (try clear ho1)) | ((with_reducible refine gate_dst (N := 1) rfl ?_); (try (refine gate_guard (by rfl) ?_; dsimp only)); refine box_event ?hg (N := 1) ?hd (cs := #[.int .i64 0, .string (⟨#[]⟩ : ByteArray), .string (⟨#[]⟩ : ByteArray), .slice none 0 0, .slice none 0 0]) (t := 25) ?hr ?_; (case hd => rfl); (case hg => rfl); (case hr => first | (go_simp; done) | (go_simp; rfl)); intro gb159 hg w13 hbox hb; have n0_ := Aside0.mk (Kd.N_below (Kd.N_elderB (by (with_reducible repeat (first | apply Kd.N_alloc | apply Kd.N_drewN | apply Kd.N_drew)); exact HO149.out) gb159 (Nat.le_of_eq hg.symm)) hb); have n1_ := Aside0.mk (Kd.R_below (by (with_reducible repeat (first | apply Kd.R_alloc | apply Kd.R_drewN | apply Kd.R_drew)); exact HO155.out) hb); have n2_ := Aside0.mk (Kd.V_below (Kd.V_elderB (by (with_reducible repeat (first | apply Kd.V_alloc | apply Kd.V_drewN | apply Kd.V_drew)); exact HO158.out) gb159 (Nat.le_of_eq hg.symm)) hb); have n3_ := Aside0.mk (below_step (by repeat (first | (with_reducible first | exact HB.out | apply below_alloc | apply pw_below_drewN | apply below_drew1) | exact HB.out)) hb); have n4_ := Aside0.mk (hbox); have n5_ := Aside0.mk ((by rw [hg]; exact (below_size (by repeat (first | (with_reducible first | exact HB.out | apply below_alloc | apply pw_below_drewN | apply below_drew1) | exact HB.out))) : w.heap.size ≤ gb159)); have n6_ := Aside0.mk ((by rw [hg]; exact (below_size (by repeat (first | (with_reducible first | exact HB.out | apply below_alloc | apply pw_below_drewN | apply below_drew1) | exact HB.out))) : w.heap.size ≤ gb159)); clear HO149; clear HO155; clear HO158; clear HB; have HO149 := n0_; have HO155 := n1_; have HO158 := n2_; have HB := n3_; have BK159 := n4_; have GW159 := n5_; have GE159 := n6_; clear n0_ n1_ n2_ n3_ n4_ n5_ n6_; clear hb hbox hg; have hcz14_0 : w13.cell? ⟨gb159, 0, none⟩ = some (.int .i64 0) := (blk_cell BK159.out 0).trans rfl; have hcz14_1 : w13.cell? ⟨gb159, 1, none⟩ = some (.string (⟨#[]⟩ : ByteArray)) := (blk_cell BK159.out 1).trans rfl; have hcz14_2 : w13.cell? ⟨gb159, 2, none⟩ = some (.string (⟨#[]⟩ : ByteArray)) := (blk_cell BK159.out 2).trans rfl; have hcz14_3 : w13.cell? ⟨gb159, 3, none⟩ = some (.slice none 0 0) := (blk_cell BK159.out 3).trans rfl; have hcz14_4 : w13.cell? ⟨gb159, 4, none⟩ = some (.slice none 0 0) := (blk_cell BK159.out 4).trans rfl; have hfz14_0 := blk_frozen BK159.out 0; have hfz14_1 := blk_frozen BK159.out 1; have hfz14_2 := blk_frozen BK159.out 2; have hfz14_3 := blk_frozen BK159.out 3; have hfz14_4 := blk_frozen BK159.out 4; obtain ⟨Ao15, co15, eo15⟩ := Kd.R_slice HO155.out; subst eo15; obtain ⟨Ao16, co16, eo16⟩ := Kd.V_slice HO158.out; subst eo16) | ((with_reducible refine gate_callee (f := 21) rfl ?_); refine goesL_ (some 6) rfl rfl Tryd.func21 (by kernel_rfl) rfl #[.agg #[.int .i64 t150, .string t151, .string t152, .slice Ao15 t153.length co15, .slice Ao16 t156.length co16]] rfl (by (try simp only [List.map_toArray, List.map_cons, List.map_nil]); first | done | rfl | (simp only [List.length_drop, List.length_take]; rfl)) ?_; (with_reducible refine (impl_NameOf.calls k t150 t151 t152 _ _ t153 _ _ t156 t160 _ ?side1 ?side2 ?side3 ?side4 A3.out).mono ?_); (case side1 => refine (Kd.R_reads' (e := 31) (base := w.heap.size) (ok := fun k_ => True) (n := t153.length) (c := co15) ?_).2.2; exact (by (with_reducible repeat (first | apply Kd.R_alloc | apply Kd.R_drewN | apply Kd.R_drew)); exact (Kd.R_mono (Kd.R_far (p := ⟨gb159, 4, none⟩) (Kd.R_far (p := ⟨gb159, 3, none⟩) (Kd.R_far (p := ⟨gb159, 2, none⟩) (Kd.R_far (p := ⟨gb159, 1, none⟩) (Kd.R_far (p := ⟨gb159, 0, none⟩) (Kd.R_types HO155.out BK159.out (by decide)) (fun _ hk => hk.2) (.int .i64 t150)) (fun _ hk => hk.2) (.string t151)) (fun _ hk => hk.2) (.string t152)) (fun _ hk => hk.2) (.slice Ao15 t153.length co15)) (fun _ hk => hk.2) (.slice Ao16 t156.length co16)) (fun _ h_ => h_.1)))); (case side2 => exact (Kd.R_reads' HO155.out).2.1); (case side3 => refine (Kd.V_reads' (e := 25) (base := w.heap.size) (ok := fun k_ => (some k_ ≠ (.slice Ao15 t153.length co15 : Value).ownBlock ∧ k_ ≠ gb159)) (n := t156.length) (c := co16) ?_).2.2; exact (by (with_reducible repeat (first | apply Kd.V_alloc | apply Kd.V_drewN | apply Kd.V_drew)); exact (Kd.V_mono (Kd.V_far (p := ⟨gb159, 4, none⟩) (Kd.V_far (p := ⟨gb159, 3, none⟩) (Kd.V_far (p := ⟨gb159, 2, none⟩) (Kd.V_far (p := ⟨gb159, 1, none⟩) (Kd.V_far (p := ⟨gb159, 0, none⟩) (Kd.V_mono HO158.out (fun k_ hk => (⟨hk, hk.2⟩ : _ ∧ k_ ≠ gb159))) (fun _ hk => hk.2) (.int .i64 t150)) (fun _ hk => hk.2) (.string t151)) (fun _ hk => hk.2) (.string t152)) (fun _ hk => hk.2) (.slice Ao15 t153.length co15)) (fun _ hk => hk.2) (.slice Ao16 t156.length co16)) (fun _ h_ => h_.1)))); (case side4 => exact (Kd.V_reads' HO158.out).2.1); rintro e w17 ⟨rfl, hb⟩; refine ⟨_, rfl, ?_⟩; have n0_ := Aside0.mk (Kd.N_below (by (with_reducible repeat (first | apply Kd.N_alloc | apply Kd.N_drewN | apply Kd.N_drew)); exact (Kd.N_mono (Kd.N_far (p := ⟨gb159, 4, none⟩) (Kd.N_far (p := ⟨gb159, 3, none⟩) (Kd.N_far (p := ⟨gb159, 2, none⟩) (Kd.N_far (p := ⟨gb159, 1, none⟩) (Kd.N_far (p := ⟨gb159, 0, none⟩) (Kd.N_mono HO149.out (fun k_ hk => (⟨hk, hk.2⟩ : _ ∧ k_ ≠ gb159))) (fun _ hk => hk.2) (.int .i64 t150)) (fun _ hk => hk.2) (.string t151)) (fun _ hk => hk.2) (.string t152)) (fun _ hk => hk.2) (.slice Ao15 t153.length co15)) (fun _ hk => hk.2) (.slice Ao16 t156.length co16)) (fun _ h_ => h_.1))) hb); have n1_ := Aside0.mk (Kd.R_below (by (with_reducible repeat (first | apply Kd.R_alloc | apply Kd.R_drewN | apply Kd.R_drew)); exact (Kd.R_mono (Kd.R_far (p := ⟨gb159, 4, none⟩) (Kd.R_far (p := ⟨gb159, 3, none⟩) (Kd.R_far (p := ⟨gb159, 2, none⟩) (Kd.R_far (p := ⟨gb159, 1, none⟩) (Kd.R_far (p := ⟨gb159, 0, none⟩) (Kd.R_types HO155.out BK159.out (by decide)) (fun _ hk => hk.2) (.int .i64 t150)) (fun _ hk => hk.2) (.string t151)) (fun _ hk => hk.2) (.string t152)) (fun _ hk => hk.2) (.slice Ao15 t153.length co15)) (fun _ hk => hk.2) (.slice Ao16 t156.length co16)) (fun _ h_ => h_.1))) hb); have n2_ := Aside0.mk (Kd.V_below (by (with_reducible repeat (first | apply Kd.V_alloc | apply Kd.V_drewN | apply Kd.V_drew)); exact (Kd.V_mono (Kd.V_far (p := ⟨gb159, 4, none⟩) (Kd.V_far (p := ⟨gb159, 3, none⟩) (Kd.V_far (p := ⟨gb159, 2, none⟩) (Kd.V_far (p := ⟨gb159, 1, none⟩) (Kd.V_far (p := ⟨gb159, 0, none⟩) (Kd.V_mono HO158.out (fun k_ hk => (⟨hk, hk.2⟩ : _ ∧ k_ ≠ gb159))) (fun _ hk => hk.2) (.int .i64 t150)) (fun _ hk => hk.2) (.string t151)) (fun _ hk => hk.2) (.string t152)) (fun _ hk => hk.2) (.slice Ao15 t153.length co15)) (fun _ hk => hk.2) (.slice Ao16 t156.length co16)) (fun _ h_ => h_.1))) hb); have n3_ := Aside0.mk (blk_below (g := gb159) (o := .cells #[.int .i64 t150, .string t151, .string t152, .slice Ao15 t153.length co15, .slice Ao16 t156.length co16] 25 (0, 0)) (by (with_reducible repeat (first | refine blk_drewN ?_ _ | refine blk_drew ?_ | refine blk_alloc ?_ _)); refine blk_put (cs := #[.int .i64 t150, .string t151, .string t152, .slice Ao15 t153.length co15, .slice none 0 0]) ?_ 4 _ rfl; (with_reducible repeat (first | refine blk_drewN ?_ _ | refine blk_drew ?_ | refine blk_alloc ?_ _)); refine blk_put (cs := #[.int .i64 t150, .string t151, .string t152, .slice none 0 0, .slice none 0 0]) ?_ 3 _ rfl; (with_reducible repeat (first | refine blk_drewN ?_ _ | refine blk_drew ?_ | refine blk_alloc ?_ _)); refine blk_put (cs := #[.int .i64 t150, .string t151, .string (⟨#[]⟩ : ByteArray), .slice none 0 0, .slice none 0 0]) ?_ 2 _ rfl; (with_reducible repeat (first | refine blk_drewN ?_ _ | refine blk_drew ?_ | refine blk_alloc ?_ _)); refine blk_put (cs := #[.int .i64 t150, .string (⟨#[]⟩ : ByteArray), .string (⟨#[]⟩ : ByteArray), .slice none 0 0, .slice none 0 0]) ?_ 1 _ rfl; (with_reducible repeat (first | refine blk_drewN ?_ _ | refine blk_drew ?_ | refine blk_alloc ?_ _)); refine blk_put (cs := #[.int .i64 0, .string (⟨#[]⟩ : ByteArray), .string (⟨#[]⟩ : ByteArray), .slice none 0 0, .slice none 0 0]) ?_ 0 _ rfl; (with_reducible repeat (first | refine blk_drewN ?_ _ | refine blk_drew ?_ | refine blk_alloc ?_ _)); exact BK159.out) hb); have n4_ := Aside0.mk (below_step (by repeat (first | (with_reducible first | exact HB.out | apply below_alloc | apply pw_below_drewN | apply below_drew1 | refine below_set ?_ GE159.out) | exact HB.out)) hb); clear HO149; clear HO155; clear HO158; clear BK159; clear HB; have HO149 := n0_; have HO155 := n1_; have HO158 := n2_; have BK159 := n3_; have HB := n4_; clear n0_ n1_ n2_ n3_ n4_; (try clear hb); (try clear hb2); (try clear hk); (try clear hi); have hcz18_0 : w17.cell? ⟨gb159, 0, none⟩ = some (.int .i64 t150) := (blk_cell BK159.out 0).trans rfl; have hcz18_1 : w17.cell? ⟨gb159, 1, none⟩ = some (.string t151) := (blk_cell BK159.out 1).trans rfl; have hcz18_2 : w17.cell? ⟨gb159, 2, none⟩ = some (.string t152) := (blk_cell BK159.out 2).trans rfl; have hcz18_3 : w17.cell? ⟨gb159, 3, none⟩ = some (.slice Ao15 t153.length co15) := (blk_cell BK159.out 3).trans rfl; have hcz18_4 : w17.cell? ⟨gb159, 4, none⟩ = some (.slice Ao16 t156.length co16) := (blk_cell BK159.out 4).trans rfl; have hfz18_0 := blk_frozen BK159.out 0; have hfz18_1 := blk_frozen BK159.out 1; have hfz18_2 := blk_frozen BK159.out 2; have hfz18_3 := blk_frozen BK159.out 3; have hfz18_4 := blk_frozen BK159.out 4) | (go_at_call 22; (with_reducible refine (impl_AllNodes.calls k t150 t151 t152 _ _ t153 _ _ t156 t161 _ ?side1 ?side2 ?side3 ?side4 A5.out).mono ?_); (case side1 => repeat (first | exact (Kd.R_reads' HO155.out).2.2 | (with_reducible refine Kd.C_alloc ?_ _) | (with_reducible refine Kd.C_drewN ?_ _) | (with_reducible refine Kd.C_drew ?_))); (case side2 => exact (Kd.R_reads' HO155.out).2.1); (case side3 => repeat (first | exact (Kd.V_reads' HO158.out).2.2 | (with_reducible refine Kd.C_alloc ?_ _) | (with_reducible refine Kd.C_drewN ?_ _) | (with_reducible refine Kd.C_drew ?_))); (case side4 => exact (Kd.V_reads' HO158.out).2.1); rintro e w19 ⟨v162, rfl, ho0, hb⟩; have n0_ := Aside0.mk (Kd.N_elder' (by (with_reducible repeat (first | apply Kd.N_alloc | apply Kd.N_drewN | apply Kd.N_drew)); exact HO149.out) (Kd.N_base ho0) hb); have n1_ := Aside0.mk (Kd.R_below (by (with_reducible repeat (first | apply Kd.R_alloc | apply Kd.R_drewN | apply Kd.R_drew)); exact HO155.out) hb); have n2_ := Aside0.mk (Kd.V_elder' (by (with_reducible repeat (first | apply Kd.V_alloc | apply Kd.V_drewN | apply Kd.V_drew)); exact HO158.out) (Kd.N_base ho0) hb); have n3_ := Aside0.mk (Kd.N_lower (Kd.N_mono (ok' := fun k_ => some k_ ≠ (.slice Ao11 y147.length co11 : Value).ownBlock ∧ some k_ ≠ (.slice Ao15 t153.length co15 : Value).ownBlock ∧ k_ ≠ gb159) ho0 (fun k_ hk_ => ⟨(Kd.fresh' (Kd.N_lt (by (with_reducible repeat (first | apply Kd.N_alloc | apply Kd.N_drewN | apply Kd.N_drew)); exact HO149.out)) k_ hk_), (Kd.fresh' (Kd.R_lt (by (with_reducible repeat (first | apply Kd.R_alloc | apply Kd.R_drewN | apply Kd.R_drew)); exact HO155.out)) k_ hk_), (Kd.freshB (g := gb159) (o := .cells #[.int .i64 t150, .string t151, .string t152, .slice Ao15 t153.length co15, .slice Ao16 t156.length co16] 25 (0, 0)) (by (with_reducible repeat (first | refine blk_drewN ?_ _ | refine blk_drew ?_ | refine blk_alloc ?_ _)); exact BK159.out) k_ hk_)⟩)) (below_size (by repeat (first | (with_reducible first | exact HB.out | apply below_alloc | apply pw_below_drewN | apply below_drew1 | refine below_set ?_ GE159.out) | exact HB.out)))); have n4_ := Aside0.mk (blk_below (g := gb159) (o := .cells #[.int .i64 t150, .string t151, .string t152, .slice Ao15 t153.length co15, .slice Ao16 t156.length co16] 25 (0, 0)) (by (with_reducible repeat (first | refine blk_drewN ?_ _ | refine blk_drew ?_ | refine blk_alloc ?_ _)); exact BK159.out) hb); have n5_ := Aside0.mk (below_step (by repeat (first | (with_reducible first | exact HB.out | apply below_alloc | apply pw_below_drewN | apply below_drew1 | refine below_set ?_ GE159.out) | exact HB.out)) hb); clear HO149; clear HO155; clear HO158; clear BK159; clear HB; have HO149 := n0_; have HO155 := n1_; have HO158 := n2_; have HO163 := n3_; have BK159 := n4_; have HB := n5_; clear n0_ n1_ n2_ n3_ n4_ n5_; (try clear hb); (try clear hb2); (try clear hk); (try clear hi); (try clear ho0); obtain ⟨Ao20, co20, eo20⟩ := Kd.N_slice HO163.out; subst eo20))
    go_ret
    exact ⟨by first | rfl | (simp [errW_none, errW_some] <;> rfl) | (simp [*, errW_none, errW_some] <;> rfl), by repeat (first | (with_reducible first | exact HB.out | apply below_alloc | apply pw_below_drewN | apply below_drew1 | refine below_set ?_ GE159.out) | exact HB.out)⟩
  · rw [if_neg c4] at H
    have c4b0 : (t160.toList == ([112] : List UInt8)) = false := beq_eq_false_iff_ne.mpr c4
    have c4b1 : (t160.toList != ([112] : List UInt8)) = true := bne_iff_ne.mpr c4
    obtain rfl := Option.some.inj H
    go_enter Tryd.func9, Tryd.ntmps9
    go_wp2_with (first | ((with_reducible refine gate_callee (f := 20) rfl ?_); refine goesL_ (some 2) rfl rfl Tryd.func20 (by kernel_rfl) rfl #[.string (⟨#[97]⟩ : ByteArray)] rfl (by (try simp only [List.map_toArray, List.map_cons, List.map_nil]); first | done | rfl | (simp only [List.length_drop, List.length_take]; rfl)) ?_; (with_reducible refine (laws_text29.calls (⟨#[97]⟩ : ByteArray) t138 t139 t140 t141 t144 _ A1.out).mono ?_); rintro e w21 ⟨v142, v145, rfl, ho0, ho1, hb⟩; refine ⟨_, rfl, ?_⟩; have n0_ := Aside0.mk (Kd.R_lower ho0 (below_size (by repeat (first | (with_reducible first | exact HB.out | apply below_alloc | apply pw_below_drewN | apply below_drew1) | exact HB.out)))); have n1_ := Aside0.mk (Kd.N_lower (Kd.N_mono (ok' := fun k_ => some k_ ≠ (v142 : Value).ownBlock) (Kd.R_N (Kd.R_bound ho1)) (fun k_ hk_ => hk_.1)) (below_size (by repeat (first | (with_reducible first | exact HB.out | apply below_alloc | apply pw_below_drewN | apply below_drew1) | exact HB.out)))); have n2_ := Aside0.mk (below_step (by repeat (first | (with_reducible first | exact HB.out | apply below_alloc | apply pw_below_drewN | apply below_drew1) | exact HB.out)) hb); clear HB; have HO143 := n0_; have HO146 := n1_; have HB := n2_; clear n0_ n1_ n2_; (try clear hb); (try clear hb2); (try clear hk); (try clear hi); (try clear ho0); (try clear ho1); obtain ⟨Ao22, co22, eo22⟩ := Kd.R_slice HO143.out; subst eo22; obtain ⟨Ao23, co23, eo23⟩ := Kd.N_slice HO146.out; subst eo23) | ((with_reducible refine gate_dst (N := 3) rfl ?_); (try (refine gate_guard (by rfl) ?_; dsimp only)); refine Kd.N_lit k25 _ 25 ?hg (N' := 3) ?hd (xs := ([(⟨t138, t139, t140, t141, t144⟩ : S25)] : List (S25))) (inner := [.int .i64 t138, .string t139, .string t140, .slice Ao22 t141.length co22, .slice Ao23 t144.length co23]) (ok := (fun _ => True)) (okp := (fun _ => True)) ?hr ?hp (fun _ hk => hk) ((show ∀ k_, w21.heap.size ≤ k_ → (fun _ => True) k_ from fun k_ hk => trivial) _ (Nat.le_refl _)) (Below.refl _ _) (Nat.le_refl _) (by simp) ?_; (case hd => rfl); (case hg => rfl); (case hr => first | (go_simp; done) | (go_simp; rfl)); (case hp => exact (Reps.c5 (show Kd.FK k25 _ _ (⟨t138, t139, t140, t141, t144⟩ : S25) [.int .i64 t138, .string t139, .string t140, .slice Ao22 t141.length co22, .slice Ao23 t144.length co23] from (k25_mkF _ _ (⟨t138, t139, t140, t141, t144⟩ : S25) (Kd.R_reads' (Kd.R_mono (ok' := (fun _ => True)) (HO143.out) (fun k_ hk => trivial))).2.1 (Kd.R_F (Kd.R_mono (ok' := (fun _ => True)) (HO143.out) (fun k_ hk => trivial))) (Kd.N_reads' (Kd.N_mono (ok' := (fun _ => True)) (HO146.out) (fun k_ hk => trivial))).2.1 (Kd.N_F (Kd.N_mono (ok' := (fun _ => True)) (HO146.out) (fun k_ hk => trivial))))) (Reps.none _ _))); intro v148 w24 ho25 hb hg_ hnew_; clear hg_ hnew_; (first | rw [← Ny147.out] at ho25 | (simp only [Int.reduceToNat] at ho25; rw [← Ny147.out] at ho25)); have n0_ := Aside0.mk (Kd.N_lower ho25 (below_size (by repeat (first | (with_reducible first | exact HB.out | apply below_alloc | apply pw_below_drewN | apply below_drew1) | exact HB.out)))); have n1_ := Aside0.mk (below_step (by repeat (first | (with_reducible first | exact HB.out | apply below_alloc | apply pw_below_drewN | apply below_drew1) | exact HB.out)) hb); clear HB; clear HO143; clear HO146; have HO149 := n0_; have HB := n1_; clear n0_ n1_; clear hb ho25; obtain ⟨Ao26, co26, eo26⟩ := Kd.N_slice HO149.out; subst eo26) | ((with_reducible refine gate_callee (f := 19) rfl ?_); refine goesL_ (some 4) rfl rfl Tryd.func19 (by kernel_rfl) rfl #[.string (⟨#[112]⟩ : ByteArray), .slice Ao26 y147.length co26] rfl (by (try simp only [List.map_toArray, List.map_cons, List.map_nil]); first | done | rfl | (simp only [List.length_drop, List.length_take]; rfl)) ?_; (with_reducible refine (laws_tag29.calls (⟨#[112]⟩ : ByteArray) (fun k_ => True) _ _ y147 t150 t151 t152 t153 t156 _ ?side1 A2.out).mono ?_); (case side1 => exact Kd.N_V (HO149.out)); rintro e w27 ⟨v154, v157, rfl, ho0, ho1, hb⟩; refine ⟨_, rfl, ?_⟩; have n0_ := Aside0.mk (Kd.N_elder' (by (with_reducible repeat (first | apply Kd.N_alloc | apply Kd.N_drewN | apply Kd.N_drew)); exact HO149.out) (Kd.R_base ho0) hb); have n1_ := Aside0.mk (Kd.R_lower (Kd.R_mono (ok' := fun k_ => True) ho0 (fun _ hk_ => trivial)) (below_size (by repeat (first | (with_reducible first | exact HB.out | apply below_alloc | apply pw_below_drewN | apply below_drew1) | exact HB.out)))); have n2_ := Aside0.mk (Kd.V_lower (Kd.V_mono (ok' := fun k_ => some k_ ≠ (v154 : Value).ownBlock) ho1 (fun k_ hk_ => hk_.2)) (below_size (by repeat (first | (with_reducible first | exact HB.out | apply below_alloc | apply pw_below_drewN | apply below_drew1) | exact HB.out)))); have n3_ := Aside0.mk (below_step (by repeat (first | (with_reducible first | exact HB.out | apply below_alloc | apply pw_below_drewN | apply below_drew1) | exact HB.out)) hb); clear HO149; clear HB; have HO149 := n0_; have HO155 := n1_; have HO158 := n2_; have HB := n3_; clear n0_ n1_ n2_ n3_; (try clear hb); (try clear hb2); (try clear hk); (try clear hi); (try clear ho0); (try clear ho1)) | ((with_reducible refine gate_dst (N := 1) rfl ?_); (try (refine gate_guard (by rfl) ?_; dsimp only)); refine box_event ?hg (N := 1) ?hd (cs := #[.int .i64 0, .string (⟨#[]⟩ : ByteArray), .string (⟨#[]⟩ : ByteArray), .slice none 0 0, .slice none 0 0]) (t := 25) ?hr ?_; (case hd => rfl); (case hg => rfl); (case hr => first | (go_simp; done) | (go_simp; rfl)); intro gb159 hg w28 hbox hb; have n0_ := Aside0.mk (Kd.N_below (Kd.N_elderB (by (with_reducible repeat (first | apply Kd.N_alloc | apply Kd.N_drewN | apply Kd.N_drew)); exact HO149.out) gb159 (Nat.le_of_eq hg.symm)) hb); have n1_ := Aside0.mk (Kd.R_below (by (with_reducible repeat (first | apply Kd.R_alloc | apply Kd.R_drewN | apply Kd.R_drew)); exact HO155.out) hb); have n2_ := Aside0.mk (Kd.V_below (Kd.V_elderB (by (with_reducible repeat (first | apply Kd.V_alloc | apply Kd.V_drewN | apply Kd.V_drew)); exact HO158.out) gb159 (Nat.le_of_eq hg.symm)) hb); have n3_ := Aside0.mk (below_step (by repeat (first | (with_reducible first | exact HB.out | apply below_alloc | apply pw_below_drewN | apply below_drew1) | exact HB.out)) hb); have n4_ := Aside0.mk (hbox); have n5_ := Aside0.mk ((by rw [hg]; exact (below_size (by repeat (first | (with_reducible first | exact HB.out | apply below_alloc | apply pw_below_drewN | apply below_drew1) | exact HB.out))) : w.heap.size ≤ gb159)); have n6_ := Aside0.mk ((by rw [hg]; exact (below_size (by repeat (first | (with_reducible first | exact HB.out | apply below_alloc | apply pw_below_drewN | apply below_drew1) | exact HB.out))) : w.heap.size ≤ gb159)); clear HO149; clear HO155; clear HO158; clear HB; have HO149 := n0_; have HO155 := n1_; have HO158 := n2_; have HB := n3_; have BK159 := n4_; have GW159 := n5_; have GE159 := n6_; clear n0_ n1_ n2_ n3_ n4_ n5_ n6_; clear hb hbox hg; have hcz29_0 : w28.cell? ⟨gb159, 0, none⟩ = some (.int .i64 0) := (blk_cell BK159.out 0).trans rfl; have hcz29_1 : w28.cell? ⟨gb159, 1, none⟩ = some (.string (⟨#[]⟩ : ByteArray)) := (blk_cell BK159.out 1).trans rfl; have hcz29_2 : w28.cell? ⟨gb159, 2, none⟩ = some (.string (⟨#[]⟩ : ByteArray)) := (blk_cell BK159.out 2).trans rfl; have hcz29_3 : w28.cell? ⟨gb159, 3, none⟩ = some (.slice none 0 0) := (blk_cell BK159.out 3).trans rfl; have hcz29_4 : w28.cell? ⟨gb159, 4, none⟩ = some (.slice none 0 0) := (blk_cell BK159.out 4).trans rfl; have hfz29_0 := blk_frozen BK159.out 0; have hfz29_1 := blk_frozen BK159.out 1; have hfz29_2 := blk_frozen BK159.out 2; have hfz29_3 := blk_frozen BK159.out 3; have hfz29_4 := blk_frozen BK159.out 4; obtain ⟨Ao30, co30, eo30⟩ := Kd.R_slice HO155.out; subst eo30; obtain ⟨Ao31, co31, eo31⟩ := Kd.V_slice HO158.out; subst eo31) | ((with_reducible refine gate_callee (f := 21) rfl ?_); refine goesL_ (some 6) rfl rfl Tryd.func21 (by kernel_rfl) rfl #[.agg #[.int .i64 t150, .string t151, .string t152, .slice Ao30 t153.length co30, .slice Ao31 t156.length co31]] rfl (by (try simp only [List.map_toArray, List.map_cons, List.map_nil]); first | done | rfl | (simp only [List.length_drop, List.length_take]; rfl)) ?_; (with_reducible refine (impl_NameOf.calls k t150 t151 t152 _ _ t153 _ _ t156 t160 _ ?side1 ?side2 ?side3 ?side4 A3.out).mono ?_); (case side1 => refine (Kd.R_reads' (e := 31) (base := w.heap.size) (ok := fun k_ => True) (n := t153.length) (c := co30) ?_).2.2; exact (by (with_reducible repeat (first | apply Kd.R_alloc | apply Kd.R_drewN | apply Kd.R_drew)); exact (Kd.R_mono (Kd.R_far (p := ⟨gb159, 4, none⟩) (Kd.R_far (p := ⟨gb159, 3, none⟩) (Kd.R_far (p := ⟨gb159, 2, none⟩) (Kd.R_far (p := ⟨gb159, 1, none⟩) (Kd.R_far (p := ⟨gb159, 0, none⟩) (Kd.R_types HO155.out BK159.out (by decide)) (fun _ hk => hk.2) (.int .i64 t150)) (fun _ hk => hk.2) (.string t151)) (fun _ hk => hk.2) (.string t152)) (fun _ hk => hk.2) (.slice Ao30 t153.length co30)) (fun _ hk => hk.2) (.slice Ao31 t156.length co31)) (fun _ h_ => h_.1)))); (case side2 => exact (Kd.R_reads' HO155.out).2.1); (case side3 => refine (Kd.V_reads' (e := 25) (base := w.heap.size) (ok := fun k_ => (some k_ ≠ (.slice Ao30 t153.length co30 : Value).ownBlock ∧ k_ ≠ gb159)) (n := t156.length) (c := co31) ?_).2.2; exact (by (with_reducible repeat (first | apply Kd.V_alloc | apply Kd.V_drewN | apply Kd.V_drew)); exact (Kd.V_mono (Kd.V_far (p := ⟨gb159, 4, none⟩) (Kd.V_far (p := ⟨gb159, 3, none⟩) (Kd.V_far (p := ⟨gb159, 2, none⟩) (Kd.V_far (p := ⟨gb159, 1, none⟩) (Kd.V_far (p := ⟨gb159, 0, none⟩) (Kd.V_mono HO158.out (fun k_ hk => (⟨hk, hk.2⟩ : _ ∧ k_ ≠ gb159))) (fun _ hk => hk.2) (.int .i64 t150)) (fun _ hk => hk.2) (.string t151)) (fun _ hk => hk.2) (.string t152)) (fun _ hk => hk.2) (.slice Ao30 t153.length co30)) (fun _ hk => hk.2) (.slice Ao31 t156.length co31)) (fun _ h_ => h_.1)))); (case side4 => exact (Kd.V_reads' HO158.out).2.1); rintro e w32 ⟨rfl, hb⟩; refine ⟨_, rfl, ?_⟩; have n0_ := Aside0.mk (Kd.N_below (by (with_reducible repeat (first | apply Kd.N_alloc | apply Kd.N_drewN | apply Kd.N_drew)); exact (Kd.N_mono (Kd.N_far (p := ⟨gb159, 4, none⟩) (Kd.N_far (p := ⟨gb159, 3, none⟩) (Kd.N_far (p := ⟨gb159, 2, none⟩) (Kd.N_far (p := ⟨gb159, 1, none⟩) (Kd.N_far (p := ⟨gb159, 0, none⟩) (Kd.N_mono HO149.out (fun k_ hk => (⟨hk, hk.2⟩ : _ ∧ k_ ≠ gb159))) (fun _ hk => hk.2) (.int .i64 t150)) (fun _ hk => hk.2) (.string t151)) (fun _ hk => hk.2) (.string t152)) (fun _ hk => hk.2) (.slice Ao30 t153.length co30)) (fun _ hk => hk.2) (.slice Ao31 t156.length co31)) (fun _ h_ => h_.1))) hb); have n1_ := Aside0.mk (Kd.R_below (by (with_reducible repeat (first | apply Kd.R_alloc | apply Kd.R_drewN | apply Kd.R_drew)); exact (Kd.R_mono (Kd.R_far (p := ⟨gb159, 4, none⟩) (Kd.R_far (p := ⟨gb159, 3, none⟩) (Kd.R_far (p := ⟨gb159, 2, none⟩) (Kd.R_far (p := ⟨gb159, 1, none⟩) (Kd.R_far (p := ⟨gb159, 0, none⟩) (Kd.R_types HO155.out BK159.out (by decide)) (fun _ hk => hk.2) (.int .i64 t150)) (fun _ hk => hk.2) (.string t151)) (fun _ hk => hk.2) (.string t152)) (fun _ hk => hk.2) (.slice Ao30 t153.length co30)) (fun _ hk => hk.2) (.slice Ao31 t156.length co31)) (fun _ h_ => h_.1))) hb); have n2_ := Aside0.mk (Kd.V_below (by (with_reducible repeat (first | apply Kd.V_alloc | apply Kd.V_drewN | apply Kd.V_drew)); exact (Kd.V_mono (Kd.V_far (p := ⟨gb159, 4, none⟩) (Kd.V_far (p := ⟨gb159, 3, none⟩) (Kd.V_far (p := ⟨gb159, 2, none⟩) (Kd.V_far (p := ⟨gb159, 1, none⟩) (Kd.V_far (p := ⟨gb159, 0, none⟩) (Kd.V_mono HO158.out (fun k_ hk => (⟨hk, hk.2⟩ : _ ∧ k_ ≠ gb159))) (fun _ hk => hk.2) (.int .i64 t150)) (fun _ hk => hk.2) (.string t151)) (fun _ hk => hk.2) (.string t152)) (fun _ hk => hk.2) (.slice Ao30 t153.length co30)) (fun _ hk => hk.2) (.slice Ao31 t156.length co31)) (fun _ h_ => h_.1))) hb); have n3_ := Aside0.mk (blk_below (g := gb159) (o := .cells #[.int .i64 t150, .string t151, .string t152, .slice Ao30 t153.length co30, .slice Ao31 t156.length co31] 25 (0, 0)) (by (with_reducible repeat (first | refine blk_drewN ?_ _ | refine blk_drew ?_ | refine blk_alloc ?_ _)); refine blk_put (cs := #[.int .i64 t150, .string t151, .string t152, .slice Ao30 t153.length co30, .slice none 0 0]) ?_ 4 _ rfl; (with_reducible repeat (first | refine blk_drewN ?_ _ | refine blk_drew ?_ | refine blk_alloc ?_ _)); refine blk_put (cs := #[.int .i64 t150, .string t151, .string t152, .slice none 0 0, .slice none 0 0]) ?_ 3 _ rfl; (with_reducible repeat (first | refine blk_drewN ?_ _ | refine blk_drew ?_ | refine blk_alloc ?_ _)); refine blk_put (cs := #[.int .i64 t150, .string t151, .string (⟨#[]⟩ : ByteArray), .slice none 0 0, .slice none 0 0]) ?_ 2 _ rfl; (with_reducible repeat (first | refine blk_drewN ?_ _ | refine blk_drew ?_ | refine blk_alloc ?_ _)); refine blk_put (cs := #[.int .i64 t150, .string (⟨#[]⟩ : ByteArray), .string (⟨#[]⟩ : ByteArray), .slice none 0 0, .slice none 0 0]) ?_ 1 _ rfl; (with_reducible repeat (first | refine blk_drewN ?_ _ | refine blk_drew ?_ | refine blk_alloc ?_ _)); refine blk_put (cs := #[.int .i64 0, .string (⟨#[]⟩ : ByteArray), .string (⟨#[]⟩ : ByteArray), .slice none 0 0, .slice none 0 0]) ?_ 0 _ rfl; (with_reducible repeat (first | refine blk_drewN ?_ _ | refine blk_drew ?_ | refine blk_alloc ?_ _)); exact BK159.out) hb); have n4_ := Aside0.mk (below_step (by repeat (first | (with_reducible first | exact HB.out | apply below_alloc | apply pw_below_drewN | apply below_drew1 | refine below_set ?_ GE159.out) | exact HB.out)) hb); clear HO149; clear HO155; clear HO158; clear BK159; clear HB; have HO149 := n0_; have HO155 := n1_; have HO158 := n2_; have BK159 := n3_; have HB := n4_; clear n0_ n1_ n2_ n3_ n4_; (try clear hb); (try clear hb2); (try clear hk); (try clear hi)))
    go_ret
    exact ⟨by first | rfl | (simp [errW_none, errW_some] <;> rfl) | (simp [*, errW_none, errW_some] <;> rfl), by repeat (first | (with_reducible first | exact HB.out | apply below_alloc | apply pw_below_drewN | apply below_drew1 | refine below_set ?_ GE159.out) | exact HB.out)⟩
/-! ### laws_FnDomText: function 3 -/
def laws_FnDomText.f (k : Nat) (a0_0 : Int) (a0_1 : ByteArray) (a0_2 : ByteArray) (l0_3 : List (S31)) (l0_4 : List (S25)) : Option (Bool) := (laws_zzFits2.f k a0_0 a0_1 a0_2 l0_3 l0_4).bind fun t165 => (if t165 = true then ((laws_tree29.f k a0_0 a0_1 a0_2 l0_3 l0_4).bind fun t166 => (if t166 = true then ((impl_TextOf.f k a0_0 a0_1 a0_2 l0_3 l0_4).bind fun t167 => ((spec_Text29.f k a0_0 a0_1 a0_2 l0_3 l0_4).bind fun t168 => (if t167.toList = t168.toList then ((laws_living29.f k).bind fun t169 => (some t169)) else (some false)))) else (some true))) else (some true))
theorem laws_FnDomText.mono : ∀ a0 a1 a2 a3 a4 k, LeO (laws_FnDomText.f k a0 a1 a2 a3 a4) (laws_FnDomText.f (k + 1) a0 a1 a2 a3 a4) := by
  intro a0 a1 a2 a3 a4 k
  unfold laws_FnDomText.f
  repeat' first
      | (with_reducible exact impl_TextOf.mono _ _ _ _ _ _)
      | (with_reducible exact laws_living29.mono _)
      | (with_reducible exact laws_tree29.mono _ _ _ _ _ _)
      | (with_reducible exact laws_zzFits2.mono _ _ _ _ _ _)
      | (with_reducible exact spec_Text29.mono _ _ _ _ _ _)
      | (with_reducible exact LeO.refl _)
      | (with_reducible exact LeO.none _)
      | (with_reducible refine LeO.ite ?_ ?_)
      | (with_reducible refine LeO.bind ?_ (fun _ => ?_))
      | exact impl_TextOf.mono _ _ _ _ _ _
      | exact laws_living29.mono _
      | exact laws_tree29.mono _ _ _ _ _ _
      | exact laws_zzFits2.mono _ _ _ _ _ _
      | exact spec_Text29.mono _ _ _ _ _ _
      | exact LeO.none _
      | refine LeO.ite ?_ ?_
      | refine LeO.bind ?_ (fun _ => ?_)
def laws_FnDomText.T3 : Bool × List (List Nat × List Nat) := (true, [([], []), ([0], [0]), ([1], [1]), ([2, 1], [2]), ([3], [3]), ([4, 3, 3], [3, 4]), ([3], [3]), ([6, 5, 3], [3, 6]), ([5, 7, 3], [3, 5, 7]), ([8, 7, 3], [3, 8]), ([9, 9], [9]), ([9, 10, 3], [3, 9, 10]), ([3, 11], [3, 11]), ([12, 10, 0, 1, 2, 3, 4, 5, 6, 7, 8, 9, 10, 11, 12], [12])])
def laws_FnDomText.B3 : List Nat := [0, 1, 3, 7, 15, 31, 15, 127, 255, 511, 1023, 2047, 4095, 8191]
theorem laws_FnDomText.tab3 : rtab .any (opsOf Tryd.f3 3) = laws_FnDomText.T3 := by kernel_rfl
theorem laws_FnDomText.bits3 : waitsOk laws_FnDomText.T3.2 laws_FnDomText.B3 = true := by kernel_rfl
set_option maxHeartbeats 8000000 in
set_option maxRecDepth 100000 in
theorem laws_FnDomText.calls (k : Nat) (a0_0 : Int) (a0_1 : ByteArray) (a0_2 : ByteArray) (A0_3 : Option Addr) (c0_3 : Nat) (l0_3 : List (S31)) (A0_4 : Option Addr) (c0_4 : Nat) (l0_4 : List (S25)) (r : Bool) (w : World) (hr0_3 : Kd.C k31 w A0_3 l0_3.length l0_3) (hc0_3 : l0_3.length ≤ c0_3) (hr0_4 : Kd.C k25 w A0_4 l0_4.length l0_4) (hc0_4 : l0_4.length ≤ c0_4) (h : laws_FnDomText.f k a0_0 a0_1 a0_2 l0_3 l0_4 = some r) :
    Calls Tryd.prog 3 #[.agg #[.int .i64 a0_0, .string a0_1, .string a0_2, .slice A0_3 l0_3.length c0_3, .slice A0_4 l0_4.length c0_4]] w fun e w' => e = .returned (.bool r) ∧ Below w.heap.size w w' := by
  have hu25 := Tryd.underlying25
  have HR0_3 := Aside0.mk hr0_3
  have HC0_3 := Aside0.mk hc0_3
  clear hr0_3 hc0_3
  have HR0_4 := Aside0.mk hr0_4
  have HC0_4 := Aside0.mk hc0_4
  clear hr0_4 hc0_4
  have HB := Aside0.mk (Below.refl w.heap.size w)
  have H : ((laws_zzFits2.f k a0_0 a0_1 a0_2 l0_3 l0_4).bind fun t165 => (if t165 = true then ((laws_tree29.f k a0_0 a0_1 a0_2 l0_3 l0_4).bind fun t166 => (if t166 = true then ((impl_TextOf.f k a0_0 a0_1 a0_2 l0_3 l0_4).bind fun t167 => ((spec_Text29.f k a0_0 a0_1 a0_2 l0_3 l0_4).bind fun t168 => (if t167.toList = t168.toList then ((laws_living29.f k).bind fun t169 => (some t169)) else (some false)))) else (some true))) else (some true))) = some r := h
  clear h
  replace H := Option.bind_eq_some_iff.mp H
  obtain ⟨t165, A20, H⟩ := H
  replace H : (if t165 = true then ((laws_tree29.f k a0_0 a0_1 a0_2 l0_3 l0_4).bind fun t166 => (if t166 = true then ((impl_TextOf.f k a0_0 a0_1 a0_2 l0_3 l0_4).bind fun t167 => ((spec_Text29.f k a0_0 a0_1 a0_2 l0_3 l0_4).bind fun t168 => (if t167.toList = t168.toList then ((laws_living29.f k).bind fun t169 => (some t169)) else (some false)))) else (some true))) else (some true)) = some r := H
  have A2 := Aside0.mk A20
  clear A20
  by_cases c3 : t165 = true
  · subst c3
    have H1 : ((laws_tree29.f k a0_0 a0_1 a0_2 l0_3 l0_4).bind fun t166 => (if t166 = true then ((impl_TextOf.f k a0_0 a0_1 a0_2 l0_3 l0_4).bind fun t167 => ((spec_Text29.f k a0_0 a0_1 a0_2 l0_3 l0_4).bind fun t168 => (if t167.toList = t168.toList then ((laws_living29.f k).bind fun t169 => (some t169)) else (some false)))) else (some true))) = some r := by rw [if_pos rfl] at H; exact H
    clear H
    have H := H1
    clear H1
    replace H := Option.bind_eq_some_iff.mp H
    obtain ⟨t166, A40, H⟩ := H
    replace H : (if t166 = true then ((impl_TextOf.f k a0_0 a0_1 a0_2 l0_3 l0_4).bind fun t167 => ((spec_Text29.f k a0_0 a0_1 a0_2 l0_3 l0_4).bind fun t168 => (if t167.toList = t168.toList then ((laws_living29.f k).bind fun t169 => (some t169)) else (some false)))) else (some true)) = some r := H
    have A4 := Aside0.mk A40
    clear A40
    by_cases c5 : t166 = true
    · subst c5
      have H1 : ((impl_TextOf.f k a0_0 a0_1 a0_2 l0_3 l0_4).bind fun t167 => ((spec_Text29.f k a0_0 a0_1 a0_2 l0_3 l0_4).bind fun t168 => (if t167.toList = t168.toList then ((laws_living29.f k).bind fun t169 => (some t169)) else (some false)))) = some r := by rw [if_pos rfl] at H; exact H
      clear H
      have H := H1
      clear H1
      replace H := Option.bind_eq_some_iff.mp H
      obtain ⟨t167, A60, H⟩ := H
      replace H : ((spec_Text29.f k a0_0 a0_1 a0_2 l0_3 l0_4).bind fun t168 => (if t167.toList = t168.toList then ((laws_living29.f k).bind fun t169 => (some t169)) else (some false))) = some r := H
      have A6 := Aside0.mk A60
      clear A60
      replace H := Option.bind_eq_some_iff.mp H
      obtain ⟨t168, A70, H⟩ := H
      replace H : (if t167.toList = t168.toList then ((laws_living29.f k).bind fun t169 => (some t169)) else (some false)) = some r := H
      have A7 := Aside0.mk A70
      clear A70
      by_cases c8 : t167.toList = t168.toList
      · rw [if_pos c8] at H
        have c8b0 : (t167.toList == t168.toList) = true := beq_iff_eq.mpr c8
        have c8b1 : (t167.toList != t168.toList) = false := bne_eq_false_iff_eq.mpr c8
        clear c8
        replace H := Option.bind_eq_some_iff.mp H
        obtain ⟨t169, A90, H⟩ := H
        replace H : (some t169) = some r := H
        have A9 := Aside0.mk A90
        clear A90
        obtain rfl := Option.some.inj H
        go_enter Tryd.func3, Tryd.ntmps3
        try go_wp2_with (first | ((with_reducible refine gate_dst (N := 1) rfl ?_); refine box_event ?hg (N := 1) ?hd (cs := #[.int .i64 a0_0, .string a0_1, .string a0_2, .slice A0_3 l0_3.length c0_3, .slice A0_4 l0_4.length c0_4]) (t := 25) ?hr ?_; (case hd => rfl); (case hg => rfl); (case hr => first | (go_simp; done) | (go_simp; rfl)); intro gb164 hg w10 hbox hb; have n0_ := Aside0.mk (below_step (by repeat (first | (with_reducible first | exact HB.out | apply below_alloc | apply pw_below_drewN | apply below_drew1) | exact HB.out)) hb); have n1_ := Aside0.mk (hbox); have n2_ := Aside0.mk ((by rw [hg]; exact (below_size (by repeat (first | (with_reducible first | exact HB.out | apply below_alloc | apply pw_below_drewN | apply below_drew1) | exact HB.out))) : w.heap.size ≤ gb164)); have n3_ := Aside0.mk ((by rw [hg]; exact (below_size (by repeat (first | (with_reducible first | exact HB.out | apply below_alloc | apply pw_below_drewN | apply below_drew1) | exact HB.out))) : w.heap.size ≤ gb164)); clear HB; have HB := n0_; have BK164 := n1_; have GW164 := n2_; have GE164 := n3_; clear n0_ n1_ n2_ n3_; clear hb hbox hg; have hcz11_0 : w10.cell? ⟨gb164, 0, none⟩ = some (.int .i64 a0_0) := (blk_cell BK164.out 0).trans rfl; have hcz11_1 : w10.cell? ⟨gb164, 1, none⟩ = some (.string a0_1) := (blk_cell BK164.out 1).trans rfl; have hcz11_2 : w10.cell? ⟨gb164, 2, none⟩ = some (.string a0_2) := (blk_cell BK164.out 2).trans rfl; have hcz11_3 : w10.cell? ⟨gb164, 3, none⟩ = some (.slice A0_3 l0_3.length c0_3) := (blk_cell BK164.out 3).trans rfl; have hcz11_4 : w10.cell? ⟨gb164, 4, none⟩ = some (.slice A0_4 l0_4.length c0_4) := (blk_cell BK164.out 4).trans rfl; have hfz11_0 := blk_frozen BK164.out 0; have hfz11_1 := blk_frozen BK164.out 1; have hfz11_2 := blk_frozen BK164.out 2; have hfz11_3 := blk_frozen BK164.out 3; have hfz11_4 := blk_frozen BK164.out 4) | ((with_reducible refine gate_callee (f := 5) rfl ?_); refine goesL_ (some 4) rfl rfl Tryd.func5 (by kernel_rfl) rfl #[.agg #[.int .i64 a0_0, .string a0_1, .string a0_2, .slice A0_3 l0_3.length c0_3, .slice A0_4 l0_4.length c0_4]] rfl (by (try simp only [List.map_toArray, List.map_cons, List.map_nil]); first | done | rfl | (simp only [List.length_drop, List.length_take]; rfl)) ?_; (with_reducible refine (laws_zzFits2.calls k a0_0 a0_1 a0_2 _ _ l0_3 _ _ l0_4 true _ ?side1 ?side2 ?side3 ?side4 A2.out).mono ?_); (case side1 => repeat (first | exact (Kd.C_below HR0_3.out HB.out) | (with_reducible refine Kd.C_alloc ?_ _) | (with_reducible refine Kd.C_drewN ?_ _) | (with_reducible refine Kd.C_drew ?_))); (case side2 => exact HC0_3.out); (case side3 => repeat (first | exact (Kd.C_below HR0_4.out HB.out) | (with_reducible refine Kd.C_alloc ?_ _) | (with_reducible refine Kd.C_drewN ?_ _) | (with_reducible refine Kd.C_drew ?_))); (case side4 => exact HC0_4.out); rintro e w12 ⟨rfl, hb⟩; refine ⟨_, rfl, ?_⟩; have n0_ := Aside0.mk (blk_below (g := gb164) (o := .cells #[.int .i64 a0_0, .string a0_1, .string a0_2, .slice A0_3 l0_3.length c0_3, .slice A0_4 l0_4.length c0_4] 25 (0, 0)) (by (with_reducible repeat (first | refine blk_drewN ?_ _ | refine blk_drew ?_ | refine blk_alloc ?_ _)); exact BK164.out) hb); have n1_ := Aside0.mk (below_step (by repeat (first | (with_reducible first | exact HB.out | apply below_alloc | apply pw_below_drewN | apply below_drew1 | refine below_set ?_ GE164.out) | exact HB.out)) hb); clear BK164; clear HB; have BK164 := n0_; have HB := n1_; clear n0_ n1_; (try clear hb); (try clear hb2); (try clear hk); (try clear hi)))
        have n0_ := Aside0.mk (blk_drew BK164.out)
        have n1_ := Aside0.mk (below_drew1 HB.out)
        clear BK164
        clear HB
        have BK164 := n0_
        have HB := n1_
        clear n0_ n1_
        refine start_ (n := 14) (S := fun w' => w'.cell? ⟨gb164, 0, none⟩ = some (.int .i64 a0_0) ∧ w'.cell? ⟨gb164, 1, none⟩ = some (.string a0_1) ∧ w'.cell? ⟨gb164, 2, none⟩ = some (.string a0_2) ∧ w'.cell? ⟨gb164, 3, none⟩ = some (.slice A0_3 l0_3.length c0_3) ∧ w'.cell? ⟨gb164, 4, none⟩ = some (.slice A0_4 l0_4.length c0_4)) (ds := []) #[false, false, false, false, false, false, false, false, false, false, false, false, false, false] (by kernel_rfl) rfl rfl ⟨(blk_cell BK164.out 0).trans rfl, (blk_cell BK164.out 1).trans rfl, (blk_cell BK164.out 2).trans rfl, (blk_cell BK164.out 3).trans rfl, (blk_cell BK164.out 4).trans rfl⟩ (fun hHeld => ?_); refine with_tabW laws_FnDomText.tab3 laws_FnDomText.bits3 (fun HT_ HW_ => ?_)
        generalize w12.drew = w13 at BK164 HB hHeld ⊢
        refine take_ (i := 0) (N := some 6) (v := ?_) (a' := ?_) #[true, false, false, false, false, false, false, false, false, false, false, false, false, false] rfl rfl (take_ofW HT_.out HW_.out (by kernel_rfl)) (fun _ _ _ h => h) (Or.inl ⟨by rfl, ?_⟩) hHeld ?_ ?_
        rotate_left
        · rintro w' ⟨s0, s1, s2, s3, s4⟩
          go_simp
          with_reducible rfl
        rotate_left
        · simp only [Act.put, List.setIfInBounds_toArray, List.set_cons_zero, List.set_cons_succ, i64_w, i32_w]
          rfl
        refine one_ (i := 1) (N := some 7) #[true, true, false, false, false, false, false, false, false, false, false, false, false, false] rfl rfl (one_of HT_.out (by kernel_rfl)) (by decide) (fun K hK => ?_)
        refine goes_ Tryd.func6 (by kernel_rfl) rfl #[.agg #[.int .i64 a0_0, .string a0_1, .string a0_2, .slice A0_3 l0_3.length c0_3, .slice A0_4 l0_4.length c0_4]] (by rfl) rfl rfl (by (try simp only [List.map_toArray, List.map_cons, List.map_nil]); first | done | rfl | (simp only [List.length_drop, List.length_take]; rfl)) ?_
        with_reducible refine (laws_tree29.calls k a0_0 a0_1 a0_2 _ _ l0_3 _ _ l0_4 true _ ?side1 ?side2 ?side3 ?side4 A4.out).mono ?_
        (case side1 => repeat (first | exact (Kd.C_below HR0_3.out HB.out) | (with_reducible refine Kd.C_alloc ?_ _) | (with_reducible refine Kd.C_drewN ?_ _) | (with_reducible refine Kd.C_drew ?_)))
        (case side2 => exact HC0_3.out)
        (case side3 => repeat (first | exact (Kd.C_below HR0_4.out HB.out) | (with_reducible refine Kd.C_alloc ?_ _) | (with_reducible refine Kd.C_drewN ?_ _) | (with_reducible refine Kd.C_drew ?_)))
        (case side4 => exact HC0_4.out)
        rintro e w14 ⟨rfl, hb⟩
        refine ⟨_, rfl, ?_⟩
        have n0_ := Aside0.mk (blk_below (g := gb164) (o := .cells #[.int .i64 a0_0, .string a0_1, .string a0_2, .slice A0_3 l0_3.length c0_3, .slice A0_4 l0_4.length c0_4] 25 (0, 0)) (by (with_reducible repeat (first | refine blk_drewN ?_ _ | refine blk_drew ?_ | refine blk_alloc ?_ _)); exact BK164.out) hb)
        have n1_ := Aside0.mk (below_step (by repeat (first | (with_reducible first | exact HB.out | apply below_alloc | apply pw_below_drewN | apply below_drew1 | refine below_set ?_ GE164.out) | exact HB.out)) hb)
        clear BK164
        clear HB
        have BK164 := n0_
        have HB := n1_
        clear n0_ n1_
        (try clear hb)
        (try clear hb2)
        (try clear hk)
        (try clear hi)
        refine hK.out _ _ ⟨(blk_cell BK164.out 0).trans rfl, (blk_cell BK164.out 1).trans rfl, (blk_cell BK164.out 2).trans rfl, (blk_cell BK164.out 3).trans rfl, (blk_cell BK164.out 4).trans rfl⟩ (fun hHeld => ?_)
        clear hK K
        refine norm_ (a' := ?_) ?_ ?_
        rotate_left
        · show Act.put _ (some 7) _ = _
          simp only [Act.put, List.setIfInBounds_toArray, List.set_cons_zero, List.set_cons_succ, i64_w, i32_w]
          rfl
        refine pure_ (i := 2) (N := some 8) (v := ?_) (a' := ?_) #[true, true, true, false, false, false, false, false, false, false, false, false, false, false] rfl rfl (any_of HT_.out (by kernel_rfl)) (fun _ _ _ h => h) (Or.inl ⟨by rfl, ?_⟩) ?_ ?_
        rotate_left
        · intro w'
          go_simp
          with_reducible rfl
        rotate_left
        · simp only [Act.put, List.setIfInBounds_toArray, List.set_cons_zero, List.set_cons_succ, i64_w, i32_w]
          rfl
        refine pure_ (i := 3) (N := some 9) (v := ?_) (a' := ?_) #[true, true, true, true, false, false, false, false, false, false, false, false, false, false] rfl rfl (any_of HT_.out (by kernel_rfl)) (fun _ _ _ h => h) (Or.inl ⟨by rfl, ?_⟩) ?_ ?_
        rotate_left
        · intro w'
          go_simp
          with_reducible rfl
        rotate_left
        · simp only [Act.put, List.setIfInBounds_toArray, List.set_cons_zero, List.set_cons_succ, i64_w, i32_w]
          rfl
        refine take_ (i := 4) (N := some 10) (v := ?_) (a' := ?_) #[true, true, true, true, true, false, false, false, false, false, false, false, false, false] rfl rfl (take_ofW HT_.out HW_.out (by kernel_rfl)) (fun _ _ _ h => h) (Or.inl ⟨by rfl, ?_⟩) hHeld ?_ ?_
        rotate_left
        · rintro w' ⟨s0, s1, s2, s3, s4⟩
          go_simp
          with_reducible rfl
        rotate_left
        · simp only [Act.put, List.setIfInBounds_toArray, List.set_cons_zero, List.set_cons_succ, i64_w, i32_w]
          rfl
        refine take_ (i := 6) (N := some 12) (v := ?_) (a' := ?_) #[true, true, true, true, true, false, true, false, false, false, false, false, false, false] rfl rfl (take_ofW HT_.out HW_.out (by kernel_rfl)) (fun _ _ _ h => h) (Or.inl ⟨by rfl, ?_⟩) hHeld ?_ ?_
        rotate_left
        · rintro w' ⟨s0, s1, s2, s3, s4⟩
          go_simp
          with_reducible rfl
        rotate_left
        · simp only [Act.put, List.setIfInBounds_toArray, List.set_cons_zero, List.set_cons_succ, i64_w, i32_w]
          rfl
        refine one_ (i := 5) (N := some 11) #[true, true, true, true, true, true, true, false, false, false, false, false, false, false] rfl rfl (one_of HT_.out (by kernel_rfl)) (by decide) (fun K hK => ?_)
        refine goes_ Tryd.func7 (by kernel_rfl) rfl #[.agg #[.int .i64 a0_0, .string a0_1, .string a0_2, .slice A0_3 l0_3.length c0_3, .slice A0_4 l0_4.length c0_4]] (by rfl) rfl rfl (by (try simp only [List.map_toArray, List.map_cons, List.map_nil]); first | done | rfl | (simp only [List.length_drop, List.length_take]; rfl)) ?_
        with_reducible refine (impl_TextOf.calls k a0_0 a0_1 a0_2 _ _ l0_3 _ _ l0_4 t167 _ ?side1 ?side2 ?side3 ?side4 A6.out).mono ?_
        (case side1 => repeat (first | exact (Kd.C_below HR0_3.out HB.out) | (with_reducible refine Kd.C_alloc ?_ _) | (with_reducible refine Kd.C_drewN ?_ _) | (with_reducible refine Kd.C_drew ?_)))
        (case side2 => exact HC0_3.out)
        (case side3 => repeat (first | exact (Kd.C_below HR0_4.out HB.out) | (with_reducible refine Kd.C_alloc ?_ _) | (with_reducible refine Kd.C_drewN ?_ _) | (with_reducible refine Kd.C_drew ?_)))
        (case side4 => exact HC0_4.out)
        rintro e w15 ⟨rfl, hb⟩
        refine ⟨_, rfl, ?_⟩
        have n0_ := Aside0.mk (blk_below (g := gb164) (o := .cells #[.int .i64 a0_0, .string a0_1, .string a0_2, .slice A0_3 l0_3.length c0_3, .slice A0_4 l0_4.length c0_4] 25 (0, 0)) (by (with_reducible repeat (first | refine blk_drewN ?_ _ | refine blk_drew ?_ | refine blk_alloc ?_ _)); exact BK164.out) hb)
        have n1_ := Aside0.mk (below_step (by repeat (first | (with_reducible first | exact HB.out | apply below_alloc | apply pw_below_drewN | apply below_drew1 | refine below_set ?_ GE164.out) | exact HB.out)) hb)
        clear BK164
        clear HB
        have BK164 := n0_
        have HB := n1_
        clear n0_ n1_
        (try clear hb)
        (try clear hb2)
        (try clear hk)
        (try clear hi)
        refine hK.out _ _ ⟨(blk_cell BK164.out 0).trans rfl, (blk_cell BK164.out 1).trans rfl, (blk_cell BK164.out 2).trans rfl, (blk_cell BK164.out 3).trans rfl, (blk_cell BK164.out 4).trans rfl⟩ (fun hHeld => ?_)
        clear hK K
        refine norm_ (a' := ?_) ?_ ?_
        rotate_left
        · show Act.put _ (some 11) _ = _
          simp only [Act.put, List.setIfInBounds_toArray, List.set_cons_zero, List.set_cons_succ, i64_w, i32_w]
          rfl
        refine one_ (i := 7) (N := some 13) #[true, true, true, true, true, true, true, true, false, false, false, false, false, false] rfl rfl (one_of HT_.out (by kernel_rfl)) (by decide) (fun K hK => ?_)
        refine goes_ Tryd.func8 (by kernel_rfl) rfl #[.agg #[.int .i64 a0_0, .string a0_1, .string a0_2, .slice A0_3 l0_3.length c0_3, .slice A0_4 l0_4.length c0_4]] (by rfl) rfl rfl (by (try simp only [List.map_toArray, List.map_cons, List.map_nil]); first | done | rfl | (simp only [List.length_drop, List.length_take]; rfl)) ?_
        with_reducible refine (spec_Text29.calls k a0_0 a0_1 a0_2 _ _ l0_3 _ _ l0_4 t168 _ ?side1 ?side2 ?side3 ?side4 A7.out).mono ?_
        (case side1 => repeat (first | exact (Kd.C_below HR0_3.out HB.out) | (with_reducible refine Kd.C_alloc ?_ _) | (with_reducible refine Kd.C_drewN ?_ _) | (with_reducible refine Kd.C_drew ?_)))
        (case side2 => exact HC0_3.out)
        (case side3 => repeat (first | exact (Kd.C_below HR0_4.out HB.out) | (with_reducible refine Kd.C_alloc ?_ _) | (with_reducible refine Kd.C_drewN ?_ _) | (with_reducible refine Kd.C_drew ?_)))
        (case side4 => exact HC0_4.out)
        rintro e w16 ⟨rfl, hb⟩
        refine ⟨_, rfl, ?_⟩
        have n0_ := Aside0.mk (blk_below (g := gb164) (o := .cells #[.int .i64 a0_0, .string a0_1, .string a0_2, .slice A0_3 l0_3.length c0_3, .slice A0_4 l0_4.length c0_4] 25 (0, 0)) (by (with_reducible repeat (first | refine blk_drewN ?_ _ | refine blk_drew ?_ | refine blk_alloc ?_ _)); exact BK164.out) hb)
        have n1_ := Aside0.mk (below_step (by repeat (first | (with_reducible first | exact HB.out | apply below_alloc | apply pw_below_drewN | apply below_drew1 | refine below_set ?_ GE164.out) | exact HB.out)) hb)
        clear BK164
        clear HB
        have BK164 := n0_
        have HB := n1_
        clear n0_ n1_
        (try clear hb)
        (try clear hb2)
        (try clear hk)
        (try clear hi)
        refine hK.out _ _ ⟨(blk_cell BK164.out 0).trans rfl, (blk_cell BK164.out 1).trans rfl, (blk_cell BK164.out 2).trans rfl, (blk_cell BK164.out 3).trans rfl, (blk_cell BK164.out 4).trans rfl⟩ (fun hHeld => ?_)
        clear hK K
        refine norm_ (a' := ?_) ?_ ?_
        rotate_left
        · show Act.put _ (some 13) _ = _
          simp only [Act.put, List.setIfInBounds_toArray, List.set_cons_zero, List.set_cons_succ, i64_w, i32_w]
          rfl
        refine pure_ (i := 8) (N := some 14) (v := ?_) (a' := ?_) #[true, true, true, true, true, true, true, true, true, false, false, false, false, false] rfl rfl (any_of HT_.out (by kernel_rfl)) (fun _ _ _ h => h) (Or.inl ⟨by rfl, ?_⟩) ?_ ?_
        rotate_left
        · intro w'
          go_simp
          with_reducible rfl
        rotate_left
        · simp only [Act.put, List.setIfInBounds_toArray, List.set_cons_zero, List.set_cons_succ, i64_w, i32_w]
          rfl
        refine pure_ (i := 9) (N := some 15) (v := ?_) (a' := ?_) #[true, true, true, true, true, true, true, true, true, true, false, false, false, false] rfl rfl (any_of HT_.out (by kernel_rfl)) (fun _ _ _ h => h) (Or.inl ⟨by rfl, ?_⟩) ?_ ?_
        rotate_left
        · intro w'
          go_simp
          with_reducible rfl
        rotate_left
        · simp only [Act.put, List.setIfInBounds_toArray, List.set_cons_zero, List.set_cons_succ, i64_w, i32_w]
          rfl
        refine one_ (i := 10) (N := some 16) #[true, true, true, true, true, true, true, true, true, true, true, false, false, false] rfl rfl (one_of HT_.out (by kernel_rfl)) (by decide) (fun K hK => ?_)
        refine goes_ Tryd.func9 (by kernel_rfl) rfl #[] (by rfl) rfl rfl (by (try simp only [List.map_toArray, List.map_cons, List.map_nil]); first | done | rfl | (simp only [List.length_drop, List.length_take]; rfl)) ?_
        with_reducible refine (laws_living29.calls k  t169 _ A9.out).mono ?_
        rintro e w17 ⟨rfl, hb⟩
        refine ⟨_, rfl, ?_⟩
        have n0_ := Aside0.mk (blk_below (g := gb164) (o := .cells #[.int .i64 a0_0, .string a0_1, .string a0_2, .slice A0_3 l0_3.length c0_3, .slice A0_4 l0_4.length c0_4] 25 (0, 0)) (by (with_reducible repeat (first | refine blk_drewN ?_ _ | refine blk_drew ?_ | refine blk_alloc ?_ _)); exact BK164.out) hb)
        have n1_ := Aside0.mk (below_step (by repeat (first | (with_reducible first | exact HB.out | apply below_alloc | apply pw_below_drewN | apply below_drew1 | refine below_set ?_ GE164.out) | exact HB.out)) hb)
        clear BK164
        clear HB
        have BK164 := n0_
        have HB := n1_
        clear n0_ n1_
        (try clear hb)
        (try clear hb2)
        (try clear hk)
        (try clear hi)
        refine hK.out _ _ ⟨(blk_cell BK164.out 0).trans rfl, (blk_cell BK164.out 1).trans rfl, (blk_cell BK164.out 2).trans rfl, (blk_cell BK164.out 3).trans rfl, (blk_cell BK164.out 4).trans rfl⟩ (fun hHeld => ?_)
        clear hK K
        refine norm_ (a' := ?_) ?_ ?_
        rotate_left
        · show Act.put _ (some 16) _ = _
          simp only [Act.put, List.setIfInBounds_toArray, List.set_cons_zero, List.set_cons_succ, i64_w, i32_w]
          rfl
        refine pure_ (i := 11) (N := some 17) (v := ?_) (a' := ?_) #[true, true, true, true, true, true, true, true, true, true, true, true, false, false] rfl rfl (any_of HT_.out (by kernel_rfl)) (fun _ _ _ h => h) (Or.inl ⟨by rfl, ?_⟩) ?_ ?_
        rotate_left
        · intro w'
          go_simp
          with_reducible rfl
        rotate_left
        · simp only [Act.put, List.setIfInBounds_toArray, List.set_cons_zero, List.set_cons_succ, i64_w, i32_w]
          rfl
        refine pure_ (i := 12) (N := some 18) (v := ?_) (a' := ?_) #[true, true, true, true, true, true, true, true, true, true, true, true, true, false] rfl rfl (any_of HT_.out (by kernel_rfl)) (fun _ _ _ h => h) (Or.inl ⟨by rfl, ?_⟩) ?_ ?_
        rotate_left
        · intro w'
          go_simp
          with_reducible rfl
        rotate_left
        · simp only [Act.put, List.setIfInBounds_toArray, List.set_cons_zero, List.set_cons_succ, i64_w, i32_w]
          rfl
        refine pure_ (i := 13) (N := some 2) (v := ?_) (a' := ?_) #[true, true, true, true, true, true, true, true, true, true, true, true, true, true] rfl rfl (any_of HT_.out (by kernel_rfl)) (fun _ _ _ h => h) (Or.inl ⟨by rfl, ?_⟩) ?_ ?_
        rotate_left
        · intro w'
          go_simp
          with_reducible rfl
        rotate_left
        · simp only [Act.put, List.setIfInBounds_toArray, List.set_cons_zero, List.set_cons_succ, i64_w, i32_w]
          rfl
        refine done_ (done_of HT_.out (by kernel_rfl)) ?_
        try go_wp2
        go_ret
        exact ⟨by first | rfl | (simp [errW_none, errW_some] <;> rfl) | (simp [*, errW_none, errW_some] <;> rfl), by repeat (first | (with_reducible first | exact HB.out | apply below_alloc | apply pw_below_drewN | apply below_drew1 | refine below_set ?_ GE164.out) | exact HB.out)⟩
      · rw [if_neg c8] at H
        have c8b0 : (t167.toList == t168.toList) = false := beq_eq_false_iff_ne.mpr c8
        have c8b1 : (t167.toList != t168.toList) = true := bne_iff_ne.mpr c8
        obtain rfl := Option.some.inj H
        go_enter Tryd.func3, Tryd.ntmps3
        try go_wp2_with (first | ((with_reducible refine gate_dst (N := 1) rfl ?_); refine box_event ?hg (N := 1) ?hd (cs := #[.int .i64 a0_0, .string a0_1, .string a0_2, .slice A0_3 l0_3.length c0_3, .slice A0_4 l0_4.length c0_4]) (t := 25) ?hr ?_; (case hd => rfl); (case hg => rfl); (case hr => first | (go_simp; done) | (go_simp; rfl)); intro gb164 hg w18 hbox hb; have n0_ := Aside0.mk (below_step (by repeat (first | (with_reducible first | exact HB.out | apply below_alloc | apply pw_below_drewN | apply below_drew1) | exact HB.out)) hb); have n1_ := Aside0.mk (hbox); have n2_ := Aside0.mk ((by rw [hg]; exact (below_size (by repeat (first | (with_reducible first | exact HB.out | apply below_alloc | apply pw_below_drewN | apply below_drew1) | exact HB.out))) : w.heap.size ≤ gb164)); have n3_ := Aside0.mk ((by rw [hg]; exact (below_size (by repeat (first | (with_reducible first | exact HB.out | apply below_alloc | apply pw_below_drewN | apply below_drew1) | exact HB.out))) : w.heap.size ≤ gb164)); clear HB; have HB := n0_; have BK164 := n1_; have GW164 := n2_; have GE164 := n3_; clear n0_ n1_ n2_ n3_; clear hb hbox hg; have hcz19_0 : w18.cell? ⟨gb164, 0, none⟩ = some (.int .i64 a0_0) := (blk_cell BK164.out 0).trans rfl; have hcz19_1 : w18.cell? ⟨gb164, 1, none⟩ = some (.string a0_1) := (blk_cell BK164.out 1).trans rfl; have hcz19_2 : w18.cell? ⟨gb164, 2, none⟩ = some (.string a0_2) := (blk_cell BK164.out 2).trans rfl; have hcz19_3 : w18.cell? ⟨gb164, 3, none⟩ = some (.slice A0_3 l0_3.length c0_3) := (blk_cell BK164.out 3).trans rfl; have hcz19_4 : w18.cell? ⟨gb164, 4, none⟩ = some (.slice A0_4 l0_4.length c0_4) := (blk_cell BK164.out 4).trans rfl; have hfz19_0 := blk_frozen BK164.out 0; have hfz19_1 := blk_frozen BK164.out 1; have hfz19_2 := blk_frozen BK164.out 2; have hfz19_3 := blk_frozen BK164.out 3; have hfz19_4 := blk_frozen BK164.out 4) | ((with_reducible refine gate_callee (f := 5) rfl ?_); refine goesL_ (some 4) rfl rfl Tryd.func5 (by kernel_rfl) rfl #[.agg #[.int .i64 a0_0, .string a0_1, .string a0_2, .slice A0_3 l0_3.length c0_3, .slice A0_4 l0_4.length c0_4]] rfl (by (try simp only [List.map_toArray, List.map_cons, List.map_nil]); first | done | rfl | (simp only [List.length_drop, List.length_take]; rfl)) ?_; (with_reducible refine (laws_zzFits2.calls k a0_0 a0_1 a0_2 _ _ l0_3 _ _ l0_4 true _ ?side1 ?side2 ?side3 ?side4 A2.out).mono ?_); (case side1 => repeat (first | exact (Kd.C_below HR0_3.out HB.out) | (with_reducible refine Kd.C_alloc ?_ _) | (with_reducible refine Kd.C_drewN ?_ _) | (with_reducible refine Kd.C_drew ?_))); (case side2 => exact HC0_3.out); (case side3 => repeat (first | exact (Kd.C_below HR0_4.out HB.out) | (with_reducible refine Kd.C_alloc ?_ _) | (with_reducible refine Kd.C_drewN ?_ _) | (with_reducible refine Kd.C_drew ?_))); (case side4 => exact HC0_4.out); rintro e w20 ⟨rfl, hb⟩; refine ⟨_, rfl, ?_⟩; have n0_ := Aside0.mk (blk_below (g := gb164) (o := .cells #[.int .i64 a0_0, .string a0_1, .string a0_2, .slice A0_3 l0_3.length c0_3, .slice A0_4 l0_4.length c0_4] 25 (0, 0)) (by (with_reducible repeat (first | refine blk_drewN ?_ _ | refine blk_drew ?_ | refine blk_alloc ?_ _)); exact BK164.out) hb); have n1_ := Aside0.mk (below_step (by repeat (first | (with_reducible first | exact HB.out | apply below_alloc | apply pw_below_drewN | apply below_drew1 | refine below_set ?_ GE164.out) | exact HB.out)) hb); clear BK164; clear HB; have BK164 := n0_; have HB := n1_; clear n0_ n1_; (try clear hb); (try clear hb2); (try clear hk); (try clear hi)))
        have n0_ := Aside0.mk (blk_drew BK164.out)
        have n1_ := Aside0.mk (below_drew1 HB.out)
        clear BK164
        clear HB
        have BK164 := n0_
        have HB := n1_
        clear n0_ n1_
        refine start_ (n := 14) (S := fun w' => w'.cell? ⟨gb164, 0, none⟩ = some (.int .i64 a0_0) ∧ w'.cell? ⟨gb164, 1, none⟩ = some (.string a0_1) ∧ w'.cell? ⟨gb164, 2, none⟩ = some (.string a0_2) ∧ w'.cell? ⟨gb164, 3, none⟩ = some (.slice A0_3 l0_3.length c0_3) ∧ w'.cell? ⟨gb164, 4, none⟩ = some (.slice A0_4 l0_4.length c0_4)) (ds := []) #[false, false, false, false, false, false, false, false, false, false, false, false, false, false] (by kernel_rfl) rfl rfl ⟨(blk_cell BK164.out 0).trans rfl, (blk_cell BK164.out 1).trans rfl, (blk_cell BK164.out 2).trans rfl, (blk_cell BK164.out 3).trans rfl, (blk_cell BK164.out 4).trans rfl⟩ (fun hHeld => ?_); refine with_tabW laws_FnDomText.tab3 laws_FnDomText.bits3 (fun HT_ HW_ => ?_)
        generalize w20.drew = w21 at BK164 HB hHeld ⊢
        refine take_ (i := 0) (N := some 6) (v := ?_) (a' := ?_) #[true, false, false, false, false, false, false, false, false, false, false, false, false, false] rfl rfl (take_ofW HT_.out HW_.out (by kernel_rfl)) (fun _ _ _ h => h) (Or.inl ⟨by rfl, ?_⟩) hHeld ?_ ?_
        rotate_left
        · rintro w' ⟨s0, s1, s2, s3, s4⟩
          go_simp
          with_reducible rfl
        rotate_left
        · simp only [Act.put, List.setIfInBounds_toArray, List.set_cons_zero, List.set_cons_succ, i64_w, i32_w]
          rfl
        refine one_ (i := 1) (N := some 7) #[true, true, false, false, false, false, false, false, false, false, false, false, false, false] rfl rfl (one_of HT_.out (by kernel_rfl)) (by decide) (fun K hK => ?_)
        refine goes_ Tryd.func6 (by kernel_rfl) rfl #[.agg #[.int .i64 a0_0, .string a0_1, .string a0_2, .slice A0_3 l0_3.length c0_3, .slice A0_4 l0_4.length c0_4]] (by rfl) rfl rfl (by (try simp only [List.map_toArray, List.map_cons, List.map_nil]); first | done | rfl | (simp only [List.length_drop, List.length_take]; rfl)) ?_
        with_reducible refine (laws_tree29.calls k a0_0 a0_1 a0_2 _ _ l0_3 _ _ l0_4 true _ ?side1 ?side2 ?side3 ?side4 A4.out).mono ?_
        (case side1 => repeat (first | exact (Kd.C_below HR0_3.out HB.out) | (with_reducible refine Kd.C_alloc ?_ _) | (with_reducible refine Kd.C_drewN ?_ _) | (with_reducible refine Kd.C_drew ?_)))
        (case side2 => exact HC0_3.out)
        (case side3 => repeat (first | exact (Kd.C_below HR0_4.out HB.out) | (with_reducible refine Kd.C_alloc ?_ _) | (with_reducible refine Kd.C_drewN ?_ _) | (with_reducible refine Kd.C_drew ?_)))
        (case side4 => exact HC0_4.out)
        rintro e w22 ⟨rfl, hb⟩
        refine ⟨_, rfl, ?_⟩
        have n0_ := Aside0.mk (blk_below (g := gb164) (o := .cells #[.int .i64 a0_0, .string a0_1, .string a0_2, .slice A0_3 l0_3.length c0_3, .slice A0_4 l0_4.length c0_4] 25 (0, 0)) (by (with_reducible repeat (first | refine blk_drewN ?_ _ | refine blk_drew ?_ | refine blk_alloc ?_ _)); exact BK164.out) hb)
        have n1_ := Aside0.mk (below_step (by repeat (first | (with_reducible first | exact HB.out | apply below_alloc | apply pw_below_drewN | apply below_drew1 | refine below_set ?_ GE164.out) | exact HB.out)) hb)
        clear BK164
        clear HB
        have BK164 := n0_
        have HB := n1_
        clear n0_ n1_
        (try clear hb)
        (try clear hb2)
        (try clear hk)
        (try clear hi)
        refine hK.out _ _ ⟨(blk_cell BK164.out 0).trans rfl, (blk_cell BK164.out 1).trans rfl, (blk_cell BK164.out 2).trans rfl, (blk_cell BK164.out 3).trans rfl, (blk_cell BK164.out 4).trans rfl⟩ (fun hHeld => ?_)
        clear hK K
        refine norm_ (a' := ?_) ?_ ?_
        rotate_left
        · show Act.put _ (some 7) _ = _
          simp only [Act.put, List.setIfInBounds_toArray, List.set_cons_zero, List.set_cons_succ, i64_w, i32_w]
          rfl
        refine pure_ (i := 2) (N := some 8) (v := ?_) (a' := ?_) #[true, true, true, false, false, false, false, false, false, false, false, false, false, false] rfl rfl (any_of HT_.out (by kernel_rfl)) (fun _ _ _ h => h) (Or.inl ⟨by rfl, ?_⟩) ?_ ?_
        rotate_left
        · intro w'
          go_simp
          with_reducible rfl
        rotate_left
        · simp only [Act.put, List.setIfInBounds_toArray, List.set_cons_zero, List.set_cons_succ, i64_w, i32_w]
          rfl
        refine pure_ (i := 3) (N := some 9) (v := ?_) (a' := ?_) #[true, true, true, true, false, false, false, false, false, false, false, false, false, false] rfl rfl (any_of HT_.out (by kernel_rfl)) (fun _ _ _ h => h) (Or.inl ⟨by rfl, ?_⟩) ?_ ?_
        rotate_left
        · intro w'
          go_simp
          with_reducible rfl
        rotate_left
        · simp only [Act.put, List.setIfInBounds_toArray, List.set_cons_zero, List.set_cons_succ, i64_w, i32_w]
          rfl
        refine take_ (i := 4) (N := some 10) (v := ?_) (a' := ?_) #[true, true, true, true, true, false, false, false, false, false, false, false, false, false] rfl rfl (take_ofW HT_.out HW_.out (by kernel_rfl)) (fun _ _ _ h => h) (Or.inl ⟨by rfl, ?_⟩) hHeld ?_ ?_
        rotate_left
        · rintro w' ⟨s0, s1, s2, s3, s4⟩
          go_simp
          with_reducible rfl
        rotate_left
        · simp only [Act.put, List.setIfInBounds_toArray, List.set_cons_zero, List.set_cons_succ, i64_w, i32_w]
          rfl
        refine take_ (i := 6) (N := some 12) (v := ?_) (a' := ?_) #[true, true, true, true, true, false, true, false, false, false, false, false, false, false] rfl rfl (take_ofW HT_.out HW_.out (by kernel_rfl)) (fun _ _ _ h => h) (Or.inl ⟨by rfl, ?_⟩) hHeld ?_ ?_
        rotate_left
        · rintro w' ⟨s0, s1, s2, s3, s4⟩
          go_simp
          with_reducible rfl
        rotate_left
        · simp only [Act.put, List.setIfInBounds_toArray, List.set_cons_zero, List.set_cons_succ, i64_w, i32_w]
          rfl
        refine one_ (i := 5) (N := some 11) #[true, true, true, true, true, true, true, false, false, false, false, false, false, false] rfl rfl (one_of HT_.out (by kernel_rfl)) (by decide) (fun K hK => ?_)
        refine goes_ Tryd.func7 (by kernel_rfl) rfl #[.agg #[.int .i64 a0_0, .string a0_1, .string a0_2, .slice A0_3 l0_3.length c0_3, .slice A0_4 l0_4.length c0_4]] (by rfl) rfl rfl (by (try simp only [List.map_toArray, List.map_cons, List.map_nil]); first | done | rfl | (simp only [List.length_drop, List.length_take]; rfl)) ?_
        with_reducible refine (impl_TextOf.calls k a0_0 a0_1 a0_2 _ _ l0_3 _ _ l0_4 t167 _ ?side1 ?side2 ?side3 ?side4 A6.out).mono ?_
        (case side1 => repeat (first | exact (Kd.C_below HR0_3.out HB.out) | (with_reducible refine Kd.C_alloc ?_ _) | (with_reducible refine Kd.C_drewN ?_ _) | (with_reducible refine Kd.C_drew ?_)))
        (case side2 => exact HC0_3.out)
        (case side3 => repeat (first | exact (Kd.C_below HR0_4.out HB.out) | (with_reducible refine Kd.C_alloc ?_ _) | (with_reducible refine Kd.C_drewN ?_ _) | (with_reducible refine Kd.C_drew ?_)))
        (case side4 => exact HC0_4.out)
        rintro e w23 ⟨rfl, hb⟩
        refine ⟨_, rfl, ?_⟩
        have n0_ := Aside0.mk (blk_below (g := gb164) (o := .cells #[.int .i64 a0_0, .string a0_1, .string a0_2, .slice A0_3 l0_3.length c0_3, .slice A0_4 l0_4.length c0_4] 25 (0, 0)) (by (with_reducible repeat (first | refine blk_drewN ?_ _ | refine blk_drew ?_ | refine blk_alloc ?_ _)); exact BK164.out) hb)
        have n1_ := Aside0.mk (below_step (by repeat (first | (with_reducible first | exact HB.out | apply below_alloc | apply pw_below_drewN | apply below_drew1 | refine below_set ?_ GE164.out) | exact HB.out)) hb)
        clear BK164
        clear HB
        have BK164 := n0_
        have HB := n1_
        clear n0_ n1_
        (try clear hb)
        (try clear hb2)
        (try clear hk)
        (try clear hi)
        refine hK.out _ _ ⟨(blk_cell BK164.out 0).trans rfl, (blk_cell BK164.out 1).trans rfl, (blk_cell BK164.out 2).trans rfl, (blk_cell BK164.out 3).trans rfl, (blk_cell BK164.out 4).trans rfl⟩ (fun hHeld => ?_)
        clear hK K
        refine norm_ (a' := ?_) ?_ ?_
        rotate_left
        · show Act.put _ (some 11) _ = _
          simp only [Act.put, List.setIfInBounds_toArray, List.set_cons_zero, List.set_cons_succ, i64_w, i32_w]
          rfl
        refine one_ (i := 7) (N := some 13) #[true, true, true, true, true, true, true, true, false, false, false, false, false, false] rfl rfl (one_of HT_.out (by kernel_rfl)) (by decide) (fun K hK => ?_)
        refine goes_ Tryd.func8 (by kernel_rfl) rfl #[.agg #[.int .i64 a0_0, .string a0_1, .string a0_2, .slice A0_3 l0_3.length c0_3, .slice A0_4 l0_4.length c0_4]] (by rfl) rfl rfl (by (try simp only [List.map_toArray, List.map_cons, List.map_nil]); first | done | rfl | (simp only [List.length_drop, List.length_take]; rfl)) ?_
        with_reducible refine (spec_Text29.calls k a0_0 a0_1 a0_2 _ _ l0_3 _ _ l0_4 t168 _ ?side1 ?side2 ?side3 ?side4 A7.out).mono ?_
        (case side1 => repeat (first | exact (Kd.C_below HR0_3.out HB.out) | (with_reducible refine Kd.C_alloc ?_ _) | (with_reducible refine Kd.C_drewN ?_ _) | (with_reducible refine Kd.C_drew ?_)))
        (case side2 => exact HC0_3.out)
        (case side3 => repeat (first | exact (Kd.C_below HR0_4.out HB.out) | (with_reducible refine Kd.C_alloc ?_ _) | (with_reducible refine Kd.C_drewN ?_ _) | (with_reducible refine Kd.C_drew ?_)))
        (case side4 => exact HC0_4.out)
        rintro e w24 ⟨rfl, hb⟩
        refine ⟨_, rfl, ?_⟩
        have n0_ := Aside0.mk (blk_below (g := gb164) (o := .cells #[.int .i64 a0_0, .string a0_1, .string a0_2, .slice A0_3 l0_3.length c0_3, .slice A0_4 l0_4.length c0_4] 25 (0, 0)) (by (with_reducible repeat (first | refine blk_drewN ?_ _ | refine blk_drew ?_ | refine blk_alloc ?_ _)); exact BK164.out) hb)
        have n1_ := Aside0.mk (below_step (by repeat (first | (with_reducible first | exact HB.out | apply below_alloc | apply pw_below_drewN | apply below_drew1 | refine below_set ?_ GE164.out) | exact HB.out)) hb)
        clear BK164
        clear HB
        have BK164 := n0_
        have HB := n1_
        clear n0_ n1_
        (try clear hb)
        (try clear hb2)
        (try clear hk)
        (try clear hi)
        refine hK.out _ _ ⟨(blk_cell BK164.out 0).trans rfl, (blk_cell BK164.out 1).trans rfl, (blk_cell BK164.out 2).trans rfl, (blk_cell BK164.out 3).trans rfl, (blk_cell BK164.out 4).trans rfl⟩ (fun hHeld => ?_)
        clear hK K
        refine norm_ (a' := ?_) ?_ ?_
        rotate_left
        · show Act.put _ (some 13) _ = _
          simp only [Act.put, List.setIfInBounds_toArray, List.set_cons_zero, List.set_cons_succ, i64_w, i32_w]
          rfl
        refine pure_ (i := 8) (N := some 14) (v := ?_) (a' := ?_) #[true, true, true, true, true, true, true, true, true, false, false, false, false, false] rfl rfl (any_of HT_.out (by kernel_rfl)) (fun _ _ _ h => h) (Or.inl ⟨by rfl, ?_⟩) ?_ ?_
        rotate_left
        · intro w'
          go_simp
          with_reducible rfl
        rotate_left
        · simp only [Act.put, List.setIfInBounds_toArray, List.set_cons_zero, List.set_cons_succ, i64_w, i32_w]
          rfl
        refine pure_ (i := 9) (N := some 15) (v := ?_) (a' := ?_) #[true, true, true, true, true, true, true, true, true, true, false, false, false, false] rfl rfl (any_of HT_.out (by kernel_rfl)) (fun _ _ _ h => h) (Or.inl ⟨by rfl, ?_⟩) ?_ ?_
        rotate_left
        · intro w'
          go_simp
          with_reducible rfl
        rotate_left
        · simp only [Act.put, List.setIfInBounds_toArray, List.set_cons_zero, List.set_cons_succ, i64_w, i32_w]
          rfl
        refine pure_ (i := 10) (N := some 16) (v := undef) (a' := ?_) #[true, true, true, true, true, true, true, true, true, true, true, false, false, false] rfl rfl (any_of HT_.out (by kernel_rfl)) (fun _ _ _ h => h) (Or.inr ⟨by rfl, rfl⟩) ?_ ?_
        rotate_left
        · simp only [Act.put, List.setIfInBounds_toArray, List.set_cons_zero, List.set_cons_succ, i64_w, i32_w]
          rfl
        refine pure_ (i := 11) (N := some 17) (v := ?_) (a' := ?_) #[true, true, true, true, true, true, true, true, true, true, true, true, false, false] rfl rfl (any_of HT_.out (by kernel_rfl)) (fun _ _ _ h => h) (Or.inl ⟨by rfl, ?_⟩) ?_ ?_
        rotate_left
        · intro w'
          go_simp
          with_reducible rfl
        rotate_left
        · simp only [Act.put, List.setIfInBounds_toArray, List.set_cons_zero, List.set_cons_succ, i64_w, i32_w]
          rfl
        refine pure_ (i := 12) (N := some 18) (v := ?_) (a' := ?_) #[true, true, true, true, true, true, true, true, true, true, true, true, true, false] rfl rfl (any_of HT_.out (by kernel_rfl)) (fun _ _ _ h => h) (Or.inl ⟨by rfl, ?_⟩) ?_ ?_
        rotate_left
        · intro w'
          go_simp
          with_reducible rfl
        rotate_left
        · simp only [Act.put, List.setIfInBounds_toArray, List.set_cons_zero, List.set_cons_succ, i64_w, i32_w]
          rfl
        refine pure_ (i := 13) (N := some 2) (v := ?_) (a' := ?_) #[true, true, true, true, true, true, true, true, true, true, true, true, true, true] rfl rfl (any_of HT_.out (by kernel_rfl)) (fun _ _ _ h => h) (Or.inl ⟨by rfl, ?_⟩) ?_ ?_
        rotate_left
        · intro w'
          go_simp
          with_reducible rfl
        rotate_left
        · simp only [Act.put, List.setIfInBounds_toArray, List.set_cons_zero, List.set_cons_succ, i64_w, i32_w]
          rfl
        refine done_ (done_of HT_.out (by kernel_rfl)) ?_
        try go_wp2
        go_ret
        exact ⟨by first | rfl | (simp [errW_none, errW_some] <;> rfl) | (simp [*, errW_none, errW_some] <;> rfl), by repeat (first | (with_reducible first | exact HB.out | apply below_alloc | apply pw_below_drewN | apply below_drew1 | refine below_set ?_ GE164.out) | exact HB.out)⟩
    · replace c5 := Bool.eq_false_iff.mpr c5
      subst c5
      have H1 : (some true) = some r := by rw [if_neg (show ¬ (false = true) by decide)] at H; exact H
      clear H
      have H := H1
      clear H1
      obtain rfl := Option.some.inj H
      go_enter Tryd.func3, Tryd.ntmps3
      try go_wp2_with (first | ((with_reducible refine gate_dst (N := 1) rfl ?_); refine box_event ?hg (N := 1) ?hd (cs := #[.int .i64 a0_0, .string a0_1, .string a0_2, .slice A0_3 l0_3.length c0_3, .slice A0_4 l0_4.length c0_4]) (t := 25) ?hr ?_; (case hd => rfl); (case hg => rfl); (case hr => first | (go_simp; done) | (go_simp; rfl)); intro gb164 hg w25 hbox hb; have n0_ := Aside0.mk (below_step (by repeat (first | (with_reducible first | exact HB.out | apply below_alloc | apply pw_below_drewN | apply below_drew1) | exact HB.out)) hb); have n1_ := Aside0.mk (hbox); have n2_ := Aside0.mk ((by rw [hg]; exact (below_size (by repeat (first | (with_reducible first | exact HB.out | apply below_alloc | apply pw_below_drewN | apply below_drew1) | exact HB.out))) : w.heap.size ≤ gb164)); have n3_ := Aside0.mk ((by rw [hg]; exact (below_size (by repeat (first | (with_reducible first | exact HB.out | apply below_alloc | apply pw_below_drewN | apply below_drew1) | exact HB.out))) : w.heap.size ≤ gb164)); clear HB; have HB := n0_; have BK164 := n1_; have GW164 := n2_; have GE164 := n3_; clear n0_ n1_ n2_ n3_; clear hb hbox hg; have hcz26_0 : w25.cell? ⟨gb164, 0, none⟩ = some (.int .i64 a0_0) := (blk_cell BK164.out 0).trans rfl; have hcz26_1 : w25.cell? ⟨gb164, 1, none⟩ = some (.string a0_1) := (blk_cell BK164.out 1).trans rfl; have hcz26_2 : w25.cell? ⟨gb164, 2, none⟩ = some (.string a0_2) := (blk_cell BK164.out 2).trans rfl; have hcz26_3 : w25.cell? ⟨gb164, 3, none⟩ = some (.slice A0_3 l0_3.length c0_3) := (blk_cell BK164.out 3).trans rfl; have hcz26_4 : w25.cell? ⟨gb164, 4, none⟩ = some (.slice A0_4 l0_4.length c0_4) := (blk_cell BK164.out 4).trans rfl; have hfz26_0 := blk_frozen BK164.out 0; have hfz26_1 := blk_frozen BK164.out 1; have hfz26_2 := blk_frozen BK164.out 2; have hfz26_3 := blk_frozen BK164.out 3; have hfz26_4 := blk_frozen BK164.out 4) | ((with_reducible refine gate_callee (f := 5) rfl ?_); refine goesL_ (some 4) rfl rfl Tryd.func5 (by kernel_rfl) rfl #[.agg #[.int .i64 a0_0, .string a0_1, .string a0_2, .slice A0_3 l0_3.length c0_3, .slice A0_4 l0_4.length c0_4]] rfl (by (try simp only [List.map_toArray, List.map_cons, List.map_nil]); first | done | rfl | (simp only [List.length_drop, List.length_take]; rfl)) ?_; (with_reducible refine (laws_zzFits2.calls k a0_0 a0_1 a0_2 _ _ l0_3 _ _ l0_4 true _ ?side1 ?side2 ?side3 ?side4 A2.out).mono ?_); (case side1 => repeat (first | exact (Kd.C_below HR0_3.out HB.out) | (with_reducible refine Kd.C_alloc ?_ _) | (with_reducible refine Kd.C_drewN ?_ _) | (with_reducible refine Kd.C_drew ?_))); (case side2 => exact HC0_3.out); (case side3 => repeat (first | exact (Kd.C_below HR0_4.out HB.out) | (with_reducible refine Kd.C_alloc ?_ _) | (with_reducible refine Kd.C_drewN ?_ _) | (with_reducible refine Kd.C_drew ?_))); (case side4 => exact HC0_4.out); rintro e w27 ⟨rfl, hb⟩; refine ⟨_, rfl, ?_⟩; have n0_ := Aside0.mk (blk_below (g := gb164) (o := .cells #[.int .i64 a0_0, .string a0_1, .string a0_2, .slice A0_3 l0_3.length c0_3, .slice A0_4 l0_4.length c0_4] 25 (0, 0)) (by (with_reducible repeat (first | refine blk_drewN ?_ _ | refine blk_drew ?_ | refine blk_alloc ?_ _)); exact BK164.out) hb); have n1_ := Aside0.mk (below_step (by repeat (first | (with_reducible first | exact HB.out | apply below_alloc | apply pw_below_drewN | apply below_drew1 | refine below_set ?_ GE164.out) | exact HB.out)) hb); clear BK164; clear HB; have BK164 := n0_; have HB := n1_; clear n0_ n1_; (try clear hb); (try clear hb2); (try clear hk); (try clear hi)))
      have n0_ := Aside0.mk (blk_drew BK164.out)
      have n1_ := Aside0.mk (below_drew1 HB.out)
      clear BK164
      clear HB
      have BK164 := n0_
      have HB := n1_
      clear n0_ n1_
      refine start_ (n := 14) (S := fun w' => w'.cell? ⟨gb164, 0, none⟩ = some (.int .i64 a0_0) ∧ w'.cell? ⟨gb164, 1, none⟩ = some (.string a0_1) ∧ w'.cell? ⟨gb164, 2, none⟩ = some (.string a0_2) ∧ w'.cell? ⟨gb164, 3, none⟩ = some (.slice A0_3 l0_3.length c0_3) ∧ w'.cell? ⟨gb164, 4, none⟩ = some (.slice A0_4 l0_4.length c0_4)) (ds := []) #[false, false, false, false, false, false, false, false, false, false, false, false, false, false] (by kernel_rfl) rfl rfl ⟨(blk_cell BK164.out 0).trans rfl, (blk_cell BK164.out 1).trans rfl, (blk_cell BK164.out 2).trans rfl, (blk_cell BK164.out 3).trans rfl, (blk_cell BK164.out 4).trans rfl⟩ (fun hHeld => ?_); refine with_tabW laws_FnDomText.tab3 laws_FnDomText.bits3 (fun HT_ HW_ => ?_)
      generalize w27.drew = w28 at BK164 HB hHeld ⊢
      refine take_ (i := 0) (N := some 6) (v := ?_) (a' := ?_) #[true, false, false, false, false, false, false, false, false, false, false, false, false, false] rfl rfl (take_ofW HT_.out HW_.out (by kernel_rfl)) (fun _ _ _ h => h) (Or.inl ⟨by rfl, ?_⟩) hHeld ?_ ?_
      rotate_left
      · rintro w' ⟨s0, s1, s2, s3, s4⟩
        go_simp
        with_reducible rfl
      rotate_left
      · simp only [Act.put, List.setIfInBounds_toArray, List.set_cons_zero, List.set_cons_succ, i64_w, i32_w]
        rfl
      refine one_ (i := 1) (N := some 7) #[true, true, false, false, false, false, false, false, false, false, false, false, false, false] rfl rfl (one_of HT_.out (by kernel_rfl)) (by decide) (fun K hK => ?_)
      refine goes_ Tryd.func6 (by kernel_rfl) rfl #[.agg #[.int .i64 a0_0, .string a0_1, .string a0_2, .slice A0_3 l0_3.length c0_3, .slice A0_4 l0_4.length c0_4]] (by rfl) rfl rfl (by (try simp only [List.map_toArray, List.map_cons, List.map_nil]); first | done | rfl | (simp only [List.length_drop, List.length_take]; rfl)) ?_
      with_reducible refine (laws_tree29.calls k a0_0 a0_1 a0_2 _ _ l0_3 _ _ l0_4 false _ ?side1 ?side2 ?side3 ?side4 A4.out).mono ?_
      (case side1 => repeat (first | exact (Kd.C_below HR0_3.out HB.out) | (with_reducible refine Kd.C_alloc ?_ _) | (with_reducible refine Kd.C_drewN ?_ _) | (with_reducible refine Kd.C_drew ?_)))
      (case side2 => exact HC0_3.out)
      (case side3 => repeat (first | exact (Kd.C_below HR0_4.out HB.out) | (with_reducible refine Kd.C_alloc ?_ _) | (with_reducible refine Kd.C_drewN ?_ _) | (with_reducible refine Kd.C_drew ?_)))
      (case side4 => exact HC0_4.out)
      rintro e w29 ⟨rfl, hb⟩
      refine ⟨_, rfl, ?_⟩
      have n0_ := Aside0.mk (blk_below (g := gb164) (o := .cells #[.int .i64 a0_0, .string a0_1, .string a0_2, .slice A0_3 l0_3.length c0_3, .slice A0_4 l0_4.length c0_4] 25 (0, 0)) (by (with_reducible repeat (first | refine blk_drewN ?_ _ | refine blk_drew ?_ | refine blk_alloc ?_ _)); exact BK164.out) hb)
      have n1_ := Aside0.mk (below_step (by repeat (first | (with_reducible first | exact HB.out | apply below_alloc | apply pw_below_drewN | apply below_drew1 | refine below_set ?_ GE164.out) | exact HB.out)) hb)
      clear BK164
      clear HB
      have BK164 := n0_
      have HB := n1_
      clear n0_ n1_
      (try clear hb)
      (try clear hb2)
      (try clear hk)
      (try clear hi)
      refine hK.out _ _ ⟨(blk_cell BK164.out 0).trans rfl, (blk_cell BK164.out 1).trans rfl, (blk_cell BK164.out 2).trans rfl, (blk_cell BK164.out 3).trans rfl, (blk_cell BK164.out 4).trans rfl⟩ (fun hHeld => ?_)
      clear hK K
      refine norm_ (a' := ?_) ?_ ?_
      rotate_left
      · show Act.put _ (some 7) _ = _
        simp only [Act.put, List.setIfInBounds_toArray, List.set_cons_zero, List.set_cons_succ, i64_w, i32_w]
        rfl
      refine pure_ (i := 2) (N := some 8) (v := ?_) (a' := ?_) #[true, true, true, false, false, false, false, false, false, false, false, false, false, false] rfl rfl (any_of HT_.out (by kernel_rfl)) (fun _ _ _ h => h) (Or.inl ⟨by rfl, ?_⟩) ?_ ?_
      rotate_left
      · intro w'
        go_simp
        with_reducible rfl
      rotate_left
      · simp only [Act.put, List.setIfInBounds_toArray, List.set_cons_zero, List.set_cons_succ, i64_w, i32_w]
        rfl
      refine pure_ (i := 3) (N := some 9) (v := ?_) (a' := ?_) #[true, true, true, true, false, false, false, false, false, false, false, false, false, false] rfl rfl (any_of HT_.out (by kernel_rfl)) (fun _ _ _ h => h) (Or.inl ⟨by rfl, ?_⟩) ?_ ?_
      rotate_left
      · intro w'
        go_simp
        with_reducible rfl
      rotate_left
      · simp only [Act.put, List.setIfInBounds_toArray, List.set_cons_zero, List.set_cons_succ, i64_w, i32_w]
        rfl
      refine pure_ (i := 4) (N := some 10) (v := undef) (a' := ?_) #[true, true, true, true, true, false, false, false, false, false, false, false, false, false] rfl rfl (any_of HT_.out (by kernel_rfl)) (fun _ _ _ h => h) (Or.inr ⟨by rfl, rfl⟩) ?_ ?_
      rotate_left
      · simp only [Act.put, List.setIfInBounds_toArray, List.set_cons_zero, List.set_cons_succ, i64_w, i32_w]
        rfl
      refine pure_ (i := 5) (N := some 11) (v := undef) (a' := ?_) #[true, true, true, true, true, true, false, false, false, false, false, false, false, false] rfl rfl (any_of HT_.out (by kernel_rfl)) (fun _ _ _ h => h) (Or.inr ⟨by rfl, rfl⟩) ?_ ?_
      rotate_left
      · simp only [Act.put, List.setIfInBounds_toArray, List.set_cons_zero, List.set_cons_succ, i64_w, i32_w]
        rfl
      refine pure_ (i := 6) (N := some 12) (v := undef) (a' := ?_) #[true, true, true, true, true, true, true, false, false, false, false, false, false, false] rfl rfl (any_of HT_.out (by kernel_rfl)) (fun _ _ _ h => h) (Or.inr ⟨by rfl, rfl⟩) ?_ ?_
      rotate_left
      · simp only [Act.put, List.setIfInBounds_toArray, List.set_cons_zero, List.set_cons_succ, i64_w, i32_w]
        rfl
      refine pure_ (i := 7) (N := some 13) (v := undef) (a' := ?_) #[true, true, true, true, true, true, true, true, false, false, false, false, false, false] rfl rfl (any_of HT_.out (by kernel_rfl)) (fun _ _ _ h => h) (Or.inr ⟨by rfl, rfl⟩) ?_ ?_
      rotate_left
      · simp only [Act.put, List.setIfInBounds_toArray, List.set_cons_zero, List.set_cons_succ, i64_w, i32_w]
        rfl
      refine pure_ (i := 8) (N := some 14) (v := undef) (a' := ?_) #[true, true, true, true, true, true, true, true, true, false, false, false, false, false] rfl rfl (any_of HT_.out (by kernel_rfl)) (fun _ _ _ h => h) (Or.inr ⟨by rfl, rfl⟩) ?_ ?_
      rotate_left
      · simp only [Act.put, List.setIfInBounds_toArray, List.set_cons_zero, List.set_cons_succ, i64_w, i32_w]
        rfl
      refine pure_ (i := 9) (N := some 15) (v := undef) (a' := ?_) #[true, true, true, true, true, true, true, true, true, true, false, false, false, false] rfl rfl (any_of HT_.out (by kernel_rfl)) (fun _ _ _ h => h) (Or.inr ⟨by rfl, rfl⟩) ?_ ?_
      rotate_left
      · simp only [Act.put, List.setIfInBounds_toArray, List.set_cons_zero, List.set_cons_succ, i64_w, i32_w]
        rfl
      refine pure_ (i := 10) (N := some 16) (v := undef) (a' := ?_) #[true, true, true, true, true, true, true, true, true, true, true, false, false, false] rfl rfl (any_of HT_.out (by kernel_rfl)) (fun _ _ _ h => h) (Or.inr ⟨by rfl, rfl⟩) ?_ ?_
      rotate_left
      · simp only [Act.put, List.setIfInBounds_toArray, List.set_cons_zero, List.set_cons_succ, i64_w, i32_w]
        rfl
      refine pure_ (i := 11) (N := some 17) (v := undef) (a' := ?_) #[true, true, true, true, true, true, true, true, true, true, true, true, false, false] rfl rfl (any_of HT_.out (by kernel_rfl)) (fun _ _ _ h => h) (Or.inr ⟨by rfl, rfl⟩) ?_ ?_
      rotate_left
      · simp only [Act.put, List.setIfInBounds_toArray, List.set_cons_zero, List.set_cons_succ, i64_w, i32_w]
        rfl
      refine pure_ (i := 12) (N := some 18) (v := ?_) (a' := ?_) #[true, true, true, true, true, true, true, true, true, true, true, true, true, false] rfl rfl (any_of HT_.out (by kernel_rfl)) (fun _ _ _ h => h) (Or.inl ⟨by rfl, ?_⟩) ?_ ?_
      rotate_left
      · intro w'
        go_simp
        with_reducible rfl
      rotate_left
      · simp only [Act.put, List.setIfInBounds_toArray, List.set_cons_zero, List.set_cons_succ, i64_w, i32_w]
        rfl
      refine pure_ (i := 13) (N := some 2) (v := ?_) (a' := ?_) #[true, true, true, true, true, true, true, true, true, true, true, true, true, true] rfl rfl (any_of HT_.out (by kernel_rfl)) (fun _ _ _ h => h) (Or.inl ⟨by rfl, ?_⟩) ?_ ?_
      rotate_left
      · intro w'
        go_simp
        with_reducible rfl
      rotate_left
      · simp only [Act.put, List.setIfInBounds_toArray, List.set_cons_zero, List.set_cons_succ, i64_w, i32_w]
        rfl
      refine done_ (done_of HT_.out (by kernel_rfl)) ?_
      try go_wp2
      go_ret
      exact ⟨by first | rfl | (simp [errW_none, errW_some] <;> rfl) | (simp [*, errW_none, errW_some] <;> rfl), by repeat (first | (with_reducible first | exact HB.out | apply below_alloc | apply pw_below_drewN | apply below_drew1 | refine below_set ?_ GE164.out) | exact HB.out)⟩
  · replace c3 := Bool.eq_false_iff.mpr c3
    subst c3
    have H1 : (some true) = some r := by rw [if_neg (show ¬ (false = true) by decide)] at H; exact H
    clear H
    have H := H1
    clear H1
    obtain rfl := Option.some.inj H
    go_enter Tryd.func3, Tryd.ntmps3
    go_wp2_with (first | ((with_reducible refine gate_dst (N := 1) rfl ?_); refine box_event ?hg (N := 1) ?hd (cs := #[.int .i64 a0_0, .string a0_1, .string a0_2, .slice A0_3 l0_3.length c0_3, .slice A0_4 l0_4.length c0_4]) (t := 25) ?hr ?_; (case hd => rfl); (case hg => rfl); (case hr => first | (go_simp; done) | (go_simp; rfl)); intro gb164 hg w30 hbox hb; have n0_ := Aside0.mk (below_step (by repeat (first | (with_reducible first | exact HB.out | apply below_alloc | apply pw_below_drewN | apply below_drew1) | exact HB.out)) hb); have n1_ := Aside0.mk (hbox); have n2_ := Aside0.mk ((by rw [hg]; exact (below_size (by repeat (first | (with_reducible first | exact HB.out | apply below_alloc | apply pw_below_drewN | apply below_drew1) | exact HB.out))) : w.heap.size ≤ gb164)); have n3_ := Aside0.mk ((by rw [hg]; exact (below_size (by repeat (first | (with_reducible first | exact HB.out | apply below_alloc | apply pw_below_drewN | apply below_drew1) | exact HB.out))) : w.heap.size ≤ gb164)); clear HB; have HB := n0_; have BK164 := n1_; have GW164 := n2_; have GE164 := n3_; clear n0_ n1_ n2_ n3_; clear hb hbox hg; have hcz31_0 : w30.cell? ⟨gb164, 0, none⟩ = some (.int .i64 a0_0) := (blk_cell BK164.out 0).trans rfl; have hcz31_1 : w30.cell? ⟨gb164, 1, none⟩ = some (.string a0_1) := (blk_cell BK164.out 1).trans rfl; have hcz31_2 : w30.cell? ⟨gb164, 2, none⟩ = some (.string a0_2) := (blk_cell BK164.out 2).trans rfl; have hcz31_3 : w30.cell? ⟨gb164, 3, none⟩ = some (.slice A0_3 l0_3.length c0_3) := (blk_cell BK164.out 3).trans rfl; have hcz31_4 : w30.cell? ⟨gb164, 4, none⟩ = some (.slice A0_4 l0_4.length c0_4) := (blk_cell BK164.out 4).trans rfl; have hfz31_0 := blk_frozen BK164.out 0; have hfz31_1 := blk_frozen BK164.out 1; have hfz31_2 := blk_frozen BK164.out 2; have hfz31_3 := blk_frozen BK164.out 3; have hfz31_4 := blk_frozen BK164.out 4) | ((with_reducible refine gate_callee (f := 5) rfl ?_); refine goesL_ (some 4) rfl rfl Tryd.func5 (by kernel_rfl) rfl #[.agg #[.int .i64 a0_0, .string a0_1, .string a0_2, .slice A0_3 l0_3.length c0_3, .slice A0_4 l0_4.length c0_4]] rfl (by (try simp only [List.map_toArray, List.map_cons, List.map_nil]); first | done | rfl | (simp only [List.length_drop, List.length_take]; rfl)) ?_; (with_reducible refine (laws_zzFits2.calls k a0_0 a0_1 a0_2 _ _ l0_3 _ _ l0_4 false _ ?side1 ?side2 ?side3 ?side4 A2.out).mono ?_); (case side1 => repeat (first | exact (Kd.C_below HR0_3.out HB.out) | (with_reducible refine Kd.C_alloc ?_ _) | (with_reducible refine Kd.C_drewN ?_ _) | (with_reducible refine Kd.C_drew ?_))); (case side2 => exact HC0_3.out); (case side3 => repeat (first | exact (Kd.C_below HR0_4.out HB.out) | (with_reducible refine Kd.C_alloc ?_ _) | (with_reducible refine Kd.C_drewN ?_ _) | (with_reducible refine Kd.C_drew ?_))); (case side4 => exact HC0_4.out); rintro e w32 ⟨rfl, hb⟩; refine ⟨_, rfl, ?_⟩; have n0_ := Aside0.mk (blk_below (g := gb164) (o := .cells #[.int .i64 a0_0, .string a0_1, .string a0_2, .slice A0_3 l0_3.length c0_3, .slice A0_4 l0_4.length c0_4] 25 (0, 0)) (by (with_reducible repeat (first | refine blk_drewN ?_ _ | refine blk_drew ?_ | refine blk_alloc ?_ _)); exact BK164.out) hb); have n1_ := Aside0.mk (below_step (by repeat (first | (with_reducible first | exact HB.out | apply below_alloc | apply pw_below_drewN | apply below_drew1 | refine below_set ?_ GE164.out) | exact HB.out)) hb); clear BK164; clear HB; have BK164 := n0_; have HB := n1_; clear n0_ n1_; (try clear hb); (try clear hb2); (try clear hk); (try clear hi)))
    go_ret
    exact ⟨by first | rfl | (simp [errW_none, errW_some] <;> rfl) | (simp [*, errW_none, errW_some] <;> rfl), by repeat (first | (with_reducible first | exact HB.out | apply below_alloc | apply pw_below_drewN | apply below_drew1 | refine below_set ?_ GE164.out) | exact HB.out)⟩
end Go.Proofs.YtibfoaahdbdogaaDoor.PDom

/- living29 is true. Plain facts. -/
namespace Go.Proofs.YtibfoaahdbdogaaDoor.PDom
open Go.RowKit Go.Proofs.YtibfoaahdbdogaaDoorW.PrintWords Go.Proofs.YtibfoaahdbdogaaDoorW.PrintLast Go.Proofs.YtibfoaahdbdogaaDoorW.PrintMore Go.Proofs.YtibfoaahdbdogaaDoor.Dom
set_option linter.unusedVariables false
set_option linter.unusedSimpArgs false

theorem name_ev {t : T} (ht : Fit t) {K : Nat} (h : laws_tree29.f K t.f0 t.f1 t.f2 t.f3 t.f4 = some true) : Ev (fun k => impl_NameOf.f k t.f0 t.f1 t.f2 t.f3 t.f4) (if t.f0 = 3 then docName else t.f1) := by
  obtain ⟨K3, e3⟩ := fitB_ev t ht
  have e2 := Ev.of (fun k => laws_tree29.mono t.f0 t.f1 t.f2 t.f3 t.f4 k) h
  obtain ⟨K2, h2⟩ := e2
  refine ⟨K2 + K3, fun k hk => ?_⟩
  have h4 : laws_tree29.f k t.f0 t.f1 t.f2 t.f3 t.f4 = some true := h2 k (by omega)
  show impl_NameOf.f k _ _ _ _ _ = _
  unfold impl_NameOf.f
  rw [h4, Option.bind_some, if_pos rfl, if_pos (e3 k (by omega))]
theorem all_ev {t : T} (ht : Fit t) {K : Nat} (h : laws_tree29.f K t.f0 t.f1 t.f2 t.f3 t.f4 = some true) : Ev (fun k => impl_AllNodes.f k t.f0 t.f1 t.f2 t.f3 t.f4) (pathsT [] t) := by
  obtain ⟨K3, e3⟩ := fitB_ev t ht
  have e2 := Ev.of (fun k => laws_tree29.mono t.f0 t.f1 t.f2 t.f3 t.f4 k) h
  obtain ⟨K2, h2⟩ := e2
  refine ⟨K2 + K3, fun k hk => ?_⟩
  have h4 : laws_tree29.f k t.f0 t.f1 t.f2 t.f3 t.f4 = some true := h2 k (by omega)
  show impl_AllNodes.f k _ _ _ _ _ = _
  unfold impl_AllNodes.f
  rw [h4, Option.bind_some, if_pos rfl, if_pos (e3 k (by omega))]
  cases t
  rfl
def liveT : T := ⟨0, ⟨#[112]⟩, ⟨#[]⟩, [], [⟨1, ⟨#[]⟩, ⟨#[97]⟩, [], []⟩]⟩
theorem live_fit : Fit liveT := Fit.mk _ (by decide) (by decide) (fun y hy => by
  have : y = ⟨1, ⟨#[]⟩, ⟨#[97]⟩, [], []⟩ := by simpa [liveT] using hy
  subst this
  exact Fit.mk _ (by decide) (by decide) (fun y hy => by cases hy))
theorem live_tree : laws_tree29.f 40 liveT.f0 liveT.f1 liveT.f2 liveT.f3 liveT.f4 = some true := by decide +kernel
theorem living_ev : Ev (fun k => laws_living29.f k) true := by
  have e1 := name_ev live_fit live_tree
  have e2 := all_ev live_fit live_tree
  refine Ev.congr (f := fun k => (impl_NameOf.f k liveT.f0 liveT.f1 liveT.f2 liveT.f3 liveT.f4).bind fun t159 => (if t159.toList = ([112] : List UInt8) then ((impl_AllNodes.f k liveT.f0 liveT.f1 liveT.f2 liveT.f3 liveT.f4).bind fun t160 => (some ((t160.length : Int) == 2))) else (some false))) (fun k => ?_) ?_
  · rw [laws_living29.f]
    rfl
  · refine Ev.bind e1 ?_
    have h1 : ((if liveT.f0 = 3 then docName else liveT.f1).toList = ([112] : List UInt8)) := by decide +kernel
    simp only [if_pos h1]
    refine Ev.bind e2 ?_
    have h2 : ((pathsT [] liveT).length : Int) == 2 := by rw [pathsT_len]; decide +kernel
    rw [h2]
    exact Ev.now _
end Go.Proofs.YtibfoaahdbdogaaDoor.PDom

/- The plain law of FnDomText, for trees whose text has at most 2^40 bytes. -/
namespace Go.Proofs.YtibfoaahdbdogaaDoor.PDom
open Go.RowKit Go.Proofs.YtibfoaahdbdogaaDoorW.PrintWords Go.Proofs.YtibfoaahdbdogaaDoorW.PrintLast Go.Proofs.YtibfoaahdbdogaaDoorW.PrintMore Go.Proofs.YtibfoaahdbdogaaDoor.Dom Go.Proofs.YtibfoaahdbdogaaDoor.Txt
set_option linter.unusedVariables false
set_option linter.unusedSimpArgs false

theorem ba_app (a b : List UInt8) : (⟨a.toArray⟩ : ByteArray) ++ ⟨b.toArray⟩ = ⟨(a ++ b).toArray⟩ := by
  apply ByteArray.ext
  rw [ByteArray.data_append]
  simp
theorem ba_self (s : ByteArray) : (⟨s.data.toList.toArray⟩ : ByteArray) = s := by
  apply ByteArray.ext
  simp
theorem ba_size (l : List UInt8) : (⟨l.toArray⟩ : ByteArray).size = l.length := by
  show l.toArray.size = _
  simp
theorem tx_aux {a b c : Nat} (h : a + (b + c) ≤ 1099511627776) : b ≤ 1099511627776 ∧ a + b ≤ 9223372036854775807 ∧ a + b + c ≤ 1099511627776 := by omega
theorem spec_ev {t : T} (ht : Fit t) : (txtT t).length ≤ 1099511627776 → Ev (fun k => spec_Text29.f k t.f0 t.f1 t.f2 t.f3 t.f4) ⟨(txtT t).toArray⟩ := by
  induction ht with
  | mk t ha hk h ih =>
    intro hl
    rw [txtT_eq] at hl ⊢
    by_cases h1 : t.f0 = 1
    · rw [if_pos h1] at hl ⊢
      rw [ba_self]
      refine Ev.step (f := fun _ => some t.f2) (fun k => ?_) (Ev.now _)
      simp only [spec_Text29.f]
      rw [if_pos h1]
    · rw [if_neg h1] at hl ⊢
      have key : ∀ (n j : Nat) (acc : List UInt8), t.f4.length = j + n → acc.length + (txtTL (t.f4.drop j)).length ≤ 1099511627776 → Ev (fun k => spec_Text29.l0 k ⟨acc.toArray⟩ t.f4 (t.f4.length : Int) (j : Int)) ⟨(acc ++ txtTL (t.f4.drop j)).toArray⟩ := by
        intro n
        induction n with
        | zero =>
          intro j acc hj _
          rw [List.drop_eq_nil_of_le (show t.f4.length ≤ j by omega)]
          refine Ev.step (f := fun _ => some (⟨acc.toArray⟩ : ByteArray)) (fun k => ?_) ?_
          · simp only [spec_Text29.l0]
            rw [if_neg (by omega)]
          · rw [txtTL, List.append_nil]
            exact Ev.now _
        | succ n ihn =>
          intro j acc hj hal
          have hlt : j < t.f4.length := by omega
          have q1 : (j : Int) < (t.f4.length : Int) := by omega
          have q2 : (0 : Int) ≤ (j : Int) := by omega
          have hw : wrap64 ((j : Int) + 1) = ((j + 1 : Nat) : Int) := by rw [wrap_id (by omega) (by omega)]; omega
          have hj1 : t.f4.length = j + 1 + n := by omega
          have hr := rd_at t.f4 hlt
          rw [List.drop_eq_getElem_cons hlt] at hal ⊢
          have e : txtTL (t.f4[j] :: t.f4.drop (j + 1)) = txtT t.f4[j] ++ txtTL (t.f4.drop (j + 1)) := rfl
          rw [e, List.length_append] at hal
          rw [e, ← List.append_assoc]
          obtain ⟨a1, a2, a3⟩ := tx_aux hal
          have hi := ih t.f4[j] (List.getElem_mem hlt) a1
          have hn := ihn (j + 1) (acc ++ txtT t.f4[j]) hj1 (by rw [List.length_append]; exact a3)
          refine Ev.step (f := fun k => ((spec_Text29.f k (t.f4[j]).f0 (t.f4[j]).f1 (t.f4[j]).f2 (t.f4[j]).f3 (t.f4[j]).f4).bind fun t136 => (if (⟨acc.toArray⟩ : ByteArray).size + t136.size ≤ 9223372036854775807 then (spec_Text29.l0 k (⟨acc.toArray⟩ ++ t136) t.f4 (t.f4.length : Int) ((j + 1 : Nat) : Int)) else (none)))) (fun k => ?_) (Ev.bind hi ?_)
          · simp only [spec_Text29.l0, hw, hr]
            rw [if_pos q1, if_pos q2, if_pos q1]
          · rw [ba_size, ba_size]
            simp only [if_pos a2, ba_app]
            exact hn
      refine Ev.step (f := fun k => spec_Text29.l0 k (⟨#[]⟩ : ByteArray) t.f4 (t.f4.length : Int) ((0 : Nat) : Int)) (fun k => ?_) ?_
      · simp only [spec_Text29.f]
        rw [if_neg h1]
        rfl
      · have := key t.f4.length 0 [] (by omega) (by simpa using hl)
        simpa using this
theorem text_pure {t : T} (hS : FitS t) (hl : (txtT t).length ≤ 1099511627776) : ∃ k, laws_FnDomText.f k t.f0 t.f1 t.f2 t.f3 t.f4 = some true := by
  have ht := hS.fit
  obtain ⟨b1, e1⟩ := fits2_ev t ht
  obtain ⟨b2, e2⟩ := tree_ev t hS
  have h : Ev (fun k => laws_FnDomText.f k t.f0 t.f1 t.f2 t.f3 t.f4) true := by
    unfold laws_FnDomText.f
    refine Ev.bind e1 ?_
    cases b1 with
    | false => simp only [Bool.false_eq_true, if_false]; exact Ev.now _
    | true =>
      simp only [if_true]
      refine Ev.bind e2 ?_
      cases b2 with
      | false => simp only [Bool.false_eq_true, if_false]; exact Ev.now _
      | true =>
        simp only [if_true]
        obtain ⟨k2, hk2⟩ := e2.rounds
        have hg : Ev (fun k => impl_TextOf.f k t.f0 t.f1 t.f2 t.f3 t.f4) ⟨(txtT t).toArray⟩ := by
          obtain ⟨K3, e3⟩ := fitB_ev t ht
          obtain ⟨K2, h2⟩ := Ev.of (fun k => laws_tree29.mono t.f0 t.f1 t.f2 t.f3 t.f4 k) hk2
          refine ⟨K2 + K3, fun k hk => ?_⟩
          have h4 : laws_tree29.f k t.f0 t.f1 t.f2 t.f3 t.f4 = some true := h2 k (by omega)
          have h5 : fitB k ⟨t.f0, t.f1, t.f2, t.f3, t.f4⟩ = true := e3 k (by omega)
          have he : (⟨t.f0, t.f1, t.f2, t.f3, t.f4⟩ : T) = t := by cases t; rfl
          show impl_TextOf.f k _ _ _ _ _ = _
          unfold impl_TextOf.f gateT
          rw [h4, Option.bind_some, if_pos rfl, if_pos h5, he, if_pos hl]
          rfl
        refine Ev.bind hg (Ev.bind (spec_ev ht hl) ?_)
        simp only [if_true]
        exact Ev.bind living_ev (Ev.now _)
  exact h.rounds
theorem text_walk (t : T) (A3 : Option Addr) (c3 : Nat) (A4 : Option Addr) (c4 : Nat) (w : World) (ht : FitS t) (h3 : Kd.C k31 w A3 t.f3.length t.f3) (l3 : t.f3.length ≤ c3) (h4 : Kd.C k25 w A4 t.f4.length t.f4) (l4 : t.f4.length ≤ c4) (hl : (txtT t).length ≤ 1099511627776) :
    Calls Tryd.prog 3 #[.agg #[.int .i64 t.f0, .string t.f1, .string t.f2, .slice A3 t.f3.length c3, .slice A4 t.f4.length c4]] w fun e w' => e = .returned (.bool true) ∧ Below w.heap.size w w' := by
  obtain ⟨k, h⟩ := text_pure ht hl
  exact laws_FnDomText.calls k t.f0 t.f1 t.f2 A3 c3 t.f3 A4 c4 t.f4 true w h3 l3 h4 l4 h
end Go.Proofs.YtibfoaahdbdogaaDoor.PDom

/- Arguments opened: what the reading of a datum says of memory, for texts, numbers, slices and structs, and how large they are. Each as large as a row's reach allows. -/
namespace Go.Proofs.YtibfoaahdbdogaaDoor.Open
open Go.RowKit Go.ChangeShapes Go.WideShapes Go.Proofs.YtibfoaahdbdogaaDoorW.PrintWords Go.Proofs.YtibfoaahdbdogaaDoorW.PrintLast Go.Proofs.YtibfoaahdbdogaaDoorW.PrintMore

/-- A datum of type t that is read within the fuel tells a value of kind k in memory, and the value is Good. -/
def Opens {α : Type} (P : Program) (t : TypeId) (k : Kd α) (Good : α → Prop) (fuel : Nat) : Prop :=
  ∀ (H : Type) (enc : TypeId × Value → H) (W : World) (base : Nat) (spare : Nat → Bool) (held : Bool) (cs : List Value) (x : DataW H × List MemPlace),
    DataW.trod enc P W base spare held fuel t cs = some x → (∀ n ∈ x.1.weights P t, n ≤ reachBytes) → ∃ y, k.K W y cs ∧ Good y

theorem opens_string {P : Program} {t : TypeId} (ht : P.underlying t = some .string) (fuel : Nat) : Opens P t Kd.string (fun s => s.size ≤ 140737488351232) fuel := by
  intro H enc W base spare held cs x h hw
  obtain ⟨s, rfl, rfl, _⟩ := DataW.trod_string ht h
  refine ⟨s, rfl, ?_⟩
  have := hw s.data.toList.length (by simp [DataW.weights])
  rw [Array.length_toList] at this
  exact this
theorem opens_int {P : Program} {t : TypeId} {k : IntKind} (ht : P.underlying t = some (.int k)) (fuel : Nat) : Opens P t (Kd.int k) (fun n => (Lit.int k n).wf = true) fuel := by
  intro H enc W base spare held cs x h hw
  obtain ⟨n, rfl, rfl, hwf⟩ := DataW.trod_int ht h
  exact ⟨n, rfl, hwf⟩

theorem weights_all {H : Type} {P : Program} {e : TypeId} : ∀ {ds : List (DataW H)} {d : DataW H}, d ∈ ds → ∀ n ∈ d.weights P e, n ∈ DataW.weightsAll P e ds
  | d0 :: ds, d, hd, n, hn => by
    simp only [DataW.weightsAll, List.mem_append]
    rcases List.mem_cons.1 hd with rfl | hd
    · exact .inl hn
    · exact .inr (weights_all hd n hn)
theorem addr_add (a : Addr) (i j : Nat) : (a.add i).add j = a.add (i + j) := by
  unfold Addr.add
  by_cases h1 : i = 0 <;> by_cases h2 : j = 0 <;> simp [h1, h2, Nat.add_assoc]

theorem opens_slice {α : Type} {P : Program} {t e : TypeId} {k : Kd α} {Good : α → Prop} (ht : P.underlying t = some (.slice e)) (hc : P.cellsOf e = k.sz) {B : Nat} (hB : P.bytesOf e = B) (fuel : Nat) (he : ∀ n, n < fuel → Opens P e k Good n) :
    Opens P t (Kd.slice e k) (fun xs => xs.length * B ≤ 140737488351232 ∧ ∀ x ∈ xs, Good x) fuel := by
  intro H enc W base spare held cs x h hw
  rcases DataW.trod_slice ht h with ⟨rfl, rfl⟩ | ⟨a, len, cap, elems, rest, n, rfl, rfl, rfl, hb, hl, hm, hlen, hel, hsp, hns⟩
  · exact ⟨[], ⟨none, 0, rfl, Nat.le_refl _, Kd.C_nil _ _⟩, by simp, fun _ h => by cases h⟩
  · have hwt : (elems.length + rest.length) * B ≤ reachBytes := by
      refine hw _ ?_
      simp only [DataW.weights, ht, List.length_map, hB]
      exact List.mem_cons_self ..
    have each : ∀ i, i < len → ∃ y : α, Good y ∧ ∃ c : List Value, c.length = k.sz ∧ k.K W y c ∧ ∀ j u, c[j]? = some u → W.cell? (a.add (i * k.sz + j)) = some u := by
      intro i hi
      have h1 := hel i hi
      rw [hc, List.getElem?_eq_getElem (by omega)] at h1
      obtain ⟨c, hcs, hy⟩ := Option.bind_eq_some_iff.1 h1
      obtain ⟨_, hcl, hcc⟩ := World.cells?_some hcs
      obtain ⟨y, hK, hG⟩ := he n (by omega) H enc W base spare held c _ hy (fun q hq => hw q (by
        simp only [DataW.weights, ht, List.mem_cons, List.mem_append]
        exact .inr (.inl (weights_all (List.mem_map.2 ⟨elems[i], List.getElem_mem _, rfl⟩) q hq))))
      refine ⟨y, hG, c, hcl, hK, fun j u hu => ?_⟩
      have hj : j < k.sz := by have := (List.getElem?_eq_some_iff.1 hu).1; omega
      have h2 := hcc j hj
      rw [addr_add] at h2
      rw [h2]
      exact hu
    let ys : List α := List.ofFn fun i : Fin len => Classical.choose (each i i.isLt)
    have hyl : ys.length = len := List.length_ofFn
    have hyg : ∀ (i : Nat) (hi : i < len), ys[i]'(by omega) = Classical.choose (each i hi) := fun i hi => by simp [ys]
    refine ⟨ys, ⟨some a, cap, by rw [hyl], by omega, rfl, ?_, fun hp => ⟨a, rfl, fun j p hj => ?_⟩⟩, ?_, fun y hy => ?_⟩
    · rw [hyl]
      simp only [maxLen] at hm
      omega
    · obtain ⟨hjl, rfl⟩ := List.getElem?_eq_some_iff.1 hj
      have h1 := Classical.choose_spec (each j (by omega))
      rw [hyg j (by omega)]
      exact h1.2
    · rw [hyl]
      refine Nat.le_trans (Nat.mul_le_mul_right _ ?_) hwt
      omega
    · obtain ⟨i, hi, rfl⟩ := List.getElem_of_mem hy
      rw [hyg i (by omega)]
      exact (Classical.choose_spec (each i (by omega))).1

/-- Fields one behind the other, from the cell with number o on. -/
def OpensFs {β : Type} (P : Program) (fs : List Field) (o : Nat) (k : Kd β) (Good : β → Prop) (fuel : Nat) : Prop :=
  ∀ (H : Type) (enc : TypeId × Value → H) (W : World) (base : Nat) (spare : Nat → Bool) (held : Bool) (cs : List Value) (xs : List (DataW H × List MemPlace)), xs.length = fs.length →
    (∀ (i : Nat) (f : Field), fs[i]? = some f → DataW.trod enc P W base spare held fuel f.type ((cs.drop f.offset).take (P.cellsOf f.type)) = xs[i]?) →
    (∀ (i : Nat) (f : Field) (x : DataW H × List MemPlace), fs[i]? = some f → xs[i]? = some x → ∀ n ∈ x.1.weights P f.type, n ≤ reachBytes) → cs.length = o + k.sz → ∃ y, k.K W y (cs.drop o) ∧ Good y
theorem opens_last {β : Type} {P : Program} {f : Field} {o : Nat} {k : Kd β} {Good : β → Prop} {fuel : Nat} (ho : f.offset = o) (hc : P.cellsOf f.type = k.sz) (h : Opens P f.type k Good fuel) : OpensFs P [f] o k Good fuel := by
  intro H enc W base spare held cs xs hl hx hw hcs
  obtain ⟨x, rfl⟩ : ∃ x, xs = [x] := List.length_eq_one_iff.1 hl
  have h1 := hx 0 f rfl
  rw [ho, hc, List.take_of_length_le (by rw [List.length_drop]; omega)] at h1
  exact h H enc W base spare held _ x h1 (hw 0 f x rfl rfl)
theorem opens_cons {α β : Type} {P : Program} {f : Field} {fs : List Field} {o : Nat} {k : Kd α} {k2 : Kd β} {Good : α → Prop} {Good2 : β → Prop} {fuel : Nat} (ho : f.offset = o) (hc : P.cellsOf f.type = k.sz) (h : Opens P f.type k Good fuel) (h2 : OpensFs P fs (o + k.sz) k2 Good2 fuel) :
    OpensFs P (f :: fs) o (Kd.pair k k2) (fun y => Good y.1 ∧ Good2 y.2) fuel := by
  intro H enc W base spare held cs xs hl hx hw hcs
  cases xs with
  | nil => simp at hl
  | cons x xs =>
    have h1 := hx 0 f rfl
    rw [ho, hc] at h1
    obtain ⟨y1, hK1, hG1⟩ := h H enc W base spare held _ x h1 (hw 0 f x rfl rfl)
    have hsz : (Kd.pair k k2).sz = k.sz + k2.sz := rfl
    obtain ⟨y2, hK2, hG2⟩ := h2 H enc W base spare held cs xs (by simpa using hl) (fun i g hg => by have := hx (i + 1) g (by simpa using hg); simpa using this)
      (fun i g z hg hz => hw (i + 1) g z (by simpa using hg) (by simpa using hz)) (by omega)
    refine ⟨(y1, y2), ⟨(cs.drop o).take k.sz, cs.drop (o + k.sz), ?_, hK1, hK2⟩, hG1, hG2⟩
    rw [← List.drop_drop, List.take_append_drop]
theorem opens_struct {α β : Type} {P : Program} {t : TypeId} {fs : Array Field} {k : Kd β} {Good : β → Prop} {fuel : Nat} (ht : P.underlying t = some (.struct fs)) (hc : P.cellsOf t = k.sz) (f : α → β) (g : β → α) (hfg : ∀ y, f (g y) = y) (h : ∀ n, n < fuel → OpensFs P fs.toList 0 k Good n) :
    Opens P t (Kd.iso k f) (fun x => Good (f x)) fuel := by
  intro H enc W base spare held cs x hx hw
  obtain ⟨xs, n, rfl, rfl, hcl, hl, hf⟩ := DataW.trod_struct ht hx
  obtain ⟨y, hK, hG⟩ := h n (by omega) H enc W base spare held cs xs (by simpa using hl) (fun i g hg => hf i g (by simpa using hg)) (fun i q z hq hz m hm => hw m (by
    simp only [DataW.weights, ht]
    exact DataW.weights_mem_each (j := i) (t := q.type) (d := z.1) (by simp only [List.getElem?_map, hq]; rfl) (by simp only [List.getElem?_map, hz]; rfl) m hm)) (by omega)
  rw [List.drop_zero] at hK
  refine ⟨g y, ?_, by show Good (f (g y)); rw [hfg]; exact hG⟩
  show k.K W (f (g y)) cs
  rw [hfg]
  exact hK

end Go.Proofs.YtibfoaahdbdogaaDoor.Open

/- As Open, with a measure that the reading's bulk bounds (for the '..Upto..' statements). Arguments opened: what the reading of a datum says of memory, for texts, numbers, slices and structs, and how large they are. Each as large as a row's reach allows. -/
namespace Go.Proofs.YtibfoaahdbdogaaDoor.OpenB
open Go.Proofs.YtibfoaahdbdogaaDoor.Open Go.RowKit Go.ChangeShapes Go.WideShapes Go.Proofs.YtibfoaahdbdogaaDoorW.PrintWords Go.Proofs.YtibfoaahdbdogaaDoorW.PrintLast Go.Proofs.YtibfoaahdbdogaaDoorW.PrintMore

/-- A datum of type t that is read within the fuel tells a value of kind k in memory, and the value is Good. -/
def OpensB {α : Type} (P : Program) (t : TypeId) (k : Kd α) (Good : α → Prop) (mu : α → Nat) (fuel : Nat) : Prop :=
  ∀ (H : Type) (enc : TypeId × Value → H) (W : World) (base : Nat) (spare : Nat → Bool) (held : Bool) (cs : List Value) (x : DataW H × List MemPlace),
    DataW.trod enc P W base spare held fuel t cs = some x → (∀ n ∈ x.1.weights P t, n ≤ reachBytes) → ∃ y, k.K W y cs ∧ Good y ∧ mu y ≤ Rows.uptoBulk x.1

theorem opens_string {P : Program} {t : TypeId} (ht : P.underlying t = some .string) (fuel : Nat) : OpensB P t Kd.string (fun s => s.size ≤ 140737488351232) (fun s => s.size) fuel := by
  intro H enc W base spare held cs x h hw
  obtain ⟨s, rfl, rfl, _⟩ := DataW.trod_string ht h
  refine ⟨s, rfl, ?_, ?_⟩
  · have := hw s.data.toList.length (by simp [DataW.weights])
    rw [Array.length_toList] at this
    exact this
  · have h2 : s.data.toList.length = s.size := by rw [Array.length_toList]; rfl
    simp only [Rows.uptoBulk]
    omega
theorem opens_int {P : Program} {t : TypeId} {k : IntKind} (ht : P.underlying t = some (.int k)) (fuel : Nat) : OpensB P t (Kd.int k) (fun n => (Lit.int k n).wf = true) (fun _ => 0) fuel := by
  intro H enc W base spare held cs x h hw
  obtain ⟨n, rfl, rfl, hwf⟩ := DataW.trod_int ht h
  exact ⟨n, rfl, hwf, Nat.zero_le _⟩

theorem sum_le {α H : Type} {mu : α → Nat} : ∀ (ys : List α) (ds : List (DataW H)), ys.length = ds.length → (∀ i (h1 : i < ys.length) (h2 : i < ds.length), mu ys[i] ≤ Rows.uptoBulk ds[i]) → (ys.map mu).sum ≤ Rows.uptoBulkAll ds
  | [], [], _, _ => by simp [Rows.uptoBulkAll]
  | [], _ :: _, h, _ => by cases h
  | _ :: _, [], h, _ => by cases h
  | y :: ys, d :: ds, h, hi => by
    have h1 := sum_le ys ds (by simpa using h) (fun i a b => by have := hi (i + 1) (by simpa using a) (by simpa using b); simpa using this)
    have h2 := hi 0 (by simp) (by simp)
    simp only [List.getElem_cons_zero] at h2
    simp only [List.map_cons, List.sum_cons, Rows.uptoBulkAll]
    omega
theorem opens_slice {α : Type} {P : Program} {t e : TypeId} {k : Kd α} {Good : α → Prop} {mu : α → Nat} (ht : P.underlying t = some (.slice e)) (hc : P.cellsOf e = k.sz) {B : Nat} (hB : P.bytesOf e = B) (fuel : Nat) (he : ∀ n, n < fuel → OpensB P e k Good mu n) :
    OpensB P t (Kd.slice e k) (fun xs => xs.length * B ≤ 140737488351232 ∧ ∀ x ∈ xs, Good x) (fun xs => (xs.map mu).sum) fuel := by
  intro H enc W base spare held cs x h hw
  rcases DataW.trod_slice ht h with ⟨rfl, rfl⟩ | ⟨a, len, cap, elems, rest, n, rfl, rfl, rfl, hb, hl, hm, hlen, hel, hsp, hns⟩
  · exact ⟨[], ⟨none, 0, rfl, Nat.le_refl _, Kd.C_nil _ _⟩, ⟨by simp, fun _ h => by cases h⟩, by simp⟩
  · have hwt : (elems.length + rest.length) * B ≤ reachBytes := by
      refine hw _ ?_
      simp only [DataW.weights, ht, List.length_map, hB]
      exact List.mem_cons_self ..
    have each : ∀ i, i < len → ∃ y : α, (Good y ∧ ∀ h : i < elems.length, mu y ≤ Rows.uptoBulk elems[i].1) ∧ ∃ c : List Value, c.length = k.sz ∧ k.K W y c ∧ ∀ j u, c[j]? = some u → W.cell? (a.add (i * k.sz + j)) = some u := by
      intro i hi
      have h1 := hel i hi
      rw [hc, List.getElem?_eq_getElem (by omega)] at h1
      obtain ⟨c, hcs, hy⟩ := Option.bind_eq_some_iff.1 h1
      obtain ⟨_, hcl, hcc⟩ := World.cells?_some hcs
      obtain ⟨y, hK, hG, hM⟩ := he n (by omega) H enc W base spare held c _ hy (fun q hq => hw q (by
        simp only [DataW.weights, ht, List.mem_cons, List.mem_append]
        exact .inr (.inl (weights_all (List.mem_map.2 ⟨elems[i], List.getElem_mem _, rfl⟩) q hq))))
      refine ⟨y, ⟨hG, fun _ => hM⟩, c, hcl, hK, fun j u hu => ?_⟩
      have hj : j < k.sz := by have := (List.getElem?_eq_some_iff.1 hu).1; omega
      have h2 := hcc j hj
      rw [addr_add] at h2
      rw [h2]
      exact hu
    let ys : List α := List.ofFn fun i : Fin len => Classical.choose (each i i.isLt)
    have hyl : ys.length = len := List.length_ofFn
    have hyg : ∀ (i : Nat) (hi : i < len), ys[i]'(by omega) = Classical.choose (each i hi) := fun i hi => by simp [ys]
    refine ⟨ys, ⟨some a, cap, by rw [hyl], by omega, rfl, ?_, fun hp => ⟨a, rfl, fun j p hj => ?_⟩⟩, ⟨?_, fun y hy => ?_⟩, ?_⟩
    · rw [hyl]
      simp only [maxLen] at hm
      omega
    · obtain ⟨hjl, rfl⟩ := List.getElem?_eq_some_iff.1 hj
      have h1 := Classical.choose_spec (each j (by omega))
      rw [hyg j (by omega)]
      exact h1.2
    · rw [hyl]
      refine Nat.le_trans (Nat.mul_le_mul_right _ ?_) hwt
      omega
    · obtain ⟨i, hi, rfl⟩ := List.getElem_of_mem hy
      rw [hyg i (by omega)]
      exact (Classical.choose_spec (each i (by omega))).1.1
    · simp only [Rows.uptoBulk]
      have := sum_le (mu := mu) ys (elems.map (·.1)) (by rw [hyl, List.length_map]; omega) (fun i a b => by
        rw [List.length_map] at b
        rw [List.getElem_map, hyg i (by omega)]
        exact (Classical.choose_spec (each i (by omega))).1.2 b)
      omega

/-- Fields one behind the other, from the cell with number o on. -/
def OpensFsB {β : Type} (P : Program) (fs : List Field) (o : Nat) (k : Kd β) (Good : β → Prop) (mu : β → Nat) (fuel : Nat) : Prop :=
  ∀ (H : Type) (enc : TypeId × Value → H) (W : World) (base : Nat) (spare : Nat → Bool) (held : Bool) (cs : List Value) (xs : List (DataW H × List MemPlace)), xs.length = fs.length →
    (∀ (i : Nat) (f : Field), fs[i]? = some f → DataW.trod enc P W base spare held fuel f.type ((cs.drop f.offset).take (P.cellsOf f.type)) = xs[i]?) →
    (∀ (i : Nat) (f : Field) (x : DataW H × List MemPlace), fs[i]? = some f → xs[i]? = some x → ∀ n ∈ x.1.weights P f.type, n ≤ reachBytes) → cs.length = o + k.sz → ∃ y, k.K W y (cs.drop o) ∧ Good y ∧ mu y ≤ Rows.uptoBulkAll (xs.map (·.1))
theorem opens_last {β : Type} {P : Program} {f : Field} {o : Nat} {k : Kd β} {Good : β → Prop} {mu : β → Nat} {fuel : Nat} (ho : f.offset = o) (hc : P.cellsOf f.type = k.sz) (h : OpensB P f.type k Good mu fuel) : OpensFsB P [f] o k Good mu fuel := by
  intro H enc W base spare held cs xs hl hx hw hcs
  obtain ⟨x, rfl⟩ : ∃ x, xs = [x] := List.length_eq_one_iff.1 hl
  have h1 := hx 0 f rfl
  rw [ho, hc, List.take_of_length_le (by rw [List.length_drop]; omega)] at h1
  obtain ⟨y, hK, hG, hM⟩ := h H enc W base spare held _ x h1 (hw 0 f x rfl rfl)
  exact ⟨y, hK, hG, by simp only [List.map_cons, List.map_nil, Rows.uptoBulkAll]; omega⟩
theorem opens_cons {α β : Type} {P : Program} {f : Field} {fs : List Field} {o : Nat} {k : Kd α} {k2 : Kd β} {Good : α → Prop} {Good2 : β → Prop} {mu : α → Nat} {mu2 : β → Nat} {fuel : Nat} (ho : f.offset = o) (hc : P.cellsOf f.type = k.sz) (h : OpensB P f.type k Good mu fuel) (h2 : OpensFsB P fs (o + k.sz) k2 Good2 mu2 fuel) :
    OpensFsB P (f :: fs) o (Kd.pair k k2) (fun y => Good y.1 ∧ Good2 y.2) (fun y => mu y.1 + mu2 y.2) fuel := by
  intro H enc W base spare held cs xs hl hx hw hcs
  cases xs with
  | nil => simp at hl
  | cons x xs =>
    have h1 := hx 0 f rfl
    rw [ho, hc] at h1
    obtain ⟨y1, hK1, hG1, hM1⟩ := h H enc W base spare held _ x h1 (hw 0 f x rfl rfl)
    have hsz : (Kd.pair k k2).sz = k.sz + k2.sz := rfl
    obtain ⟨y2, hK2, hG2, hM2⟩ := h2 H enc W base spare held cs xs (by simpa using hl) (fun i g hg => by have := hx (i + 1) g (by simpa using hg); simpa using this)
      (fun i g z hg hz => hw (i + 1) g z (by simpa using hg) (by simpa using hz)) (by omega)
    refine ⟨(y1, y2), ⟨(cs.drop o).take k.sz, cs.drop (o + k.sz), ?_, hK1, hK2⟩, ⟨hG1, hG2⟩, ?_⟩
    · rw [← List.drop_drop, List.take_append_drop]
    · simp only [List.map_cons, Rows.uptoBulkAll]
      omega
theorem opens_struct {α β : Type} {P : Program} {t : TypeId} {fs : Array Field} {k : Kd β} {Good : β → Prop} {mu : β → Nat} {fuel : Nat} (ht : P.underlying t = some (.struct fs)) (hc : P.cellsOf t = k.sz) (f : α → β) (g : β → α) (hfg : ∀ y, f (g y) = y) (h : ∀ n, n < fuel → OpensFsB P fs.toList 0 k Good mu n) :
    OpensB P t (Kd.iso k f) (fun x => Good (f x)) (fun x => mu (f x)) fuel := by
  intro H enc W base spare held cs x hx hw
  obtain ⟨xs, n, rfl, rfl, hcl, hl, hf⟩ := DataW.trod_struct ht hx
  obtain ⟨y, hK, hG, hM⟩ := h n (by omega) H enc W base spare held cs xs (by simpa using hl) (fun i g hg => hf i g (by simpa using hg)) (fun i q z hq hz m hm => hw m (by
    simp only [DataW.weights, ht]
    exact DataW.weights_mem_each (j := i) (t := q.type) (d := z.1) (by simp only [List.getElem?_map, hq]; rfl) (by simp only [List.getElem?_map, hz]; rfl) m hm)) (by omega)
  rw [List.drop_zero] at hK
  refine ⟨g y, ?_, by show Good (f (g y)); rw [hfg]; exact hG, by show mu (f (g y)) ≤ _; rw [hfg]; simp only [Rows.uptoBulk]; omega⟩
  show k.K W (f (g y)) cs
  rw [hfg]
  exact hK

end Go.Proofs.YtibfoaahdbdogaaDoor.OpenB

/- As OpenT, with the length of the tree's text. A tree that comes in as an argument: what it reads as in memory, and that it fits. -/
namespace Go.Proofs.YtibfoaahdbdogaaDoor.PDom
open Go.Proofs.YtibfoaahdbdogaaDoor.OpenB Go.RowKit Go.ChangeShapes Go.WideShapes Go.Proofs.YtibfoaahdbdogaaDoorW.PrintWords Go.Proofs.YtibfoaahdbdogaaDoorW.PrintLast Go.Proofs.YtibfoaahdbdogaaDoorW.PrintMore Go.Proofs.YtibfoaahdbdogaaDoor.Dom
set_option linter.unusedVariables false
set_option linter.unusedSimpArgs false

theorem opens_attrB (fuel : Nat) : OpensB Tryd.prog 31 k31 (fun _ => True) (fun _ => 0) fuel := by
  have h := opens_struct (α := S31) (fuel := fuel) Tryd.underlying31 (by kernel_rfl) (fun x : S31 => (x.f0, x.f1)) (fun y => ⟨y.1, y.2⟩) (fun _ => rfl)
    (fun n _ => opens_cons (P := Tryd.prog) (o := 0) rfl (by kernel_rfl) (opens_string Tryd.underlying9 n) (opens_last (o := 1) rfl (by kernel_rfl) (opens_string Tryd.underlying9 n)))
  intro H enc W base spare held cs x hx hw
  obtain ⟨y, hK, _, _⟩ := h H enc W base spare held cs x hx hw
  exact ⟨y, hK, trivial, Nat.zero_le _⟩
theorem txtTL_sum : ∀ l : List T, (txtTL l).length = (l.map fun t => (txtT t).length).sum
  | [] => rfl
  | t :: l => by
    show (txtT t ++ txtTL l).length = _
    rw [List.length_append, txtTL_sum l, List.map_cons, List.sum_cons]
theorem opens_TB (fuel : Nat) : OpensB Tryd.prog 25 k25 FitS (fun t => (txtT t).length) fuel := by
  induction fuel using Nat.strongRecOn with
  | _ fuel ih =>
    have h := opens_struct (α := T) (fuel := fuel) Tryd.underlying25 (by kernel_rfl) (fun x : T => (x.f0, x.f1, x.f2, x.f3, x.f4)) (fun y => ⟨y.1, y.2.1, y.2.2.1, y.2.2.2.1, y.2.2.2.2⟩) (fun _ => rfl)
      (fun n hn => opens_cons (P := Tryd.prog) (o := 0) rfl (by kernel_rfl) (opens_int (k := .i64) Tryd.underlying3 n)
        (opens_cons (o := 1) rfl (by kernel_rfl) (opens_string Tryd.underlying9 n) (opens_cons (o := 2) rfl (by kernel_rfl) (opens_string Tryd.underlying9 n)
          (opens_cons (o := 3) rfl (by kernel_rfl) (opens_slice (k := k31) Tryd.underlying22 (by kernel_rfl) (B := 32) (by kernel_rfl) n (fun m _ => opens_attrB m))
            (opens_last (o := 4) rfl (by kernel_rfl) (opens_slice (k := k25) Tryd.underlying23 (by kernel_rfl) (B := 88) (by kernel_rfl) n (fun m hm => ih m (by omega))))))))
    intro H enc W base spare held cs x hx hw
    obtain ⟨y, hK, hG, hM⟩ := h H enc W base spare held cs x hx hw
    obtain ⟨_, _, rfl, rfl, ⟨_, _, rfl, rfl, ⟨_, _, rfl, rfl, ⟨_, _, rfl, ⟨A3, c3, rfl, l3, g3⟩, ⟨A4, c4, rfl, l4, g4⟩⟩⟩⟩⟩ := hK
    obtain ⟨_, hn, _, ⟨ha, _⟩, ⟨hb, hy⟩⟩ := hG
    have ha2 : y.f3.length * 32 ≤ 140737488351232 := ha
    have hb2 : y.f4.length * 88 ≤ 140737488351232 := hb
    refine ⟨y, k25_mk W y l3 g3 l4 g4, FitS.mk y hn (by omega) (by omega) hy, ?_⟩
    have hM2 : 0 + (y.f1.size + (y.f2.size + ((y.f3.map fun _ => 0).sum + (y.f4.map fun t => (txtT t).length).sum))) ≤ Rows.uptoBulk x.1 := hM
    rw [← txtTL_sum] at hM2
    have hd : y.f2.data.toList.length = y.f2.size := by rw [Array.length_toList]; rfl
    show (txtT y).length ≤ _
    rw [txtT_eq]
    split <;> omega
theorem open_TB {H : Type} {enc : TypeId × Value → H} {W : World} {base : Nat} {spare : Nat → Bool} {held : Bool} {v : Value} {d : DataW H} {ps : List MemPlace} {ts : List TypeId} {ds : List (DataW H)} {j : Nat} {t : TypeId} (e : t = 25)
    (hd : DataW.Trod enc Tryd.prog W base spare held t v d ps) (hsz : (DataW.weightsEach Tryd.prog ts ds).all (· ≤ reachBytes) = true) (ht : ts[j]? = some t) (hdj : ds[j]? = some d) :
    ∃ (y : T) (A3 : Option Addr) (c3 : Nat) (A4 : Option Addr) (c4 : Nat), FitS y ∧ v.cells.toList = [.int .i64 y.f0, .string y.f1, .string y.f2, .slice A3 y.f3.length c3, .slice A4 y.f4.length c4] ∧ k31.C W A3 y.f3.length y.f3 ∧ y.f3.length ≤ c3 ∧ k25.C W A4 y.f4.length y.f4 ∧ y.f4.length ≤ c4 ∧ (txtT y).length ≤ Rows.uptoBulk d := by
  subst e
  obtain ⟨fuel, hf⟩ := hd
  obtain ⟨y, hK, hG, hM⟩ := opens_TB fuel H enc W base spare held _ _ hf (fun n hn => by
    have := List.all_eq_true.1 hsz n (DataW.weights_mem_each ht hdj n hn)
    simpa using this)
  obtain ⟨A3, c3, A4, c4, hcs, l3, g3, l4, g4⟩ := k25_open hK
  exact ⟨y, A3, c3, A4, c4, hG, hcs, g3, l3, g4, l4, hM⟩
end Go.Proofs.YtibfoaahdbdogaaDoor.PDom

/- The row of the law FnDomText, out of its walk. No further conditions. -/
namespace Go.Proofs.YtibfoaahdbdogaaDoor.fnDomTextUpto
open Go.ChangeShapes Go.WideShapes Go.ChangeAt Go.RowKit
open Go.ChangeMaps (open_string shut_string)
open Go.Proofs.YtibfoaahdbdogaaDoor.PDom
set_option linter.unusedVariables false
theorem own : ownKnob Tryd.prog.godebug = none := by kernel_rfl
theorem laidOut : laidOutB Tryd.prog = true := by kernel_rfl
/-- A world in which the listed variables hold what the program lays. -/
noncomputable def laidWorld (os : Os) : World :=
  let N := (World.settled Tryd.prog os).heap.size
  let w0 := World.holding Tryd.prog os ⟨#[.cells #[Value.string ⟨#[98, 121, 116, 101, 115, 46, 66, 117, 102, 102, 101, 114, 58, 32, 116, 111, 111, 32, 108, 97, 114, 103, 101]⟩] 122], #[], []⟩
  let put (h : Array Obj) (g : Nat) (cs : Array Value) : Array Obj := h.modify g fun
    | .cells _ t frozen => .cells cs t frozen
    | o => o
  { w0 with heap := put (w0.heap) 2 #[Value.iface 105 (Value.pointer (some ⟨N + 0, 0, none⟩))] }
set_option maxRecDepth 100000 in
theorem laid_met (os : Os) (args : Array Value) : laidMet Tryd.prog Rows.fnDomTextUptoRow.laid ((laidWorld os).forCall (fun _ _ => 0) ⟨#[], args, []⟩).memory :=
  laidMet_of_run3 10 (by kernel_rfl) (by kernel_rfl) (by kernel_rfl)
set_option maxRecDepth 100000 in
theorem contract (H : Type) (enc : TypeId × Value → H) (W : World) (base : Nat) (args : Array Value) (ds gs : List (DataW H)) (before : List MemPlace)
    (hval0 : ∀ (j : Nat) t v, Tryd.f3.params[j]? = some t → args[j]? = some v → Value.okWide Tryd.prog W .any base t v)
    (hW : DataW.Whole enc Tryd.prog Tryd.f3.params.toList Rows.fnDomTextSpec.vars false W args.toList ds gs before)
    (hsz0 : (DataW.weightsEach Tryd.prog (Tryd.f3.params.toList ++ Rows.fnDomTextSpec.plain.varTypes Tryd.prog) (ds ++ gs)).all (· ≤ reachBytes) = true) (hk : Rows.uptoSmall H (ds ++ gs) = true) :
    Calls Tryd.prog 3 args W fun e W' => ∃ v, e = .returned v ∧ Rows.fnDomTextSpec.post enc Tryd.prog Tryd.f3 false true false false W args v W' := by
  have hb0 : Rows.uptoBulkAll (ds ++ gs) ≤ 1048576 := of_decide_eq_true hk
  clear hk
  have hsz := hsz0
  have hval := hval0
  have hW' := hW
  obtain ⟨p, q, hA0, hV, rfl, hfz, hnd⟩ := hW
  have hA : DataW.TrodAll enc Tryd.prog W 0 (fun _ => true) true Tryd.f3.params.toList args.toList ds p := hA0
  rw [Tryd.params3] at hA hval hsz
  obtain ⟨v0, vs0, d0, ds0, p0, q0, hargs, rfl, rfl, h0, r0⟩ := trodAll_cons hA
  obtain ⟨rfl, rfl, rfl⟩ := trodAll_nil r0
  obtain rfl : args = #[v0] := by cases args; simp_all
  obtain ⟨rfl, rfl⟩ := trodVars_none hV
  have hb := hb0
  simp only [List.append_nil, Rows.uptoBulkAll] at hb
  obtain ⟨cs0, rfl, hz0⟩ := okWide_struct Tryd.underlying25 (hval 0 25 v0 rfl rfl)
  have k0 := h0
  have lt0 : ∀ x ∈ p0, x.block < W.heap.size := by obtain ⟨m, hm⟩ := k0; exact DataW.trod_lt m _ _ _ hm
  obtain ⟨x0, A0, c0, B0, d_0, hF0, hcs0, hC0, hl0, hD0, hm0, hM0⟩ := open_TB rfl h0 hsz (j := 0) (t := 25) rfl rfl
  obtain rfl : cs0 = #[.int .i64 x0.f0, .string x0.f1, .string x0.f2, .slice A0 x0.f3.length c0, .slice B0 x0.f4.length d_0] := by cases cs0; simpa [Value.cells] using hcs0
  clear hA0 hval0 hsz0
  refine (PDom.text_walk x0 A0 c0 B0 d_0 W hF0 hC0 hl0 hD0 hm0 (by omega)).mono fun e W' ⟨he, bel⟩ => ?_
  subst he
  exact ⟨_, rfl, _, _, _, [], _, [], hW', trodAll_mk1 (shut_bool Tryd.underlying4 _), (trodAll_cons_mk (Below.trod laidOut (by kernel_rfl) (of_decide_eq_true (by kernel_rfl)) k0 bel lt0) trodAll_mk0), rfl, bel.frame _, fun h => by cases h⟩
theorem reads (os : Os) {H : Type} (enc : TypeId × Value → H) : ∃ places, DataW.whole enc Tryd.prog ((laidWorld os).forCall (fun _ _ => 0) ⟨#[], #[.agg #[.int .i64 0, .string ByteArray.empty, .string ByteArray.empty, .slice none 0 0, .slice none 0 0]], []⟩).memory Tryd.f3.params.toList Rows.fnDomTextSpec.vars false #[.agg #[.int .i64 0, .string ByteArray.empty, .string ByteArray.empty, .slice none 0 0, .slice none 0 0]].toList 8 = some ([.agg [.lit (.int .i64 0), .lit (.string []), .lit (.string []), .nil, .nil]], [], places) :=
  ⟨[], by kernel_rfl⟩
set_option maxRecDepth 100000 in
theorem lifted (os : Os) (started : os.Started) (H : Type) (enc : TypeId × Value → H) (F : Stop.Interp) :
    ReturnsInHanded {} Tryd.checked os 3 .any ((Rows.OpenSpec.upto Rows.fnDomTextSpec).preRow enc Tryd.prog Tryd.f3 Rows.fnDomTextUptoRow.domain false Rows.fnDomTextUptoRow.laid) (((Rows.OpenSpec.upto Rows.fnDomTextSpec).at F).post enc Tryd.prog Tryd.f3 false true false false) := by
  obtain ⟨places, hx⟩ := reads os enc
  refine returnsInHanded_of_row (C := Tryd.checked) (s := Rows.OpenSpec.upto Rows.fnDomTextSpec) own started (by kernel_rfl) Tryd.func3
    (witness_row_atRef (enc := enc) (C := Tryd.checked) false (laidWorld os) #[.agg #[.int .i64 0, .string ByteArray.empty, .string ByteArray.empty, .slice none 0 0, .slice none 0 0]] rfl (by kernel_rfl) (by kernel_rfl) (by kernel_rfl)
      (OpenSpec.preRow_of_cond 8 hx (by kernel_rfl) (fun k hk => by cases hk; kernel_rfl) (by kernel_rfl) (laid_met os _))) ?_
  intro W base args ds gs before hval hW _ hcond hsz _ _ _
  exact contract H enc W base args ds gs before hval hW hsz (hcond _ rfl)
theorem over : Rows.fnDomTextUptoRow.holds Tryd.pinned (Rows.OpenSpec.upto Rows.fnDomTextSpec) :=
  OpenClaim.holds_of_cond 3 Tryd.f3 rfl rfl rfl rfl rfl rfl rfl ⟨rfl, rfl, rfl, rfl, rfl⟩ rfl rfl rfl rfl rfl (by kernel_rfl) Tryd.func3 (by kernel_rfl)
    (of_decide_eq_true (by kernel_rfl)) (by unfold Func.isWrapper; first | (rw [if_pos (by decide +kernel)]; kernel_rfl) | (rw [if_neg (by decide +kernel)]; exact ⟨rfl, rfl⟩))
    (fun os started H enc _ F => by rw [OpenClaim.pre_eq_preRow]; exact lifted os started H enc F)
theorem proved : Rows.FnDomTextUptoCardSaid :=
  Claim7.holds_tied_plain_at .later [] [.sentinel] true (true, "f827e1f945728a26ba5288b95a9c86fd9f8e34eaff24a1c3828cfb0b9ef59399") false
    over (fun _ h => by cases h) (by kernel_rfl) (fun _ h => by cases h) fnDomTextUpto_row_tie rfl ⟨rfl, rfl⟩ (by kernel_rfl) rfl
    (fun f fn hf hfn => by
      obtain rfl : f = 3 := Option.some.inj ((show Tryd.prog.funcNamed "pub-ligature/laws.FnDomText" = some 3 by kernel_rfl).symm.trans hf) |>.symm
      obtain rfl : fn = Tryd.f3 := (Option.some.inj (Tryd.func3.symm.trans hfn)).symm
      exact ⟨by kernel_rfl, fun j t ht => by
        rw [Tryd.params3] at ht
        have hm : t ∈ [25] := by
          have := Array.mem_of_getElem? ht
          simpa using this
        simp only [List.mem_cons, List.mem_nil_iff, or_false] at hm
        rcases hm with rfl
        · exact (show Tryd.prog.wantsStandIn 25 = false by kernel_rfl)⟩)
    (by kernel_rfl)
#print axioms proved
end Go.Proofs.YtibfoaahdbdogaaDoor.fnDomTextUpto
namespace Go.Proofs.YtibfoaahdbdogaaDoor
/-- The card, under a short name, for the claim. -/
theorem fnDomTextUpto_holds : Rows.FnDomTextUptoCardSaid := fnDomTextUpto.proved
end Go.Proofs.YtibfoaahdbdogaaDoor
