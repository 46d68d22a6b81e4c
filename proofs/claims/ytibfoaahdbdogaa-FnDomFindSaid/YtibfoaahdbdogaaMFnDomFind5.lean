/- A part of the proof of FnDomFind: FDomFind, PureFind, one behind the other. -/
import Derived.Test.YtibfoaahdbdogaaMFnDomFind2
import Derived.Test.YtibfoaahdbdogaaMFnDomFind4
import Derived.Test.YtibfoaahdbdogaaMFnDomFind3
/- Printed by the program extprint.py of this session, out of the kit's print and contracts of this session's own; Lean checks it. -/
namespace Go.Proofs.Ytibfoaahdbdogaa.PDom
open Go.RowKit Go.Proofs.YtibfoaahdbdogaaW.PrintWords Go.Proofs.YtibfoaahdbdogaaW.PrintLast Go.Proofs.YtibfoaahdbdogaaW.PrintMore
attribute [local go_sem] max2_int min2_int max_two min_two max_three min_three max_four min_four   -- for this text's walks alone
set_option linter.unusedVariables false
set_option linter.unusedSimpArgs false


/-! ### laws_FnDomFind: function 5 -/
mutual
def laws_FnDomFind.j0 : Nat → List Int → List ByteArray → Bool → Int → ByteArray → ByteArray → List (S78) → List (S25) → Option (Bool)
  | 0, _, _, _, _, _, _, _, _ => none
  | k + 1, x1, x2, x32, x170000, x170001, x170002, x170003, x170004 => if x32 = true then (some true) else ((laws_tree29.f k x170000 x170001 x170002 x170003 x170004).bind fun t172 => (if t172 = true then (laws_FnDomFind.l0 k x1 x2 x2 (x2.length : Int) 0 x170000 x170001 x170002 x170003 x170004) else (some true)))
def laws_FnDomFind.l0 : Nat → List Int → List ByteArray → List ByteArray → Int → Int → Int → ByteArray → ByteArray → List (S78) → List (S25) → Option (Bool)
  | 0, _, _, _, _, _, _, _, _, _, _ => none
  | k + 1, x1, x2, x36, x37, x38, x170000, x170001, x170002, x170003, x170004 => if x38 < x37 then (if 0 ≤ x38 then (if x38 < (x36.length : Int) then ((laws_name29.f k (rdOf ByteArray.empty x36 x38)).bind fun t174 => (if t174 = true then (laws_FnDomFind.l0 k x1 x2 x36 x37 (wrap64 (x38 + 1)) x170000 x170001 x170002 x170003 x170004) else (some true))) else (none)) else (none)) else ((spec_At29.f k x170000 x170001 x170002 x170003 x170004 x1).bind fun bt175 => (if bt175.2.2.2.2.2 = true then ((spec_Walk29.f k bt175.1 bt175.2.1 bt175.2.2.1 bt175.2.2.2.1 bt175.2.2.2.2.1 ([] : List Int)).bind fun t186 => (if 1 ≤ (t186.length : Int) then ((some (t186.drop 1 : List (List Int))).bind fun y189 => (laws_FnDomFind.l1 k x1 x2 bt175.2.2.2.2.2 ([] : List (List Int)) y189 (y189.length : Int) 0 x170000 x170001 x170002 x170003 x170004 bt175.1 bt175.2.1 bt175.2.2.1 bt175.2.2.2.1 bt175.2.2.2.2.1)) else (none))) else (laws_FnDomFind.j3 k x1 x2 bt175.2.2.2.2.2 ([] : List (List Int)) x170000 x170001 x170002 x170003 x170004)))
def laws_FnDomFind.j3 : Nat → List Int → List ByteArray → Bool → List (List Int) → Int → ByteArray → ByteArray → List (S78) → List (S25) → Option (Bool)
  | 0, _, _, _, _, _, _, _, _, _ => none
  | k + 1, x1, x2, x10, x11, x170000, x170001, x170002, x170003, x170004 => (impl_FindAll.f k x170000 x170001 x170002 x170003 x170004 x1 x2).bind fun bt219 => ((impl_FindFirst.f k x170000 x170001 x170002 x170003 x170004 x1 x2).bind fun bt223 => (if (bt219.2 != x10) = true then (laws_FnDomFind.j4 k x11 bt223.1 bt223.2 true) else ((laws_paths29.f k bt219.1 x11).bind fun t227 => (if t227 = true then (if (bt223.2 != (decide ((x11.length : Int) > 0))) = true then (laws_FnDomFind.j4 k x11 bt223.1 bt223.2 true) else ((impl_Contains.f k x170000 x170001 x170002 x170003 x170004 x1 x2).bind fun t228 => (laws_FnDomFind.j4 k x11 bt223.1 bt223.2 (t228 != bt223.2)))) else (laws_FnDomFind.j4 k x11 bt223.1 bt223.2 true)))))
def laws_FnDomFind.j4 : Nat → List (List Int) → List Int → Bool → Bool → Option (Bool)
  | 0, _, _, _, _ => none
  | k + 1, x11, x18, x19, x116 => if x116 = true then (some false) else (if x19 = true then (if 0 < (x11.length : Int) then ((laws_path29.f k x18 (rd_L5 x11 0)).bind fun t230 => (if t230 = true then ((laws_living29.f k).bind fun t231 => (some t231)) else (some false))) else (none)) else ((laws_living29.f k).bind fun t232 => (some t232)))
def laws_FnDomFind.l1 : Nat → List Int → List ByteArray → Bool → List (List Int) → List (List Int) → Int → Int → Int → ByteArray → ByteArray → List (S78) → List (S25) → Int → ByteArray → ByteArray → List (S78) → List (S25) → Option (Bool)
  | 0, _, _, _, _, _, _, _, _, _, _, _, _, _, _, _, _, _ => none
  | k + 1, x1, x2, x10, x11, x55, x56, x57, x170000, x170001, x170002, x170003, x170004, x186000, x186001, x186002, x186003, x186004 => if x57 < x56 then (if 0 ≤ x57 then (if x57 < (x55.length : Int) then ((spec_At29.f k x186000 x186001 x186002 x186003 x186004 (rd_L5 x55 x57)).bind fun bt195 => ((laws_among29.f k bt195.1 bt195.2.1 bt195.2.2.1 bt195.2.2.2.1 bt195.2.2.2.2.1 x2).bind fun t206 => (if t206 = true then ((some (([] : List Int) : List Int)).bind fun y207 => (if y207.length + x1.length < 17592186044416 then ((some (y207 ++ x1 : List Int)).bind fun y210 => (if y210.length + (rd_L5 x55 x57).length < 17592186044416 then (if x11.length < 5864062014805 then (laws_FnDomFind.l1 k x1 x2 x10 (x11 ++ [(y210 ++ (rd_L5 x55 x57))]) x55 x56 (wrap64 (x57 + 1)) x170000 x170001 x170002 x170003 x170004 x186000 x186001 x186002 x186003 x186004) else (none)) else (none))) else (none))) else (laws_FnDomFind.l1 k x1 x2 x10 x11 x55 x56 (wrap64 (x57 + 1)) x170000 x170001 x170002 x170003 x170004 x186000 x186001 x186002 x186003 x186004)))) else (none)) else (none)) else (laws_FnDomFind.j3 k x1 x2 x10 x11 x170000 x170001 x170002 x170003 x170004)
end
def laws_FnDomFind.f (k : Nat) (a0_0 : Int) (a0_1 : ByteArray) (a0_2 : ByteArray) (l0_3 : List (S78)) (l0_4 : List (S25)) (l1 : List Int) (l2 : List ByteArray) : Option (Bool) := (laws_zzFits2.f k a0_0 a0_1 a0_2 l0_3 l0_4).bind fun t170 => (if t170 = true then (if (l1.length : Int) > 2147483647 then (laws_FnDomFind.j0 k l1 l2 true a0_0 a0_1 a0_2 l0_3 l0_4) else ((laws_zzFits5.f k l2).bind fun t171 => (laws_FnDomFind.j0 k l1 l2 (!t171) a0_0 a0_1 a0_2 l0_3 l0_4))) else (laws_FnDomFind.j0 k l1 l2 true a0_0 a0_1 a0_2 l0_3 l0_4))
theorem laws_FnDomFind.mono_l : ∀ k, (∀ y0 y1 y2 y3 y4 y5 y6 y7, LeO (laws_FnDomFind.j0 k y0 y1 y2 y3 y4 y5 y6 y7) (laws_FnDomFind.j0 (k + 1) y0 y1 y2 y3 y4 y5 y6 y7)) ∧ (∀ y0 y1 y2 y3 y4 y5 y6 y7 y8 y9, LeO (laws_FnDomFind.l0 k y0 y1 y2 y3 y4 y5 y6 y7 y8 y9) (laws_FnDomFind.l0 (k + 1) y0 y1 y2 y3 y4 y5 y6 y7 y8 y9)) ∧ (∀ y0 y1 y2 y3 y4 y5 y6 y7 y8, LeO (laws_FnDomFind.j3 k y0 y1 y2 y3 y4 y5 y6 y7 y8) (laws_FnDomFind.j3 (k + 1) y0 y1 y2 y3 y4 y5 y6 y7 y8)) ∧ (∀ y0 y1 y2 y3, LeO (laws_FnDomFind.j4 k y0 y1 y2 y3) (laws_FnDomFind.j4 (k + 1) y0 y1 y2 y3)) ∧ (∀ y0 y1 y2 y3 y4 y5 y6 y7 y8 y9 y10 y11 y12 y13 y14 y15 y16, LeO (laws_FnDomFind.l1 k y0 y1 y2 y3 y4 y5 y6 y7 y8 y9 y10 y11 y12 y13 y14 y15 y16) (laws_FnDomFind.l1 (k + 1) y0 y1 y2 y3 y4 y5 y6 y7 y8 y9 y10 y11 y12 y13 y14 y15 y16))
  | 0 => ⟨fun _ _ _ _ _ _ _ _ r h => by simp [laws_FnDomFind.j0] at h, fun _ _ _ _ _ _ _ _ _ _ r h => by simp [laws_FnDomFind.l0] at h, fun _ _ _ _ _ _ _ _ _ r h => by simp [laws_FnDomFind.j3] at h, fun _ _ _ _ r h => by simp [laws_FnDomFind.j4] at h, fun _ _ _ _ _ _ _ _ _ _ _ _ _ _ _ _ _ r h => by simp [laws_FnDomFind.l1] at h⟩
  | k + 1 => by
    obtain ⟨ih0, ih1, ih2, ih3, ih4⟩ := laws_FnDomFind.mono_l k
    refine ⟨?_, ?_, ?_, ?_, ?_⟩
    · intro y0 y1 y2 y3 y4 y5 y6 y7
      unfold laws_FnDomFind.j0
      repeat' first
      | (with_reducible exact ih0 _ _ _ _ _ _ _ _)
      | (with_reducible exact ih1 _ _ _ _ _ _ _ _ _ _)
      | (with_reducible exact ih2 _ _ _ _ _ _ _ _ _)
      | (with_reducible exact ih3 _ _ _ _)
      | (with_reducible exact ih4 _ _ _ _ _ _ _ _ _ _ _ _ _ _ _ _ _)
      | (with_reducible exact impl_Contains.mono _ _ _ _ _ _ _ _)
      | (with_reducible exact impl_FindAll.mono _ _ _ _ _ _ _ _)
      | (with_reducible exact impl_FindFirst.mono _ _ _ _ _ _ _ _)
      | (with_reducible exact laws_among29.mono _ _ _ _ _ _ _)
      | (with_reducible exact laws_living29.mono _)
      | (with_reducible exact laws_name29.mono _ _)
      | (with_reducible exact laws_path29.mono _ _ _)
      | (with_reducible exact laws_paths29.mono _ _ _)
      | (with_reducible exact laws_tree29.mono _ _ _ _ _ _)
      | (with_reducible exact laws_zzFits2.mono _ _ _ _ _ _)
      | (with_reducible exact laws_zzFits5.mono _ _)
      | (with_reducible exact spec_At29.mono _ _ _ _ _ _ _)
      | (with_reducible exact spec_Walk29.mono _ _ _ _ _ _ _)
      | (with_reducible exact LeO.refl _)
      | (with_reducible exact LeO.none _)
      | (with_reducible refine LeO.ite ?_ ?_)
      | (with_reducible refine LeO.bind ?_ (fun _ => ?_))
      | exact ih0 _ _ _ _ _ _ _ _
      | exact ih1 _ _ _ _ _ _ _ _ _ _
      | exact ih2 _ _ _ _ _ _ _ _ _
      | exact ih3 _ _ _ _
      | exact ih4 _ _ _ _ _ _ _ _ _ _ _ _ _ _ _ _ _
      | exact impl_Contains.mono _ _ _ _ _ _ _ _
      | exact impl_FindAll.mono _ _ _ _ _ _ _ _
      | exact impl_FindFirst.mono _ _ _ _ _ _ _ _
      | exact laws_among29.mono _ _ _ _ _ _ _
      | exact laws_living29.mono _
      | exact laws_name29.mono _ _
      | exact laws_path29.mono _ _ _
      | exact laws_paths29.mono _ _ _
      | exact laws_tree29.mono _ _ _ _ _ _
      | exact laws_zzFits2.mono _ _ _ _ _ _
      | exact laws_zzFits5.mono _ _
      | exact spec_At29.mono _ _ _ _ _ _ _
      | exact spec_Walk29.mono _ _ _ _ _ _ _
      | exact LeO.none _
      | refine LeO.ite ?_ ?_
      | refine LeO.bind ?_ (fun _ => ?_)
    · intro y0 y1 y2 y3 y4 y5 y6 y7 y8 y9
      unfold laws_FnDomFind.l0
      repeat' first
      | (with_reducible exact ih0 _ _ _ _ _ _ _ _)
      | (with_reducible exact ih1 _ _ _ _ _ _ _ _ _ _)
      | (with_reducible exact ih2 _ _ _ _ _ _ _ _ _)
      | (with_reducible exact ih3 _ _ _ _)
      | (with_reducible exact ih4 _ _ _ _ _ _ _ _ _ _ _ _ _ _ _ _ _)
      | (with_reducible exact impl_Contains.mono _ _ _ _ _ _ _ _)
      | (with_reducible exact impl_FindAll.mono _ _ _ _ _ _ _ _)
      | (with_reducible exact impl_FindFirst.mono _ _ _ _ _ _ _ _)
      | (with_reducible exact laws_among29.mono _ _ _ _ _ _ _)
      | (with_reducible exact laws_living29.mono _)
      | (with_reducible exact laws_name29.mono _ _)
      | (with_reducible exact laws_path29.mono _ _ _)
      | (with_reducible exact laws_paths29.mono _ _ _)
      | (with_reducible exact laws_tree29.mono _ _ _ _ _ _)
      | (with_reducible exact laws_zzFits2.mono _ _ _ _ _ _)
      | (with_reducible exact laws_zzFits5.mono _ _)
      | (with_reducible exact spec_At29.mono _ _ _ _ _ _ _)
      | (with_reducible exact spec_Walk29.mono _ _ _ _ _ _ _)
      | (with_reducible exact LeO.refl _)
      | (with_reducible exact LeO.none _)
      | (with_reducible refine LeO.ite ?_ ?_)
      | (with_reducible refine LeO.bind ?_ (fun _ => ?_))
      | exact ih0 _ _ _ _ _ _ _ _
      | exact ih1 _ _ _ _ _ _ _ _ _ _
      | exact ih2 _ _ _ _ _ _ _ _ _
      | exact ih3 _ _ _ _
      | exact ih4 _ _ _ _ _ _ _ _ _ _ _ _ _ _ _ _ _
      | exact impl_Contains.mono _ _ _ _ _ _ _ _
      | exact impl_FindAll.mono _ _ _ _ _ _ _ _
      | exact impl_FindFirst.mono _ _ _ _ _ _ _ _
      | exact laws_among29.mono _ _ _ _ _ _ _
      | exact laws_living29.mono _
      | exact laws_name29.mono _ _
      | exact laws_path29.mono _ _ _
      | exact laws_paths29.mono _ _ _
      | exact laws_tree29.mono _ _ _ _ _ _
      | exact laws_zzFits2.mono _ _ _ _ _ _
      | exact laws_zzFits5.mono _ _
      | exact spec_At29.mono _ _ _ _ _ _ _
      | exact spec_Walk29.mono _ _ _ _ _ _ _
      | exact LeO.none _
      | refine LeO.ite ?_ ?_
      | refine LeO.bind ?_ (fun _ => ?_)
    · intro y0 y1 y2 y3 y4 y5 y6 y7 y8
      unfold laws_FnDomFind.j3
      repeat' first
      | (with_reducible exact ih0 _ _ _ _ _ _ _ _)
      | (with_reducible exact ih1 _ _ _ _ _ _ _ _ _ _)
      | (with_reducible exact ih2 _ _ _ _ _ _ _ _ _)
      | (with_reducible exact ih3 _ _ _ _)
      | (with_reducible exact ih4 _ _ _ _ _ _ _ _ _ _ _ _ _ _ _ _ _)
      | (with_reducible exact impl_Contains.mono _ _ _ _ _ _ _ _)
      | (with_reducible exact impl_FindAll.mono _ _ _ _ _ _ _ _)
      | (with_reducible exact impl_FindFirst.mono _ _ _ _ _ _ _ _)
      | (with_reducible exact laws_among29.mono _ _ _ _ _ _ _)
      | (with_reducible exact laws_living29.mono _)
      | (with_reducible exact laws_name29.mono _ _)
      | (with_reducible exact laws_path29.mono _ _ _)
      | (with_reducible exact laws_paths29.mono _ _ _)
      | (with_reducible exact laws_tree29.mono _ _ _ _ _ _)
      | (with_reducible exact laws_zzFits2.mono _ _ _ _ _ _)
      | (with_reducible exact laws_zzFits5.mono _ _)
      | (with_reducible exact spec_At29.mono _ _ _ _ _ _ _)
      | (with_reducible exact spec_Walk29.mono _ _ _ _ _ _ _)
      | (with_reducible exact LeO.refl _)
      | (with_reducible exact LeO.none _)
      | (with_reducible refine LeO.ite ?_ ?_)
      | (with_reducible refine LeO.bind ?_ (fun _ => ?_))
      | exact ih0 _ _ _ _ _ _ _ _
      | exact ih1 _ _ _ _ _ _ _ _ _ _
      | exact ih2 _ _ _ _ _ _ _ _ _
      | exact ih3 _ _ _ _
      | exact ih4 _ _ _ _ _ _ _ _ _ _ _ _ _ _ _ _ _
      | exact impl_Contains.mono _ _ _ _ _ _ _ _
      | exact impl_FindAll.mono _ _ _ _ _ _ _ _
      | exact impl_FindFirst.mono _ _ _ _ _ _ _ _
      | exact laws_among29.mono _ _ _ _ _ _ _
      | exact laws_living29.mono _
      | exact laws_name29.mono _ _
      | exact laws_path29.mono _ _ _
      | exact laws_paths29.mono _ _ _
      | exact laws_tree29.mono _ _ _ _ _ _
      | exact laws_zzFits2.mono _ _ _ _ _ _
      | exact laws_zzFits5.mono _ _
      | exact spec_At29.mono _ _ _ _ _ _ _
      | exact spec_Walk29.mono _ _ _ _ _ _ _
      | exact LeO.none _
      | refine LeO.ite ?_ ?_
      | refine LeO.bind ?_ (fun _ => ?_)
    · intro y0 y1 y2 y3
      unfold laws_FnDomFind.j4
      repeat' first
      | (with_reducible exact ih0 _ _ _ _ _ _ _ _)
      | (with_reducible exact ih1 _ _ _ _ _ _ _ _ _ _)
      | (with_reducible exact ih2 _ _ _ _ _ _ _ _ _)
      | (with_reducible exact ih3 _ _ _ _)
      | (with_reducible exact ih4 _ _ _ _ _ _ _ _ _ _ _ _ _ _ _ _ _)
      | (with_reducible exact impl_Contains.mono _ _ _ _ _ _ _ _)
      | (with_reducible exact impl_FindAll.mono _ _ _ _ _ _ _ _)
      | (with_reducible exact impl_FindFirst.mono _ _ _ _ _ _ _ _)
      | (with_reducible exact laws_among29.mono _ _ _ _ _ _ _)
      | (with_reducible exact laws_living29.mono _)
      | (with_reducible exact laws_name29.mono _ _)
      | (with_reducible exact laws_path29.mono _ _ _)
      | (with_reducible exact laws_paths29.mono _ _ _)
      | (with_reducible exact laws_tree29.mono _ _ _ _ _ _)
      | (with_reducible exact laws_zzFits2.mono _ _ _ _ _ _)
      | (with_reducible exact laws_zzFits5.mono _ _)
      | (with_reducible exact spec_At29.mono _ _ _ _ _ _ _)
      | (with_reducible exact spec_Walk29.mono _ _ _ _ _ _ _)
      | (with_reducible exact LeO.refl _)
      | (with_reducible exact LeO.none _)
      | (with_reducible refine LeO.ite ?_ ?_)
      | (with_reducible refine LeO.bind ?_ (fun _ => ?_))
      | exact ih0 _ _ _ _ _ _ _ _
      | exact ih1 _ _ _ _ _ _ _ _ _ _
      | exact ih2 _ _ _ _ _ _ _ _ _
      | exact ih3 _ _ _ _
      | exact ih4 _ _ _ _ _ _ _ _ _ _ _ _ _ _ _ _ _
      | exact impl_Contains.mono _ _ _ _ _ _ _ _
      | exact impl_FindAll.mono _ _ _ _ _ _ _ _
      | exact impl_FindFirst.mono _ _ _ _ _ _ _ _
      | exact laws_among29.mono _ _ _ _ _ _ _
      | exact laws_living29.mono _
      | exact laws_name29.mono _ _
      | exact laws_path29.mono _ _ _
      | exact laws_paths29.mono _ _ _
      | exact laws_tree29.mono _ _ _ _ _ _
      | exact laws_zzFits2.mono _ _ _ _ _ _
      | exact laws_zzFits5.mono _ _
      | exact spec_At29.mono _ _ _ _ _ _ _
      | exact spec_Walk29.mono _ _ _ _ _ _ _
      | exact LeO.none _
      | refine LeO.ite ?_ ?_
      | refine LeO.bind ?_ (fun _ => ?_)
    · intro y0 y1 y2 y3 y4 y5 y6 y7 y8 y9 y10 y11 y12 y13 y14 y15 y16
      unfold laws_FnDomFind.l1
      repeat' first
      | (with_reducible exact ih0 _ _ _ _ _ _ _ _)
      | (with_reducible exact ih1 _ _ _ _ _ _ _ _ _ _)
      | (with_reducible exact ih2 _ _ _ _ _ _ _ _ _)
      | (with_reducible exact ih3 _ _ _ _)
      | (with_reducible exact ih4 _ _ _ _ _ _ _ _ _ _ _ _ _ _ _ _ _)
      | (with_reducible exact impl_Contains.mono _ _ _ _ _ _ _ _)
      | (with_reducible exact impl_FindAll.mono _ _ _ _ _ _ _ _)
      | (with_reducible exact impl_FindFirst.mono _ _ _ _ _ _ _ _)
      | (with_reducible exact laws_among29.mono _ _ _ _ _ _ _)
      | (with_reducible exact laws_living29.mono _)
      | (with_reducible exact laws_name29.mono _ _)
      | (with_reducible exact laws_path29.mono _ _ _)
      | (with_reducible exact laws_paths29.mono _ _ _)
      | (with_reducible exact laws_tree29.mono _ _ _ _ _ _)
      | (with_reducible exact laws_zzFits2.mono _ _ _ _ _ _)
      | (with_reducible exact laws_zzFits5.mono _ _)
      | (with_reducible exact spec_At29.mono _ _ _ _ _ _ _)
      | (with_reducible exact spec_Walk29.mono _ _ _ _ _ _ _)
      | (with_reducible exact LeO.refl _)
      | (with_reducible exact LeO.none _)
      | (with_reducible refine LeO.ite ?_ ?_)
      | (with_reducible refine LeO.bind ?_ (fun _ => ?_))
      | exact ih0 _ _ _ _ _ _ _ _
      | exact ih1 _ _ _ _ _ _ _ _ _ _
      | exact ih2 _ _ _ _ _ _ _ _ _
      | exact ih3 _ _ _ _
      | exact ih4 _ _ _ _ _ _ _ _ _ _ _ _ _ _ _ _ _
      | exact impl_Contains.mono _ _ _ _ _ _ _ _
      | exact impl_FindAll.mono _ _ _ _ _ _ _ _
      | exact impl_FindFirst.mono _ _ _ _ _ _ _ _
      | exact laws_among29.mono _ _ _ _ _ _ _
      | exact laws_living29.mono _
      | exact laws_name29.mono _ _
      | exact laws_path29.mono _ _ _
      | exact laws_paths29.mono _ _ _
      | exact laws_tree29.mono _ _ _ _ _ _
      | exact laws_zzFits2.mono _ _ _ _ _ _
      | exact laws_zzFits5.mono _ _
      | exact spec_At29.mono _ _ _ _ _ _ _
      | exact spec_Walk29.mono _ _ _ _ _ _ _
      | exact LeO.none _
      | refine LeO.ite ?_ ?_
      | refine LeO.bind ?_ (fun _ => ?_)
theorem laws_FnDomFind.mono : ∀ a0 a1 a2 a3 a4 a5 a6 k, LeO (laws_FnDomFind.f k a0 a1 a2 a3 a4 a5 a6) (laws_FnDomFind.f (k + 1) a0 a1 a2 a3 a4 a5 a6) := by
  intro a0 a1 a2 a3 a4 a5 a6 k
  obtain ⟨ih0, ih1, ih2, ih3, ih4⟩ := laws_FnDomFind.mono_l k
  unfold laws_FnDomFind.f
  repeat' first
      | (with_reducible exact ih0 _ _ _ _ _ _ _ _)
      | (with_reducible exact ih1 _ _ _ _ _ _ _ _ _ _)
      | (with_reducible exact ih2 _ _ _ _ _ _ _ _ _)
      | (with_reducible exact ih3 _ _ _ _)
      | (with_reducible exact ih4 _ _ _ _ _ _ _ _ _ _ _ _ _ _ _ _ _)
      | (with_reducible exact impl_Contains.mono _ _ _ _ _ _ _ _)
      | (with_reducible exact impl_FindAll.mono _ _ _ _ _ _ _ _)
      | (with_reducible exact impl_FindFirst.mono _ _ _ _ _ _ _ _)
      | (with_reducible exact laws_among29.mono _ _ _ _ _ _ _)
      | (with_reducible exact laws_living29.mono _)
      | (with_reducible exact laws_name29.mono _ _)
      | (with_reducible exact laws_path29.mono _ _ _)
      | (with_reducible exact laws_paths29.mono _ _ _)
      | (with_reducible exact laws_tree29.mono _ _ _ _ _ _)
      | (with_reducible exact laws_zzFits2.mono _ _ _ _ _ _)
      | (with_reducible exact laws_zzFits5.mono _ _)
      | (with_reducible exact spec_At29.mono _ _ _ _ _ _ _)
      | (with_reducible exact spec_Walk29.mono _ _ _ _ _ _ _)
      | (with_reducible exact LeO.refl _)
      | (with_reducible exact LeO.none _)
      | (with_reducible refine LeO.ite ?_ ?_)
      | (with_reducible refine LeO.bind ?_ (fun _ => ?_))
      | exact ih0 _ _ _ _ _ _ _ _
      | exact ih1 _ _ _ _ _ _ _ _ _ _
      | exact ih2 _ _ _ _ _ _ _ _ _
      | exact ih3 _ _ _ _
      | exact ih4 _ _ _ _ _ _ _ _ _ _ _ _ _ _ _ _ _
      | exact impl_Contains.mono _ _ _ _ _ _ _ _
      | exact impl_FindAll.mono _ _ _ _ _ _ _ _
      | exact impl_FindFirst.mono _ _ _ _ _ _ _ _
      | exact laws_among29.mono _ _ _ _ _ _ _
      | exact laws_living29.mono _
      | exact laws_name29.mono _ _
      | exact laws_path29.mono _ _ _
      | exact laws_paths29.mono _ _ _
      | exact laws_tree29.mono _ _ _ _ _ _
      | exact laws_zzFits2.mono _ _ _ _ _ _
      | exact laws_zzFits5.mono _ _
      | exact spec_At29.mono _ _ _ _ _ _ _
      | exact spec_Walk29.mono _ _ _ _ _ _ _
      | exact LeO.none _
      | refine LeO.ite ?_ ?_
      | refine LeO.bind ?_ (fun _ => ?_)
set_option maxHeartbeats 8000000 in
set_option maxRecDepth 100000 in
theorem laws_FnDomFind.calls (k : Nat) (a0_0 : Int) (a0_1 : ByteArray) (a0_2 : ByteArray) (A0_3 : Option Addr) (c0_3 : Nat) (l0_3 : List (S78)) (A0_4 : Option Addr) (c0_4 : Nat) (l0_4 : List (S25)) (A1 : Option Addr) (c1 : Nat) (l1 : List Int) (A2 : Option Addr) (c2 : Nat) (l2 : List ByteArray) (r : Bool) (w : World) (hr0_3 : Kd.C k78 w A0_3 l0_3.length l0_3) (hc0_3 : l0_3.length ≤ c0_3) (hr0_4 : Kd.C k25 w A0_4 l0_4.length l0_4) (hc0_4 : l0_4.length ≤ c0_4) (hr1 : Kd.C (Kd.int .i64) w A1 l1.length l1) (hc1 : l1.length ≤ c1) (hr2 : Kd.C Kd.string w A2 l2.length l2) (hc2 : l2.length ≤ c2) (h : laws_FnDomFind.f k a0_0 a0_1 a0_2 l0_3 l0_4 l1 l2 = some r) :
    Calls Try.prog 5 #[.agg #[.int .i64 a0_0, .string a0_1, .string a0_2, .slice A0_3 l0_3.length c0_3, .slice A0_4 l0_4.length c0_4], .slice A1 l1.length c1, .slice A2 l2.length c2] w fun e w' => e = .returned (.bool r) ∧ Below w.heap.size w w' := by
  have hu25 := Try.underlying25
  have HR0_3 := Aside0.mk hr0_3
  have HC0_3 := Aside0.mk hc0_3
  clear hr0_3 hc0_3
  have HR0_4 := Aside0.mk hr0_4
  have HC0_4 := Aside0.mk hc0_4
  clear hr0_4 hc0_4
  have HR1 := Aside0.mk hr1
  have HC1 := Aside0.mk hc1
  clear hr1 hc1
  have HR2 := Aside0.mk hr2
  have HC2 := Aside0.mk hc2
  clear hr2 hc2
  have HB := Aside0.mk (Below.refl w.heap.size w)
  have H : ((laws_zzFits2.f k a0_0 a0_1 a0_2 l0_3 l0_4).bind fun t170 => (if t170 = true then (if (l1.length : Int) > 2147483647 then (laws_FnDomFind.j0 k l1 l2 true a0_0 a0_1 a0_2 l0_3 l0_4) else ((laws_zzFits5.f k l2).bind fun t171 => (laws_FnDomFind.j0 k l1 l2 (!t171) a0_0 a0_1 a0_2 l0_3 l0_4))) else (laws_FnDomFind.j0 k l1 l2 true a0_0 a0_1 a0_2 l0_3 l0_4))) = some r := h
  clear h
  have HC4 := Aside0.mk H
  clear H
  go_enter Try.func5, Try.ntmps5
  go_upto_region 1 with (first | ((with_reducible refine gate_dst (N := 3) rfl ?_); (try (refine gate_guard (by rfl) ?_; dsimp only)); refine box_event ?hg (N := 3) ?hd (cs := #[.int .i64 a0_0, .string a0_1, .string a0_2, .slice A0_3 l0_3.length c0_3, .slice A0_4 l0_4.length c0_4]) (t := 25) ?hr ?_; (case hd => rfl); (case hg => rfl); (case hr => first | (go_simp; done) | (go_simp; rfl)); intro gb169 hg w5 hbox hb; have n0_ := Aside0.mk (below_step (by repeat (first | (with_reducible first | exact HB.out | apply below_alloc | apply pw_below_drewN | apply below_drew1) | exact HB.out)) hb); have n1_ := Aside0.mk (hbox); have n2_ := Aside0.mk ((by rw [hg]; exact (below_size (by repeat (first | (with_reducible first | exact HB.out | apply below_alloc | apply pw_below_drewN | apply below_drew1) | exact HB.out))) : w.heap.size ≤ gb169)); have n3_ := Aside0.mk ((by rw [hg]; exact (below_size (by repeat (first | (with_reducible first | exact HB.out | apply below_alloc | apply pw_below_drewN | apply below_drew1) | exact HB.out))) : w.heap.size ≤ gb169)); clear HB; have HB := n0_; have BK169 := n1_; have GW169 := n2_; have GE169 := n3_; clear n0_ n1_ n2_ n3_; clear hb hbox hg))
  (try simp only [Act.put, List.setIfInBounds_toArray, List.set_cons_zero, List.set_cons_succ])
  go_cut [32] (fun v32 wc => ∃ (kq : Nat) (x32_3 : Bool), v32 = .bool x32_3 ∧ Aside0 (laws_FnDomFind.j0 kq l1 l2 x32_3 a0_0 a0_1 a0_2 l0_3 l0_4 = some r) ∧ Aside0 (kq ≤ k) ∧ Aside0 (wc.heap[gb169]? = some (.cells #[.int .i64 a0_0, .string a0_1, .string a0_2, (.slice A0_3 l0_3.length c0_3), (.slice A0_4 l0_4.length c0_4)] 25 (0, 0))) ∧ Aside0 (Below w.heap.size w wc))
  case first =>
    have H := HC4.out
    clear HC4
    replace H := Option.bind_eq_some_iff.mp H
    obtain ⟨t170, A60, H⟩ := H
    replace H : (if t170 = true then (if (l1.length : Int) > 2147483647 then (laws_FnDomFind.j0 k l1 l2 true a0_0 a0_1 a0_2 l0_3 l0_4) else ((laws_zzFits5.f k l2).bind fun t171 => (laws_FnDomFind.j0 k l1 l2 (!t171) a0_0 a0_1 a0_2 l0_3 l0_4))) else (laws_FnDomFind.j0 k l1 l2 true a0_0 a0_1 a0_2 l0_3 l0_4)) = some r := H
    have A6 := Aside0.mk A60
    clear A60
    by_cases c7 : t170 = true
    · subst c7
      have H1 : (if (l1.length : Int) > 2147483647 then (laws_FnDomFind.j0 k l1 l2 true a0_0 a0_1 a0_2 l0_3 l0_4) else ((laws_zzFits5.f k l2).bind fun t171 => (laws_FnDomFind.j0 k l1 l2 (!t171) a0_0 a0_1 a0_2 l0_3 l0_4))) = some r := by rw [if_pos rfl] at H; exact H
      clear H
      have H := H1
      clear H1
      by_cases c8 : (l1.length : Int) > 2147483647
      · rw [if_pos c8] at H
        have c8b0 : decide (2147483647 < (l1.length : Int)) = true := decide_eq_true c8
        have c8b1 : decide (2147483647 < l1.length) = true := decide_eq_true (by omega)
        clear c8
        (first | rw [c8b0] | (simp only [i64_w, i32_w]; rw [c8b0]) | skip)
        have H' := Aside0.mk H
        clear H
        have hcz9_0 : w5.cell? ⟨gb169, 0, none⟩ = some (.int .i64 a0_0) := (blk_cell BK169.out 0).trans rfl
        have hcz9_1 : w5.cell? ⟨gb169, 1, none⟩ = some (.string a0_1) := (blk_cell BK169.out 1).trans rfl
        have hcz9_2 : w5.cell? ⟨gb169, 2, none⟩ = some (.string a0_2) := (blk_cell BK169.out 2).trans rfl
        have hcz9_3 : w5.cell? ⟨gb169, 3, none⟩ = some (.slice A0_3 l0_3.length c0_3) := (blk_cell BK169.out 3).trans rfl
        have hcz9_4 : w5.cell? ⟨gb169, 4, none⟩ = some (.slice A0_4 l0_4.length c0_4) := (blk_cell BK169.out 4).trans rfl
        have hfz9_0 := blk_frozen BK169.out 0
        have hfz9_1 := blk_frozen BK169.out 1
        have hfz9_2 := blk_frozen BK169.out 2
        have hfz9_3 := blk_frozen BK169.out 3
        have hfz9_4 := blk_frozen BK169.out 4
        go_wp2_with (first | ((with_reducible refine gate_callee (f := 9) rfl ?_); refine goesL_ (some 21) rfl rfl Try.func9 (by kernel_rfl) rfl #[.agg #[.int .i64 a0_0, .string a0_1, .string a0_2, .slice A0_3 l0_3.length c0_3, .slice A0_4 l0_4.length c0_4]] rfl (by (try simp only [List.map_toArray, List.map_cons, List.map_nil]); first | done | rfl | (simp only [List.length_drop, List.length_take]; rfl)) ?_; (with_reducible refine (laws_zzFits2.calls k a0_0 a0_1 a0_2 _ _ l0_3 _ _ l0_4 true _ ?side1 ?side2 ?side3 ?side4 A6.out).mono ?_); (case side1 => repeat (first | exact (Kd.C_below HR0_3.out HB.out) | (with_reducible refine Kd.C_alloc ?_ _) | (with_reducible refine Kd.C_drewN ?_ _) | (with_reducible refine Kd.C_drew ?_))); (case side2 => exact HC0_3.out); (case side3 => repeat (first | exact (Kd.C_below HR0_4.out HB.out) | (with_reducible refine Kd.C_alloc ?_ _) | (with_reducible refine Kd.C_drewN ?_ _) | (with_reducible refine Kd.C_drew ?_))); (case side4 => exact HC0_4.out); rintro e w10 ⟨rfl, hb⟩; refine ⟨_, rfl, ?_⟩; have n0_ := Aside0.mk (blk_below (g := gb169) (o := .cells #[.int .i64 a0_0, .string a0_1, .string a0_2, .slice A0_3 l0_3.length c0_3, .slice A0_4 l0_4.length c0_4] 25 (0, 0)) (by (with_reducible repeat (first | refine blk_drewN ?_ _ | refine blk_drew ?_ | refine blk_alloc ?_ _)); exact BK169.out) hb); have n1_ := Aside0.mk (below_step (by repeat (first | (with_reducible first | exact HB.out | apply below_alloc | apply pw_below_drewN | apply below_drew1 | refine below_set ?_ GE169.out) | exact HB.out)) hb); clear BK169; clear HB; have BK169 := n0_; have HB := n1_; clear n0_ n1_; (try clear hb); (try clear hb2); (try clear hk); (try clear hi)))
        go_meet
        case rel => exact ⟨_, (true), (by first | rfl | (simp; done) | (simp [*]; done)), H', ⟨by first | omega | exact Nat.le_refl _⟩, ⟨by (with_reducible repeat (first | refine blk_drewN ?_ _ | refine blk_drew ?_ | refine blk_alloc ?_ _)); exact BK169.out⟩, ⟨by repeat (first | (with_reducible first | exact HB.out | apply below_alloc | apply pw_below_drewN | apply below_drew1 | refine below_set ?_ GE169.out) | exact HB.out)⟩⟩
      · rw [if_neg c8] at H
        have c8b0 : decide (2147483647 < (l1.length : Int)) = false := decide_eq_false c8
        have c8b1 : decide (2147483647 < l1.length) = false := decide_eq_false (by omega)
        clear c8
        (first | rw [c8b0] | (simp only [i64_w, i32_w]; rw [c8b0]) | skip)
        replace H := Option.bind_eq_some_iff.mp H
        obtain ⟨t171, A110, H⟩ := H
        replace H : (laws_FnDomFind.j0 k l1 l2 (!t171) a0_0 a0_1 a0_2 l0_3 l0_4) = some r := H
        have A11 := Aside0.mk A110
        clear A110
        have H' := Aside0.mk H
        clear H
        have hcz12_0 : w5.cell? ⟨gb169, 0, none⟩ = some (.int .i64 a0_0) := (blk_cell BK169.out 0).trans rfl
        have hcz12_1 : w5.cell? ⟨gb169, 1, none⟩ = some (.string a0_1) := (blk_cell BK169.out 1).trans rfl
        have hcz12_2 : w5.cell? ⟨gb169, 2, none⟩ = some (.string a0_2) := (blk_cell BK169.out 2).trans rfl
        have hcz12_3 : w5.cell? ⟨gb169, 3, none⟩ = some (.slice A0_3 l0_3.length c0_3) := (blk_cell BK169.out 3).trans rfl
        have hcz12_4 : w5.cell? ⟨gb169, 4, none⟩ = some (.slice A0_4 l0_4.length c0_4) := (blk_cell BK169.out 4).trans rfl
        have hfz12_0 := blk_frozen BK169.out 0
        have hfz12_1 := blk_frozen BK169.out 1
        have hfz12_2 := blk_frozen BK169.out 2
        have hfz12_3 := blk_frozen BK169.out 3
        have hfz12_4 := blk_frozen BK169.out 4
        go_wp2_with (first | ((with_reducible refine gate_callee (f := 9) rfl ?_); refine goesL_ (some 21) rfl rfl Try.func9 (by kernel_rfl) rfl #[.agg #[.int .i64 a0_0, .string a0_1, .string a0_2, .slice A0_3 l0_3.length c0_3, .slice A0_4 l0_4.length c0_4]] rfl (by (try simp only [List.map_toArray, List.map_cons, List.map_nil]); first | done | rfl | (simp only [List.length_drop, List.length_take]; rfl)) ?_; (with_reducible refine (laws_zzFits2.calls k a0_0 a0_1 a0_2 _ _ l0_3 _ _ l0_4 true _ ?side1 ?side2 ?side3 ?side4 A6.out).mono ?_); (case side1 => repeat (first | exact (Kd.C_below HR0_3.out HB.out) | (with_reducible refine Kd.C_alloc ?_ _) | (with_reducible refine Kd.C_drewN ?_ _) | (with_reducible refine Kd.C_drew ?_))); (case side2 => exact HC0_3.out); (case side3 => repeat (first | exact (Kd.C_below HR0_4.out HB.out) | (with_reducible refine Kd.C_alloc ?_ _) | (with_reducible refine Kd.C_drewN ?_ _) | (with_reducible refine Kd.C_drew ?_))); (case side4 => exact HC0_4.out); rintro e w13 ⟨rfl, hb⟩; refine ⟨_, rfl, ?_⟩; have n0_ := Aside0.mk (blk_below (g := gb169) (o := .cells #[.int .i64 a0_0, .string a0_1, .string a0_2, .slice A0_3 l0_3.length c0_3, .slice A0_4 l0_4.length c0_4] 25 (0, 0)) (by (with_reducible repeat (first | refine blk_drewN ?_ _ | refine blk_drew ?_ | refine blk_alloc ?_ _)); exact BK169.out) hb); have n1_ := Aside0.mk (below_step (by repeat (first | (with_reducible first | exact HB.out | apply below_alloc | apply pw_below_drewN | apply below_drew1 | refine below_set ?_ GE169.out) | exact HB.out)) hb); clear BK169; clear HB; have BK169 := n0_; have HB := n1_; clear n0_ n1_; (try clear hb); (try clear hb2); (try clear hk); (try clear hi)) | (go_at_call 15; (with_reducible refine (laws_zzFits5.calls k _ _ l2 t171 _ ?side1 ?side2 A11.out).mono ?_); (case side1 => repeat (first | exact (Kd.C_below HR2.out HB.out) | (with_reducible refine Kd.C_alloc ?_ _) | (with_reducible refine Kd.C_drewN ?_ _) | (with_reducible refine Kd.C_drew ?_))); (case side2 => exact HC2.out); rintro e w' ⟨rfl, ⟨nd, rfl⟩⟩))
        go_meet
        case rel => exact ⟨_, (!t171), (by first | rfl | (simp; done) | (simp [*]; done)), H', ⟨by first | omega | exact Nat.le_refl _⟩, ⟨by (with_reducible repeat (first | refine blk_drewN ?_ _ | refine blk_drew ?_ | refine blk_alloc ?_ _)); exact BK169.out⟩, ⟨by repeat (first | (with_reducible first | exact HB.out | apply below_alloc | apply pw_below_drewN | apply below_drew1 | refine below_set ?_ GE169.out) | exact HB.out)⟩⟩
    · replace c7 := Bool.eq_false_iff.mpr c7
      subst c7
      have H1 : (laws_FnDomFind.j0 k l1 l2 true a0_0 a0_1 a0_2 l0_3 l0_4) = some r := by rw [if_neg (show ¬ (false = true) by decide)] at H; exact H
      clear H
      have H := H1
      clear H1
      have H' := Aside0.mk H
      clear H
      have hcz14_0 : w5.cell? ⟨gb169, 0, none⟩ = some (.int .i64 a0_0) := (blk_cell BK169.out 0).trans rfl
      have hcz14_1 : w5.cell? ⟨gb169, 1, none⟩ = some (.string a0_1) := (blk_cell BK169.out 1).trans rfl
      have hcz14_2 : w5.cell? ⟨gb169, 2, none⟩ = some (.string a0_2) := (blk_cell BK169.out 2).trans rfl
      have hcz14_3 : w5.cell? ⟨gb169, 3, none⟩ = some (.slice A0_3 l0_3.length c0_3) := (blk_cell BK169.out 3).trans rfl
      have hcz14_4 : w5.cell? ⟨gb169, 4, none⟩ = some (.slice A0_4 l0_4.length c0_4) := (blk_cell BK169.out 4).trans rfl
      have hfz14_0 := blk_frozen BK169.out 0
      have hfz14_1 := blk_frozen BK169.out 1
      have hfz14_2 := blk_frozen BK169.out 2
      have hfz14_3 := blk_frozen BK169.out 3
      have hfz14_4 := blk_frozen BK169.out 4
      go_wp2_with (first | ((with_reducible refine gate_callee (f := 9) rfl ?_); refine goesL_ (some 21) rfl rfl Try.func9 (by kernel_rfl) rfl #[.agg #[.int .i64 a0_0, .string a0_1, .string a0_2, .slice A0_3 l0_3.length c0_3, .slice A0_4 l0_4.length c0_4]] rfl (by (try simp only [List.map_toArray, List.map_cons, List.map_nil]); first | done | rfl | (simp only [List.length_drop, List.length_take]; rfl)) ?_; (with_reducible refine (laws_zzFits2.calls k a0_0 a0_1 a0_2 _ _ l0_3 _ _ l0_4 false _ ?side1 ?side2 ?side3 ?side4 A6.out).mono ?_); (case side1 => repeat (first | exact (Kd.C_below HR0_3.out HB.out) | (with_reducible refine Kd.C_alloc ?_ _) | (with_reducible refine Kd.C_drewN ?_ _) | (with_reducible refine Kd.C_drew ?_))); (case side2 => exact HC0_3.out); (case side3 => repeat (first | exact (Kd.C_below HR0_4.out HB.out) | (with_reducible refine Kd.C_alloc ?_ _) | (with_reducible refine Kd.C_drewN ?_ _) | (with_reducible refine Kd.C_drew ?_))); (case side4 => exact HC0_4.out); rintro e w15 ⟨rfl, hb⟩; refine ⟨_, rfl, ?_⟩; have n0_ := Aside0.mk (blk_below (g := gb169) (o := .cells #[.int .i64 a0_0, .string a0_1, .string a0_2, .slice A0_3 l0_3.length c0_3, .slice A0_4 l0_4.length c0_4] 25 (0, 0)) (by (with_reducible repeat (first | refine blk_drewN ?_ _ | refine blk_drew ?_ | refine blk_alloc ?_ _)); exact BK169.out) hb); have n1_ := Aside0.mk (below_step (by repeat (first | (with_reducible first | exact HB.out | apply below_alloc | apply pw_below_drewN | apply below_drew1 | refine below_set ?_ GE169.out) | exact HB.out)) hb); clear BK169; clear HB; have BK169 := n0_; have HB := n1_; clear n0_ n1_; (try clear hb); (try clear hb2); (try clear hk); (try clear hi)))
      go_meet
      case rel => exact ⟨_, (true), (by first | rfl | (simp; done) | (simp [*]; done)), H', ⟨by first | omega | exact Nat.le_refl _⟩, ⟨by (with_reducible repeat (first | refine blk_drewN ?_ _ | refine blk_drew ?_ | refine blk_alloc ?_ _)); exact BK169.out⟩, ⟨by repeat (first | (with_reducible first | exact HB.out | apply below_alloc | apply pw_below_drewN | apply below_drew1 | refine below_set ?_ GE169.out) | exact HB.out)⟩⟩
  case rest =>
    clear HC4
    try clear c1
    try clear c2
    try clear p2
    try clear c5
    try clear c7
    try clear c8
    try clear c8b0
    try clear c8b1
    try clear c9
    try clear hcz12_0
    try clear hcz12_1
    try clear hcz12_2
    try clear hcz12_3
    try clear hcz12_4
    try clear hcz14_0
    try clear hcz14_1
    try clear hcz14_2
    try clear hcz14_3
    try clear hcz14_4
    try clear hcz9_0
    try clear hcz9_1
    try clear hcz9_2
    try clear hcz9_3
    try clear hcz9_4
    try clear hfz12_0
    try clear hfz12_1
    try clear hfz12_2
    try clear hfz12_3
    try clear hfz12_4
    try clear hfz14_0
    try clear hfz14_1
    try clear hfz14_2
    try clear hfz14_3
    try clear hfz14_4
    try clear hfz9_0
    try clear hfz9_1
    try clear hfz9_2
    try clear hfz9_3
    try clear hfz9_4
    obtain ⟨kq, x32_3, rfl, HA, HJ3, BK169, HB⟩ := hcut
    cases kq with
    | zero => exact absurd HA.out (by simp [laws_FnDomFind.j0])
    | succ kj3 =>
      have H := HA.out
      clear HA
      simp only [laws_FnDomFind.j0] at H
      by_cases c16 : x32_3 = true
      · subst c16
        have H1 : (some true) = some r := by rw [if_pos rfl] at H; exact H
        clear H
        have H := H1
        clear H1
        obtain rfl := Option.some.inj H
        go_wp2
        go_ret
        exact ⟨by first | rfl | (simp [errW_none, errW_some] <;> rfl) | (simp [*, errW_none, errW_some] <;> rfl), by repeat (first | (with_reducible first | exact HB.out | apply below_alloc | apply pw_below_drewN | apply below_drew1 | refine below_set ?_ GE169.out) | exact HB.out)⟩
      · replace c16 := Bool.eq_false_iff.mpr c16
        subst c16
        have H1 : ((laws_tree29.f kj3 a0_0 a0_1 a0_2 l0_3 l0_4).bind fun t172 => (if t172 = true then (laws_FnDomFind.l0 kj3 l1 l2 l2 (l2.length : Int) 0 a0_0 a0_1 a0_2 l0_3 l0_4) else (some true))) = some r := by rw [if_neg (show ¬ (false = true) by decide)] at H; exact H
        clear H
        have H := H1
        clear H1
        replace H := Option.bind_eq_some_iff.mp H
        obtain ⟨t172, A170, H⟩ := H
        replace H : (if t172 = true then (laws_FnDomFind.l0 kj3 l1 l2 l2 (l2.length : Int) 0 a0_0 a0_1 a0_2 l0_3 l0_4) else (some true)) = some r := H
        have A17 := Aside0.mk A170
        clear A170
        by_cases c18 : t172 = true
        · subst c18
          have H1 : (laws_FnDomFind.l0 kj3 l1 l2 l2 (l2.length : Int) 0 a0_0 a0_1 a0_2 l0_3 l0_4) = some r := by rw [if_pos rfl] at H; exact H
          clear H
          have H := H1
          clear H1
          have H' := Aside0.mk H
          clear H
          have hcz19_0 : wc.cell? ⟨gb169, 0, none⟩ = some (.int .i64 a0_0) := (blk_cell BK169.out 0).trans rfl
          have hcz19_1 : wc.cell? ⟨gb169, 1, none⟩ = some (.string a0_1) := (blk_cell BK169.out 1).trans rfl
          have hcz19_2 : wc.cell? ⟨gb169, 2, none⟩ = some (.string a0_2) := (blk_cell BK169.out 2).trans rfl
          have hcz19_3 : wc.cell? ⟨gb169, 3, none⟩ = some (.slice A0_3 l0_3.length c0_3) := (blk_cell BK169.out 3).trans rfl
          have hcz19_4 : wc.cell? ⟨gb169, 4, none⟩ = some (.slice A0_4 l0_4.length c0_4) := (blk_cell BK169.out 4).trans rfl
          have hfz19_0 := blk_frozen BK169.out 0
          have hfz19_1 := blk_frozen BK169.out 1
          have hfz19_2 := blk_frozen BK169.out 2
          have hfz19_3 := blk_frozen BK169.out 3
          have hfz19_4 := blk_frozen BK169.out 4
          go_wp2_with (first | ((with_reducible refine gate_callee (f := 10) rfl ?_); refine goesL_ (some 34) rfl rfl Try.func10 (by kernel_rfl) rfl #[.agg #[.int .i64 a0_0, .string a0_1, .string a0_2, .slice A0_3 l0_3.length c0_3, .slice A0_4 l0_4.length c0_4]] rfl (by (try simp only [List.map_toArray, List.map_cons, List.map_nil]); first | done | rfl | (simp only [List.length_drop, List.length_take]; rfl)) ?_; (with_reducible refine (laws_tree29.calls kj3 a0_0 a0_1 a0_2 _ _ l0_3 _ _ l0_4 true _ ?side1 ?side2 ?side3 ?side4 A17.out).mono ?_); (case side1 => repeat (first | exact (Kd.C_below HR0_3.out HB.out) | (with_reducible refine Kd.C_alloc ?_ _) | (with_reducible refine Kd.C_drewN ?_ _) | (with_reducible refine Kd.C_drew ?_))); (case side2 => exact HC0_3.out); (case side3 => repeat (first | exact (Kd.C_below HR0_4.out HB.out) | (with_reducible refine Kd.C_alloc ?_ _) | (with_reducible refine Kd.C_drewN ?_ _) | (with_reducible refine Kd.C_drew ?_))); (case side4 => exact HC0_4.out); rintro e w20 ⟨rfl, hb⟩; refine ⟨_, rfl, ?_⟩; have n0_ := Aside0.mk (blk_below (g := gb169) (o := .cells #[.int .i64 a0_0, .string a0_1, .string a0_2, .slice A0_3 l0_3.length c0_3, .slice A0_4 l0_4.length c0_4] 25 (0, 0)) (by (with_reducible repeat (first | refine blk_drewN ?_ _ | refine blk_drew ?_ | refine blk_alloc ?_ _)); exact BK169.out) hb); have n1_ := Aside0.mk (below_step (by repeat (first | (with_reducible first | exact HB.out | apply below_alloc | apply pw_below_drewN | apply below_drew1 | refine below_set ?_ GE169.out) | exact HB.out)) hb); clear BK169; clear HB; have BK169 := n0_; have HB := n1_; clear n0_ n1_; (try clear hb); (try clear hb2); (try clear hk); (try clear hi)))
          go_loopg [38] kj3 (fun kq v38 w' => ∃ (x38_2 : Int), v38 = .int .i64 x38_2 ∧ Aside0 (laws_FnDomFind.l0 kq l1 l2 l2 (l2.length : Int) x38_2 a0_0 a0_1 a0_2 l0_3 l0_4 = some r) ∧ Aside0 (kq ≤ kj3) ∧ Aside0 (w'.heap[gb169]? = some (.cells #[.int .i64 a0_0, .string a0_1, .string a0_2, (.slice A0_3 l0_3.length c0_3), (.slice A0_4 l0_4.length c0_4)] 25 (0, 0))) ∧ Aside0 (Below w.heap.size w w'))
          case atStart => exact ⟨(0), (by first | rfl | (simp; done) | (simp [*]; done)), H', ⟨Nat.le_refl _⟩, ⟨by (with_reducible repeat (first | refine blk_drewN ?_ _ | refine blk_drew ?_ | refine blk_alloc ?_ _)); exact BK169.out⟩, ⟨by repeat (first | (with_reducible first | exact HB.out | apply below_alloc | apply pw_below_drewN | apply below_drew1 | refine below_set ?_ GE169.out) | exact HB.out)⟩⟩
          case round =>
            clear H'
            try clear c1
            try clear c2
            try clear p2
            try clear c5
            try clear c7
            try clear c8
            try clear c8b0
            try clear c8b1
            try clear c9
            try clear c10
            try clear c16
            try clear c18
            try clear hcz12_0
            try clear hcz12_1
            try clear hcz12_2
            try clear hcz12_3
            try clear hcz12_4
            try clear hcz14_0
            try clear hcz14_1
            try clear hcz14_2
            try clear hcz14_3
            try clear hcz14_4
            try clear hcz19_0
            try clear hcz19_1
            try clear hcz19_2
            try clear hcz19_3
            try clear hcz19_4
            try clear hcz9_0
            try clear hcz9_1
            try clear hcz9_2
            try clear hcz9_3
            try clear hcz9_4
            try clear hfz12_0
            try clear hfz12_1
            try clear hfz12_2
            try clear hfz12_3
            try clear hfz12_4
            try clear hfz14_0
            try clear hfz14_1
            try clear hfz14_2
            try clear hfz14_3
            try clear hfz14_4
            try clear hfz19_0
            try clear hfz19_1
            try clear hfz19_2
            try clear hfz19_3
            try clear hfz19_4
            try clear hfz9_0
            try clear hfz9_1
            try clear hfz9_2
            try clear hfz9_3
            try clear hfz9_4
            try clear p2
            obtain ⟨x38_2, rfl, HA, HK2, BK169, HB⟩ := hrel
            cases gk with
            | zero => exact absurd HA.out (by simp [laws_FnDomFind.l0])
            | succ k2 =>
              have H := HA.out
              clear HA
              simp only [laws_FnDomFind.l0] at H
              by_cases c21 : x38_2 < (l2.length : Int)
              · rw [if_pos c21] at H
                have c21b0 : decide (x38_2 < (l2.length : Int)) = true := decide_eq_true c21
                clear c21
                by_cases c22 : 0 ≤ x38_2
                · rw [if_pos c22] at H
                  have c22b0 : decide (0 ≤ x38_2) = true := decide_eq_true c22
                  clear c22
                  by_cases c23 : x38_2 < (l2.length : Int)
                  · rw [if_pos c23] at H
                    have c23b0 : decide (x38_2 < (l2.length : Int)) = true := decide_eq_true c23
                    clear c23
                    replace H := Option.bind_eq_some_iff.mp H
                    obtain ⟨t174, A240, H⟩ := H
                    replace H : (if t174 = true then (laws_FnDomFind.l0 k2 l1 l2 l2 (l2.length : Int) (wrap64 (x38_2 + 1)) a0_0 a0_1 a0_2 l0_3 l0_4) else (some true)) = some r := H
                    have A24 := Aside0.mk A240
                    clear A240
                    by_cases c25 : t174 = true
                    · subst c25
                      have H1 : (laws_FnDomFind.l0 k2 l1 l2 l2 (l2.length : Int) (wrap64 (x38_2 + 1)) a0_0 a0_1 a0_2 l0_3 l0_4) = some r := by rw [if_pos rfl] at H; exact H
                      clear H
                      have H := H1
                      clear H1
                      have H' := Aside0.mk H
                      clear H
                      have p173 : 0 ≤ (x38_2 : Int) := of_decide_eq_true (by first | (with_reducible assumption) | assumption)
                      have q173 : x38_2 < (l2.length : Int) := of_decide_eq_true (by first | (with_reducible assumption) | assumption)
                      obtain ⟨ad173, e173, hx173_0⟩ := Kd.at_string HR2.out x38_2 p173 q173
                      cases e173
                      replace hx173_0 := (HB.out.cell (World.block_lt_of_cell? w _ hx173_0)).trans hx173_0
                      replace p173 := eq_true p173
                      replace q173 := eq_true q173
                      go_wp2_with (first | ((with_reducible refine gate_callee (f := 16) rfl ?_); refine goesL_ (some 43) rfl rfl Try.func16 (by kernel_rfl) rfl #[.string (rdOf ByteArray.empty l2 x38_2)] rfl (by (try simp only [List.map_toArray, List.map_cons, List.map_nil]); first | done | rfl | (simp only [List.length_drop, List.length_take]; rfl)) ?_; (with_reducible refine (laws_name29.calls k2 (rdOf ByteArray.empty l2 x38_2) true _ A24.out).mono ?_); rintro e w' ⟨rfl, ⟨nd, rfl⟩⟩; refine ⟨_, rfl, ?_⟩))
                      go_roundg k2
                      case measure => have := HJ3.out; have := HK2.out; omega
                      case rel => exact ⟨(wrap64 (x38_2 + 1)), (by first | rfl | (simp; done) | (simp [*]; done)), H', ⟨by have := HJ3.out; have := HK2.out; omega⟩, ⟨by (with_reducible repeat (first | refine blk_drewN ?_ _ | refine blk_drew ?_ | refine blk_alloc ?_ _)); exact BK169.out⟩, ⟨by repeat (first | (with_reducible first | exact HB.out | apply below_alloc | apply pw_below_drewN | apply below_drew1 | refine below_set ?_ GE169.out) | exact HB.out)⟩⟩
                    · replace c25 := Bool.eq_false_iff.mpr c25
                      subst c25
                      have H1 : (some true) = some r := by rw [if_neg (show ¬ (false = true) by decide)] at H; exact H
                      clear H
                      have H := H1
                      clear H1
                      obtain rfl := Option.some.inj H
                      have p173 : 0 ≤ (x38_2 : Int) := of_decide_eq_true (by first | (with_reducible assumption) | assumption)
                      have q173 : x38_2 < (l2.length : Int) := of_decide_eq_true (by first | (with_reducible assumption) | assumption)
                      obtain ⟨ad173, e173, hx173_0⟩ := Kd.at_string HR2.out x38_2 p173 q173
                      cases e173
                      replace hx173_0 := (HB.out.cell (World.block_lt_of_cell? w _ hx173_0)).trans hx173_0
                      replace p173 := eq_true p173
                      replace q173 := eq_true q173
                      go_wp2_with (first | ((with_reducible refine gate_callee (f := 16) rfl ?_); refine goesL_ (some 43) rfl rfl Try.func16 (by kernel_rfl) rfl #[.string (rdOf ByteArray.empty l2 x38_2)] rfl (by (try simp only [List.map_toArray, List.map_cons, List.map_nil]); first | done | rfl | (simp only [List.length_drop, List.length_take]; rfl)) ?_; (with_reducible refine (laws_name29.calls k2 (rdOf ByteArray.empty l2 x38_2) false _ A24.out).mono ?_); rintro e w' ⟨rfl, ⟨nd, rfl⟩⟩; refine ⟨_, rfl, ?_⟩))
                      go_ret
                      exact ⟨by first | rfl | (simp [errW_none, errW_some] <;> rfl) | (simp [*, errW_none, errW_some] <;> rfl), by repeat (first | (with_reducible first | exact HB.out | apply below_alloc | apply pw_below_drewN | apply below_drew1 | refine below_set ?_ GE169.out) | exact HB.out)⟩
                  · rw [if_neg c23] at H
                    exact absurd H (by simp)
                · rw [if_neg c22] at H
                  exact absurd H (by simp)
              · rw [if_neg c21] at H
                have c21b0 : decide (x38_2 < (l2.length : Int)) = false := decide_eq_false c21
                clear c21
                replace H := Option.bind_eq_some_iff.mp H
                obtain ⟨⟨t175, t176, t177, t178, t181, t184⟩, A260, H⟩ := H
                replace H : (if t184 = true then ((spec_Walk29.f k2 t175 t176 t177 t178 t181 ([] : List Int)).bind fun t186 => (if 1 ≤ (t186.length : Int) then ((some (t186.drop 1 : List (List Int))).bind fun y189 => (laws_FnDomFind.l1 k2 l1 l2 t184 ([] : List (List Int)) y189 (y189.length : Int) 0 a0_0 a0_1 a0_2 l0_3 l0_4 t175 t176 t177 t178 t181)) else (none))) else (laws_FnDomFind.j3 k2 l1 l2 t184 ([] : List (List Int)) a0_0 a0_1 a0_2 l0_3 l0_4)) = some r := H
                have A26 := Aside0.mk A260
                clear A260
                have HC27 := Aside0.mk H
                clear H
                have hcz28_0 : wr.cell? ⟨gb169, 0, none⟩ = some (.int .i64 a0_0) := (blk_cell BK169.out 0).trans rfl
                have hcz28_1 : wr.cell? ⟨gb169, 1, none⟩ = some (.string a0_1) := (blk_cell BK169.out 1).trans rfl
                have hcz28_2 : wr.cell? ⟨gb169, 2, none⟩ = some (.string a0_2) := (blk_cell BK169.out 2).trans rfl
                have hcz28_3 : wr.cell? ⟨gb169, 3, none⟩ = some (.slice A0_3 l0_3.length c0_3) := (blk_cell BK169.out 3).trans rfl
                have hcz28_4 : wr.cell? ⟨gb169, 4, none⟩ = some (.slice A0_4 l0_4.length c0_4) := (blk_cell BK169.out 4).trans rfl
                have hfz28_0 := blk_frozen BK169.out 0
                have hfz28_1 := blk_frozen BK169.out 1
                have hfz28_2 := blk_frozen BK169.out 2
                have hfz28_3 := blk_frozen BK169.out 3
                have hfz28_4 := blk_frozen BK169.out 4
                go_upto_if 52 with (first | ((with_reducible refine gate_callee (f := 17) rfl ?_); refine goesL_ (some 49) rfl rfl Try.func17 (by kernel_rfl) rfl #[.agg #[.int .i64 a0_0, .string a0_1, .string a0_2, .slice A0_3 l0_3.length c0_3, .slice A0_4 l0_4.length c0_4], .slice A1 l1.length c1] rfl (by (try simp only [List.map_toArray, List.map_cons, List.map_nil]); first | done | rfl | (simp only [List.length_drop, List.length_take]; rfl)) ?_; (with_reducible refine (spec_At29.calls k2 a0_0 a0_1 a0_2 (fun k_ => k_ < w.heap.size) _ _ l0_3 (fun k_ => k_ < w.heap.size) _ _ l0_4 _ _ l1 t175 t176 t177 t178 t181 t184 _ ?side1 ?side2 ?side3 ?side4 A26.out).mono ?_); (case side1 => exact Kd.V_mk HC0_3.out (Kd.F_below (Kd.C_F k78_heap HR0_3.out) (by repeat (first | (with_reducible first | exact HB.out | apply below_alloc | apply pw_below_drewN | apply below_drew1 | refine below_set ?_ GE169.out) | exact HB.out)))); (case side2 => exact Kd.V_mk HC0_4.out (Kd.F_below (Kd.C_F k25_heap HR0_4.out) (by repeat (first | (with_reducible first | exact HB.out | apply below_alloc | apply pw_below_drewN | apply below_drew1 | refine below_set ?_ GE169.out) | exact HB.out)))); (case side3 => repeat (first | exact (Kd.C_below HR1.out HB.out) | (with_reducible refine Kd.C_alloc ?_ _) | (with_reducible refine Kd.C_drewN ?_ _) | (with_reducible refine Kd.C_drew ?_))); (case side4 => exact HC1.out); rintro e w29 ⟨v179, v182, rfl, ho0, ho1, hb⟩; refine ⟨_, rfl, ?_⟩; have n0_ := Aside0.mk (Kd.V_lower (Kd.V_mono (ok' := fun k_ => k_ ≠ gb169) ho0 (fun k_ hk_ => Or.elim hk_ (fun hs_ => Or.elim hs_ (fun hs_ => fun e_ => Nat.not_le.2 hs_ (by rw [e_]; exact GW169.out)) (fun hs_ => fun e_ => Nat.not_le.2 hs_ (by rw [e_]; exact GW169.out))) (fun hn_ => (Kd.freshB (g := gb169) (o := .cells #[.int .i64 a0_0, .string a0_1, .string a0_2, .slice A0_3 l0_3.length c0_3, .slice A0_4 l0_4.length c0_4] 25 (0, 0)) (by (with_reducible repeat (first | refine blk_drewN ?_ _ | refine blk_drew ?_ | refine blk_alloc ?_ _)); exact BK169.out) k_ hn_)))) (below_size (by repeat (first | (with_reducible first | exact HB.out | apply below_alloc | apply pw_below_drewN | apply below_drew1 | refine below_set ?_ GE169.out) | exact HB.out)))); have n1_ := Aside0.mk (Kd.V_lower (Kd.V_mono (ok' := fun k_ => k_ ≠ gb169) ho1 (fun k_ hk_ => Or.elim hk_ (fun hs_ => Or.elim hs_ (fun hs_ => fun e_ => Nat.not_le.2 hs_ (by rw [e_]; exact GW169.out)) (fun hs_ => fun e_ => Nat.not_le.2 hs_ (by rw [e_]; exact GW169.out))) (fun hn_ => (Kd.freshB (g := gb169) (o := .cells #[.int .i64 a0_0, .string a0_1, .string a0_2, .slice A0_3 l0_3.length c0_3, .slice A0_4 l0_4.length c0_4] 25 (0, 0)) (by (with_reducible repeat (first | refine blk_drewN ?_ _ | refine blk_drew ?_ | refine blk_alloc ?_ _)); exact BK169.out) k_ hn_)))) (below_size (by repeat (first | (with_reducible first | exact HB.out | apply below_alloc | apply pw_below_drewN | apply below_drew1 | refine below_set ?_ GE169.out) | exact HB.out)))); have n2_ := Aside0.mk (blk_below (g := gb169) (o := .cells #[.int .i64 a0_0, .string a0_1, .string a0_2, .slice A0_3 l0_3.length c0_3, .slice A0_4 l0_4.length c0_4] 25 (0, 0)) (by (with_reducible repeat (first | refine blk_drewN ?_ _ | refine blk_drew ?_ | refine blk_alloc ?_ _)); exact BK169.out) hb); have n3_ := Aside0.mk (below_step (by repeat (first | (with_reducible first | exact HB.out | apply below_alloc | apply pw_below_drewN | apply below_drew1 | refine below_set ?_ GE169.out) | exact HB.out)) hb); clear BK169; clear HB; have HO180 := n0_; have HO183 := n1_; have BK169 := n2_; have HB := n3_; clear n0_ n1_ n2_ n3_; (try clear hb); (try clear hb2); (try clear hk); (try clear hi); (try clear ho0); (try clear ho1)) | ((with_reducible refine gate_dst (N := 9) rfl ?_); (try (refine gate_guard (by rfl) ?_; dsimp only)); refine box_event ?hg (N := 9) ?hd (cs := #[.int .i64 0, .string (⟨#[]⟩ : ByteArray), .string (⟨#[]⟩ : ByteArray), .slice none 0 0, .slice none 0 0]) (t := 25) ?hr ?_; (case hd => rfl); (case hg => rfl); (case hr => first | (go_simp; done) | (go_simp; rfl)); intro gb185 hg w30 hbox hb; have n0_ := Aside0.mk (Kd.V_below (Kd.V_elderB (by (with_reducible repeat (first | apply Kd.V_alloc | apply Kd.V_drewN | apply Kd.V_drew)); exact HO180.out) gb185 (Nat.le_of_eq hg.symm)) hb); have n1_ := Aside0.mk (Kd.V_below (Kd.V_elderB (by (with_reducible repeat (first | apply Kd.V_alloc | apply Kd.V_drewN | apply Kd.V_drew)); exact HO183.out) gb185 (Nat.le_of_eq hg.symm)) hb); have n2_ := Aside0.mk (blk_below (g := gb169) (o := .cells #[.int .i64 a0_0, .string a0_1, .string a0_2, .slice A0_3 l0_3.length c0_3, .slice A0_4 l0_4.length c0_4] 25 (0, 0)) (by (with_reducible repeat (first | refine blk_drewN ?_ _ | refine blk_drew ?_ | refine blk_alloc ?_ _)); exact BK169.out) hb); have n3_ := Aside0.mk (below_step (by repeat (first | (with_reducible first | exact HB.out | apply below_alloc | apply pw_below_drewN | apply below_drew1 | refine below_set ?_ GE169.out) | exact HB.out)) hb); have n4_ := Aside0.mk (hbox); have n5_ := Aside0.mk ((by rw [hg]; exact (below_size (by repeat (first | (with_reducible first | exact HB.out | apply below_alloc | apply pw_below_drewN | apply below_drew1 | refine below_set ?_ GE169.out) | exact HB.out))) : w.heap.size ≤ gb185)); have n6_ := Aside0.mk ((by rw [hg]; exact (below_size (by repeat (first | (with_reducible first | exact HB.out | apply below_alloc | apply pw_below_drewN | apply below_drew1 | refine below_set ?_ GE169.out) | exact HB.out))) : w.heap.size ≤ gb185)); have n7_ := Aside0.mk ((by rw [hg]; exact Nat.ne_of_lt (blk_lt (g := gb169) (o := .cells #[.int .i64 a0_0, .string a0_1, .string a0_2, .slice A0_3 l0_3.length c0_3, .slice A0_4 l0_4.length c0_4] 25 (0, 0)) (by (with_reducible repeat (first | refine blk_drewN ?_ _ | refine blk_drew ?_ | refine blk_alloc ?_ _)); exact BK169.out)) : gb169 ≠ gb185)); have n8_ := Aside0.mk ((by rw [hg]; exact Nat.ne_of_gt (blk_lt (g := gb169) (o := .cells #[.int .i64 a0_0, .string a0_1, .string a0_2, .slice A0_3 l0_3.length c0_3, .slice A0_4 l0_4.length c0_4] 25 (0, 0)) (by (with_reducible repeat (first | refine blk_drewN ?_ _ | refine blk_drew ?_ | refine blk_alloc ?_ _)); exact BK169.out)) : gb185 ≠ gb169)); clear HO180; clear HO183; clear BK169; clear HB; have HO180 := n0_; have HO183 := n1_; have BK169 := n2_; have HB := n3_; have BK185 := n4_; have GW185 := n5_; have GE185 := n6_; have NB169_185 := n7_; have NB185_169 := n8_; clear n0_ n1_ n2_ n3_ n4_ n5_ n6_ n7_ n8_; clear hb hbox hg; have hnb31 := NB185_169.out; have hnc31 := NB169_185.out; have hcz32_0 : w30.cell? ⟨gb185, 0, none⟩ = some (.int .i64 0) := (blk_cell BK185.out 0).trans rfl; have hcz32_1 : w30.cell? ⟨gb185, 1, none⟩ = some (.string (⟨#[]⟩ : ByteArray)) := (blk_cell BK185.out 1).trans rfl; have hcz32_2 : w30.cell? ⟨gb185, 2, none⟩ = some (.string (⟨#[]⟩ : ByteArray)) := (blk_cell BK185.out 2).trans rfl; have hcz32_3 : w30.cell? ⟨gb185, 3, none⟩ = some (.slice none 0 0) := (blk_cell BK185.out 3).trans rfl; have hcz32_4 : w30.cell? ⟨gb185, 4, none⟩ = some (.slice none 0 0) := (blk_cell BK185.out 4).trans rfl; have hfz32_0 := blk_frozen BK185.out 0; have hfz32_1 := blk_frozen BK185.out 1; have hfz32_2 := blk_frozen BK185.out 2; have hfz32_3 := blk_frozen BK185.out 3; have hfz32_4 := blk_frozen BK185.out 4; obtain ⟨Ao33, co33, eo33⟩ := Kd.V_slice HO180.out; subst eo33; obtain ⟨Ao34, co34, eo34⟩ := Kd.V_slice HO183.out; subst eo34))
                (try simp only [Act.put, List.setIfInBounds_toArray, List.set_cons_zero, List.set_cons_succ])
                go_cut [11] (fun v11 wc => ∃ (kq : Nat) (x11_26 : List (List Int)), Aside0 (laws_FnDomFind.j3 kq l1 l2 t184 x11_26 a0_0 a0_1 a0_2 l0_3 l0_4 = some r) ∧ Aside0 (kq ≤ k2) ∧ Aside0 (Kd.N (Kd.slice 3 (Kd.int .i64)) 32 wc w.heap.size (fun k_ => k_ ≠ gb169 ∧ k_ ≠ gb185) v11 x11_26) ∧ Aside0 (Kd.V k78 78 wc w.heap.size (fun k_ => some k_ ≠ (v11 : Value).ownBlock ∧ k_ ≠ gb169 ∧ k_ ≠ gb185) (.slice Ao33 t178.length co33) t178) ∧ Aside0 (Kd.V k25 25 wc w.heap.size (fun k_ => some k_ ≠ (v11 : Value).ownBlock ∧ k_ ≠ gb169 ∧ k_ ≠ gb185) (.slice Ao34 t181.length co34) t181) ∧ Aside0 (wc.heap[gb169]? = some (.cells #[.int .i64 a0_0, .string a0_1, .string a0_2, (.slice A0_3 l0_3.length c0_3), (.slice A0_4 l0_4.length c0_4)] 25 (0, 0))) ∧ Aside0 (wc.heap[gb185]? = some (.cells #[.int .i64 t175, .string t176, .string t177, (.slice Ao33 t178.length co33), (.slice Ao34 t181.length co34)] 25 (0, 0))) ∧ Aside0 (Below w.heap.size w wc))
                case first =>
                  have H := HC27.out
                  clear HC27
                  by_cases c35 : t184 = true
                  · subst c35
                    have H1 : ((spec_Walk29.f k2 t175 t176 t177 t178 t181 ([] : List Int)).bind fun t186 => (if 1 ≤ (t186.length : Int) then ((some (t186.drop 1 : List (List Int))).bind fun y189 => (laws_FnDomFind.l1 k2 l1 l2 true ([] : List (List Int)) y189 (y189.length : Int) 0 a0_0 a0_1 a0_2 l0_3 l0_4 t175 t176 t177 t178 t181)) else (none))) = some r := by rw [if_pos rfl] at H; exact H
                    clear H
                    have H := H1
                    clear H1
                    replace H := Option.bind_eq_some_iff.mp H
                    obtain ⟨t186, A360, H⟩ := H
                    replace H : (if 1 ≤ (t186.length : Int) then ((some (t186.drop 1 : List (List Int))).bind fun y189 => (laws_FnDomFind.l1 k2 l1 l2 true ([] : List (List Int)) y189 (y189.length : Int) 0 a0_0 a0_1 a0_2 l0_3 l0_4 t175 t176 t177 t178 t181)) else (none)) = some r := H
                    have A36 := Aside0.mk A360
                    clear A360
                    by_cases c37 : 1 ≤ (t186.length : Int)
                    · rw [if_pos c37] at H
                      have c37b0 := eq_true c37
                      have c37b1 : decide (1 ≤ (t186.length : Int)) = true := decide_eq_true c37
                      clear c37
                      obtain ⟨y189, hy189⟩ : ∃ y_ : List (List Int), y_ = (t186.drop 1) := ⟨_, rfl⟩
                      replace H : (laws_FnDomFind.l1 k2 l1 l2 true ([] : List (List Int)) y189 (y189.length : Int) 0 a0_0 a0_1 a0_2 l0_3 l0_4 t175 t176 t177 t178 t181) = some r := by first | (rw [hy189]; with_reducible exact H) | (have H2_ := (Option.bind_some _ _).symm.trans H; rw [hy189]; with_reducible exact H2_) | (have H2_ := (Option.bind_some _ _).symm.trans H; with_reducible exact H2_) | with_reducible exact H | (rw [hy189]; exact H) | exact H
                      have Ny189 := Aside0.mk hy189
                      clear hy189
                      have H' := Aside0.mk H
                      clear H
                      have hnb38 := NB185_169.out
                      have hnc38 := NB169_185.out
                      have hcz39_0 : w30.cell? ⟨gb185, 0, none⟩ = some (.int .i64 0) := (blk_cell BK185.out 0).trans rfl
                      have hcz39_1 : w30.cell? ⟨gb185, 1, none⟩ = some (.string (⟨#[]⟩ : ByteArray)) := (blk_cell BK185.out 1).trans rfl
                      have hcz39_2 : w30.cell? ⟨gb185, 2, none⟩ = some (.string (⟨#[]⟩ : ByteArray)) := (blk_cell BK185.out 2).trans rfl
                      have hcz39_3 : w30.cell? ⟨gb185, 3, none⟩ = some (.slice none 0 0) := (blk_cell BK185.out 3).trans rfl
                      have hcz39_4 : w30.cell? ⟨gb185, 4, none⟩ = some (.slice none 0 0) := (blk_cell BK185.out 4).trans rfl
                      have hfz39_0 := blk_frozen BK185.out 0
                      have hfz39_1 := blk_frozen BK185.out 1
                      have hfz39_2 := blk_frozen BK185.out 2
                      have hfz39_3 := blk_frozen BK185.out 3
                      have hfz39_4 := blk_frozen BK185.out 4
                      go_wp2_with (first | ((with_reducible refine gate_callee (f := 14) rfl ?_); refine goesL_ (some 54) rfl rfl Try.func14 (by kernel_rfl) rfl #[.agg #[.int .i64 t175, .string t176, .string t177, .slice Ao33 t178.length co33, .slice Ao34 t181.length co34], .slice none 0 0] rfl (by (try simp only [List.map_toArray, List.map_cons, List.map_nil]); first | done | rfl | (simp only [List.length_drop, List.length_take]; rfl)) ?_; (refine (spec_Walk29.calls k2 t175 t176 t177 _ _ t178 _ _ t181 (fun k_ => False) _ _ ([] : List Int) t186 _ ?side1 ?side2 ?side3 ?side4 ?side5 A36.out).mono ?_); (case side1 => refine (Kd.V_reads' (e := 78) (base := w.heap.size) (ok := fun k_ => (k_ ≠ gb169 ∧ k_ ≠ gb185)) (n := t178.length) (c := co33) ?_).2.2; exact (by (with_reducible repeat (first | apply Kd.V_alloc | apply Kd.V_drewN | apply Kd.V_drew)); exact (Kd.V_mono (Kd.V_far (p := ⟨gb185, 4, none⟩) (Kd.V_far (p := ⟨gb185, 3, none⟩) (Kd.V_far (p := ⟨gb185, 2, none⟩) (Kd.V_far (p := ⟨gb185, 1, none⟩) (Kd.V_far (p := ⟨gb185, 0, none⟩) (Kd.V_mono HO180.out (fun k_ hk => (⟨hk, hk.2⟩ : _ ∧ k_ ≠ gb185))) (fun _ hk => hk.2) (.int .i64 t175)) (fun _ hk => hk.2) (.string t176)) (fun _ hk => hk.2) (.string t177)) (fun _ hk => hk.2) (.slice Ao33 t178.length co33)) (fun _ hk => hk.2) (.slice Ao34 t181.length co34)) (fun _ h_ => h_.1)))); (case side2 => exact (Kd.V_reads' HO180.out).2.1); (case side3 => refine (Kd.V_reads' (e := 25) (base := w.heap.size) (ok := fun k_ => (k_ ≠ gb169 ∧ k_ ≠ gb185)) (n := t181.length) (c := co34) ?_).2.2; exact (by (with_reducible repeat (first | apply Kd.V_alloc | apply Kd.V_drewN | apply Kd.V_drew)); exact (Kd.V_mono (Kd.V_far (p := ⟨gb185, 4, none⟩) (Kd.V_far (p := ⟨gb185, 3, none⟩) (Kd.V_far (p := ⟨gb185, 2, none⟩) (Kd.V_far (p := ⟨gb185, 1, none⟩) (Kd.V_far (p := ⟨gb185, 0, none⟩) (Kd.V_mono HO183.out (fun k_ hk => (⟨hk, hk.2⟩ : _ ∧ k_ ≠ gb185))) (fun _ hk => hk.2) (.int .i64 t175)) (fun _ hk => hk.2) (.string t176)) (fun _ hk => hk.2) (.string t177)) (fun _ hk => hk.2) (.slice Ao33 t178.length co33)) (fun _ hk => hk.2) (.slice Ao34 t181.length co34)) (fun _ h_ => h_.1)))); (case side4 => exact (Kd.V_reads' HO183.out).2.1); (case side5 => exact Kd.V_nil _ _ _ _ _); rintro e w40 ⟨v187, rfl, ho0, hb⟩; refine ⟨_, rfl, ?_⟩; have n0_ := Aside0.mk (Kd.V_elder' (by (with_reducible repeat (first | apply Kd.V_alloc | apply Kd.V_drewN | apply Kd.V_drew)); exact (Kd.V_mono (Kd.V_far (p := ⟨gb185, 4, none⟩) (Kd.V_far (p := ⟨gb185, 3, none⟩) (Kd.V_far (p := ⟨gb185, 2, none⟩) (Kd.V_far (p := ⟨gb185, 1, none⟩) (Kd.V_far (p := ⟨gb185, 0, none⟩) (Kd.V_mono HO180.out (fun k_ hk => (⟨hk, hk.2⟩ : _ ∧ k_ ≠ gb185))) (fun _ hk => hk.2) (.int .i64 t175)) (fun _ hk => hk.2) (.string t176)) (fun _ hk => hk.2) (.string t177)) (fun _ hk => hk.2) (.slice Ao33 t178.length co33)) (fun _ hk => hk.2) (.slice Ao34 t181.length co34)) (fun _ h_ => h_.1))) (Kd.N_base ho0) hb); have n1_ := Aside0.mk (Kd.V_elder' (by (with_reducible repeat (first | apply Kd.V_alloc | apply Kd.V_drewN | apply Kd.V_drew)); exact (Kd.V_mono (Kd.V_far (p := ⟨gb185, 4, none⟩) (Kd.V_far (p := ⟨gb185, 3, none⟩) (Kd.V_far (p := ⟨gb185, 2, none⟩) (Kd.V_far (p := ⟨gb185, 1, none⟩) (Kd.V_far (p := ⟨gb185, 0, none⟩) (Kd.V_mono HO183.out (fun k_ hk => (⟨hk, hk.2⟩ : _ ∧ k_ ≠ gb185))) (fun _ hk => hk.2) (.int .i64 t175)) (fun _ hk => hk.2) (.string t176)) (fun _ hk => hk.2) (.string t177)) (fun _ hk => hk.2) (.slice Ao33 t178.length co33)) (fun _ hk => hk.2) (.slice Ao34 t181.length co34)) (fun _ h_ => h_.1))) (Kd.N_base ho0) hb); have n2_ := Aside0.mk (Kd.N_lower (Kd.N_mono (ok' := fun k_ => k_ ≠ gb169 ∧ k_ ≠ gb185) ho0 (fun k_ hk_ => ⟨Or.elim hk_ (fun hs_ => (hs_).elim) (fun hn_ => (Kd.freshB (g := gb169) (o := .cells #[.int .i64 a0_0, .string a0_1, .string a0_2, .slice A0_3 l0_3.length c0_3, .slice A0_4 l0_4.length c0_4] 25 (0, 0)) (by (with_reducible repeat (first | refine blk_drewN ?_ _ | refine blk_drew ?_ | refine blk_alloc ?_ _)); refine blk_far ?_ NB169_185.out _; (with_reducible repeat (first | refine blk_drewN ?_ _ | refine blk_drew ?_ | refine blk_alloc ?_ _)); refine blk_far ?_ NB169_185.out _; (with_reducible repeat (first | refine blk_drewN ?_ _ | refine blk_drew ?_ | refine blk_alloc ?_ _)); refine blk_far ?_ NB169_185.out _; (with_reducible repeat (first | refine blk_drewN ?_ _ | refine blk_drew ?_ | refine blk_alloc ?_ _)); refine blk_far ?_ NB169_185.out _; (with_reducible repeat (first | refine blk_drewN ?_ _ | refine blk_drew ?_ | refine blk_alloc ?_ _)); refine blk_far ?_ NB169_185.out _; (with_reducible repeat (first | refine blk_drewN ?_ _ | refine blk_drew ?_ | refine blk_alloc ?_ _)); exact BK169.out) k_ hn_)), Or.elim hk_ (fun hs_ => (hs_).elim) (fun hn_ => (Kd.freshB (g := gb185) (o := .cells #[.int .i64 t175, .string t176, .string t177, .slice Ao33 t178.length co33, .slice Ao34 t181.length co34] 25 (0, 0)) (by (with_reducible repeat (first | refine blk_drewN ?_ _ | refine blk_drew ?_ | refine blk_alloc ?_ _)); refine blk_put (cs := #[.int .i64 t175, .string t176, .string t177, .slice Ao33 t178.length co33, .slice none 0 0]) ?_ 4 _ rfl; (with_reducible repeat (first | refine blk_drewN ?_ _ | refine blk_drew ?_ | refine blk_alloc ?_ _)); refine blk_put (cs := #[.int .i64 t175, .string t176, .string t177, .slice none 0 0, .slice none 0 0]) ?_ 3 _ rfl; (with_reducible repeat (first | refine blk_drewN ?_ _ | refine blk_drew ?_ | refine blk_alloc ?_ _)); refine blk_put (cs := #[.int .i64 t175, .string t176, .string (⟨#[]⟩ : ByteArray), .slice none 0 0, .slice none 0 0]) ?_ 2 _ rfl; (with_reducible repeat (first | refine blk_drewN ?_ _ | refine blk_drew ?_ | refine blk_alloc ?_ _)); refine blk_put (cs := #[.int .i64 t175, .string (⟨#[]⟩ : ByteArray), .string (⟨#[]⟩ : ByteArray), .slice none 0 0, .slice none 0 0]) ?_ 1 _ rfl; (with_reducible repeat (first | refine blk_drewN ?_ _ | refine blk_drew ?_ | refine blk_alloc ?_ _)); refine blk_put (cs := #[.int .i64 0, .string (⟨#[]⟩ : ByteArray), .string (⟨#[]⟩ : ByteArray), .slice none 0 0, .slice none 0 0]) ?_ 0 _ rfl; (with_reducible repeat (first | refine blk_drewN ?_ _ | refine blk_drew ?_ | refine blk_alloc ?_ _)); exact BK185.out) k_ hn_))⟩)) (below_size (by repeat (first | (with_reducible first | exact HB.out | apply below_alloc | apply pw_below_drewN | apply below_drew1 | refine below_set ?_ GE169.out | refine below_set ?_ GE185.out) | exact HB.out)))); have n3_ := Aside0.mk (blk_below (g := gb169) (o := .cells #[.int .i64 a0_0, .string a0_1, .string a0_2, .slice A0_3 l0_3.length c0_3, .slice A0_4 l0_4.length c0_4] 25 (0, 0)) (by (with_reducible repeat (first | refine blk_drewN ?_ _ | refine blk_drew ?_ | refine blk_alloc ?_ _)); refine blk_far ?_ NB169_185.out _; (with_reducible repeat (first | refine blk_drewN ?_ _ | refine blk_drew ?_ | refine blk_alloc ?_ _)); refine blk_far ?_ NB169_185.out _; (with_reducible repeat (first | refine blk_drewN ?_ _ | refine blk_drew ?_ | refine blk_alloc ?_ _)); refine blk_far ?_ NB169_185.out _; (with_reducible repeat (first | refine blk_drewN ?_ _ | refine blk_drew ?_ | refine blk_alloc ?_ _)); refine blk_far ?_ NB169_185.out _; (with_reducible repeat (first | refine blk_drewN ?_ _ | refine blk_drew ?_ | refine blk_alloc ?_ _)); refine blk_far ?_ NB169_185.out _; (with_reducible repeat (first | refine blk_drewN ?_ _ | refine blk_drew ?_ | refine blk_alloc ?_ _)); exact BK169.out) hb); have n4_ := Aside0.mk (blk_below (g := gb185) (o := .cells #[.int .i64 t175, .string t176, .string t177, .slice Ao33 t178.length co33, .slice Ao34 t181.length co34] 25 (0, 0)) (by (with_reducible repeat (first | refine blk_drewN ?_ _ | refine blk_drew ?_ | refine blk_alloc ?_ _)); refine blk_put (cs := #[.int .i64 t175, .string t176, .string t177, .slice Ao33 t178.length co33, .slice none 0 0]) ?_ 4 _ rfl; (with_reducible repeat (first | refine blk_drewN ?_ _ | refine blk_drew ?_ | refine blk_alloc ?_ _)); refine blk_put (cs := #[.int .i64 t175, .string t176, .string t177, .slice none 0 0, .slice none 0 0]) ?_ 3 _ rfl; (with_reducible repeat (first | refine blk_drewN ?_ _ | refine blk_drew ?_ | refine blk_alloc ?_ _)); refine blk_put (cs := #[.int .i64 t175, .string t176, .string (⟨#[]⟩ : ByteArray), .slice none 0 0, .slice none 0 0]) ?_ 2 _ rfl; (with_reducible repeat (first | refine blk_drewN ?_ _ | refine blk_drew ?_ | refine blk_alloc ?_ _)); refine blk_put (cs := #[.int .i64 t175, .string (⟨#[]⟩ : ByteArray), .string (⟨#[]⟩ : ByteArray), .slice none 0 0, .slice none 0 0]) ?_ 1 _ rfl; (with_reducible repeat (first | refine blk_drewN ?_ _ | refine blk_drew ?_ | refine blk_alloc ?_ _)); refine blk_put (cs := #[.int .i64 0, .string (⟨#[]⟩ : ByteArray), .string (⟨#[]⟩ : ByteArray), .slice none 0 0, .slice none 0 0]) ?_ 0 _ rfl; (with_reducible repeat (first | refine blk_drewN ?_ _ | refine blk_drew ?_ | refine blk_alloc ?_ _)); exact BK185.out) hb); have n5_ := Aside0.mk (below_step (by repeat (first | (with_reducible first | exact HB.out | apply below_alloc | apply pw_below_drewN | apply below_drew1 | refine below_set ?_ GE169.out | refine below_set ?_ GE185.out) | exact HB.out)) hb); clear HO180; clear HO183; clear BK169; clear BK185; clear HB; have HO180 := n0_; have HO183 := n1_; have HO188 := n2_; have BK169 := n3_; have BK185 := n4_; have HB := n5_; clear n0_ n1_ n2_ n3_ n4_ n5_; (try clear hb); (try clear hb2); (try clear hk); (try clear hi); (try clear ho0); obtain ⟨Ao42, co42, eo42⟩ := Kd.N_slice HO188.out; subst eo42; have q41 : (1 : Int) ≤ ((t186.length : Int) : Int) := of_decide_eq_true (by first | (with_reducible assumption) | assumption); obtain ⟨i041, hi041, _, hsz41, _⟩ := info_parts info32; have hroom41 : t186.length ≤ co42 := (Kd.N_reads' HO188.out).2.1; have hC41 : Kd.F (Kd.slice 3 (Kd.int .i64)) _ _ Ao42 t186.length t186 := (Kd.V_at (base := w.heap.size) (Kd.N_V HO188.out)).2.2; have hcut41 := cut_from (P := Try.prog) 29 32 .i64 Try.underlying29 hi041 1 hsz41 Ao42 t186.length co42 1 (by omega) q41; have hr41 := Kd.F_cut (m := (1 : Int).toNat) (c := co42) hC41 (by omega) hroom41; obtain ⟨A41, hA41⟩ : ∃ A1, A1 = (if co42 = (1 : Int).toNat then Ao42 else (Ao42 : Option Addr).map (·.add ((1 : Int).toNat * 1))) := ⟨_, rfl⟩; obtain ⟨c41, hc41⟩ : ∃ c1, c1 = co42 - (1 : Int).toNat := ⟨_, rfl⟩; have hy41 : y189.length = t186.length - (1 : Int).toNat := (by rw [Ny189.out, List.length_drop] <;> omega); rw [show (t186).drop (1 : Int).toNat = y189 from Ny189.out.symm] at hr41; replace hr41 : Kd.F (Kd.slice 3 (Kd.int .i64)) _ _ A41 y189.length y189 := (by rw [hA41]; exact hr41); rw [← hy41, ← hA41, ← hc41] at hcut41; have HO193 := Aside0.mk (show Kd.V (Kd.slice 3 (Kd.int .i64)) 32 _ w.heap.size _ (.slice A41 y189.length c41) y189 from Kd.V_mk (by rw [hy41, hc41]; exact Nat.sub_le_sub_right hroom41 _) hr41); have HC193 := Aside0.mk (show y189.length ≤ c41 from by rw [hy41, hc41]; exact Nat.sub_le_sub_right hroom41 _); clear hr41 hC41 hroom41 hi041 hsz41 hc41; have KY41 := Aside0.mk hy41; have KA41 := Aside0.mk hA41; clear hy41 hA41; replace q41 := eq_true q41))
                      go_loopg [11, 57] k2 (fun kq v11 v57 w' => ∃ (x11_3 : List (List Int)) (x57_3 : Int), v57 = .int .i64 x57_3 ∧ Aside0 (laws_FnDomFind.l1 kq l1 l2 true x11_3 y189 (y189.length : Int) x57_3 a0_0 a0_1 a0_2 l0_3 l0_4 t175 t176 t177 t178 t181 = some r) ∧ Aside0 (kq ≤ k2) ∧ Aside0 (Kd.N (Kd.slice 3 (Kd.int .i64)) 32 w' w.heap.size (fun k_ => k_ ≠ gb169 ∧ k_ ≠ gb185) v11 x11_3) ∧ Aside0 (Kd.V (Kd.slice 3 (Kd.int .i64)) 32 w' w.heap.size (fun k_ => some k_ ≠ (v11 : Value).ownBlock ∧ k_ ≠ gb169 ∧ k_ ≠ gb185) (.slice A41 y189.length c41) y189) ∧ Aside0 (Kd.V k78 78 w' w.heap.size (fun k_ => some k_ ≠ (v11 : Value).ownBlock ∧ k_ ≠ gb169 ∧ k_ ≠ gb185) (.slice Ao33 t178.length co33) t178) ∧ Aside0 (Kd.V k25 25 w' w.heap.size (fun k_ => some k_ ≠ (v11 : Value).ownBlock ∧ k_ ≠ gb169 ∧ k_ ≠ gb185) (.slice Ao34 t181.length co34) t181) ∧ Aside0 (w'.heap[gb169]? = some (.cells #[.int .i64 a0_0, .string a0_1, .string a0_2, (.slice A0_3 l0_3.length c0_3), (.slice A0_4 l0_4.length c0_4)] 25 (0, 0))) ∧ Aside0 (w'.heap[gb185]? = some (.cells #[.int .i64 t175, .string t176, .string t177, (.slice Ao33 t178.length co33), (.slice Ao34 t181.length co34)] 25 (0, 0))) ∧ Aside0 (Below w.heap.size w w'))
                      case atStart => exact ⟨(([] : List (List Int))), (0), (by first | rfl | (simp; done) | (simp [*]; done)), H', ⟨Nat.le_refl _⟩, ⟨by first | exact Kd.S_nil _ _ _ _ _ | exact Kd.N_nil _ _ _ _ _ | exact Kd.V_nil _ _ _ _ _ | exact Kd.Q_nil _ _ _ _ _ | exact Kd.R_nil _ _ _ _ _⟩, ⟨by (with_reducible repeat (first | apply Kd.V_alloc | apply Kd.V_drewN | apply Kd.V_drew)); exact Kd.V_mono HO193.out (fun _ hk => ⟨(by simp [Value.ownBlock]), ⟨hk.1, hk.2⟩⟩)⟩, ⟨by (with_reducible repeat (first | apply Kd.V_alloc | apply Kd.V_drewN | apply Kd.V_drew)); exact Kd.V_mono HO180.out (fun _ hk => ⟨(by simp [Value.ownBlock]), ⟨hk.1.1, hk.1.2⟩⟩)⟩, ⟨by (with_reducible repeat (first | apply Kd.V_alloc | apply Kd.V_drewN | apply Kd.V_drew)); exact Kd.V_mono HO183.out (fun _ hk => ⟨(by simp [Value.ownBlock]), ⟨hk.1.1, hk.1.2⟩⟩)⟩, ⟨by (with_reducible repeat (first | refine blk_drewN ?_ _ | refine blk_drew ?_ | refine blk_alloc ?_ _)); exact BK169.out⟩, ⟨by (with_reducible repeat (first | refine blk_drewN ?_ _ | refine blk_drew ?_ | refine blk_alloc ?_ _)); exact BK185.out⟩, ⟨by repeat (first | (with_reducible first | exact HB.out | apply below_alloc | apply pw_below_drewN | apply below_drew1 | refine below_set ?_ GE169.out | refine below_set ?_ GE185.out) | exact HB.out)⟩⟩
                      case round =>
                        clear H'
                        try clear c1
                        try clear p1
                        try clear q1
                        try clear hx1
                        try clear c2
                        try clear p2
                        try clear c3
                        try clear c4
                        try clear q4
                        try clear c5
                        try clear p6
                        try clear c7
                        try clear c8
                        try clear c8b0
                        try clear c8b1
                        try clear c9
                        try clear c10
                        try clear c14
                        try clear c16
                        try clear c17
                        try clear p17
                        try clear q17
                        try clear hx17
                        try clear c18
                        try clear c21
                        try clear c21b0
                        try clear c22
                        try clear c22b0
                        try clear c23
                        try clear c23b0
                        try clear c25
                        try clear c31
                        try clear c35
                        try clear c37
                        try clear c37b0
                        try clear c37b1
                        try clear c38
                        try clear c41
                        try clear q41
                        try clear hcz12_0
                        try clear hcz12_1
                        try clear hcz12_2
                        try clear hcz12_3
                        try clear hcz12_4
                        try clear hcz14_0
                        try clear hcz14_1
                        try clear hcz14_2
                        try clear hcz14_3
                        try clear hcz14_4
                        try clear hcz19_0
                        try clear hcz19_1
                        try clear hcz19_2
                        try clear hcz19_3
                        try clear hcz19_4
                        try clear hcz28_0
                        try clear hcz28_1
                        try clear hcz28_2
                        try clear hcz28_3
                        try clear hcz28_4
                        try clear hcz32_0
                        try clear hcz32_1
                        try clear hcz32_2
                        try clear hcz32_3
                        try clear hcz32_4
                        try clear hcz39_0
                        try clear hcz39_1
                        try clear hcz39_2
                        try clear hcz39_3
                        try clear hcz39_4
                        try clear hcz9_0
                        try clear hcz9_1
                        try clear hcz9_2
                        try clear hcz9_3
                        try clear hcz9_4
                        try clear hfz12_0
                        try clear hfz12_1
                        try clear hfz12_2
                        try clear hfz12_3
                        try clear hfz12_4
                        try clear hfz14_0
                        try clear hfz14_1
                        try clear hfz14_2
                        try clear hfz14_3
                        try clear hfz14_4
                        try clear hfz19_0
                        try clear hfz19_1
                        try clear hfz19_2
                        try clear hfz19_3
                        try clear hfz19_4
                        try clear hfz28_0
                        try clear hfz28_1
                        try clear hfz28_2
                        try clear hfz28_3
                        try clear hfz28_4
                        try clear hfz32_0
                        try clear hfz32_1
                        try clear hfz32_2
                        try clear hfz32_3
                        try clear hfz32_4
                        try clear hfz39_0
                        try clear hfz39_1
                        try clear hfz39_2
                        try clear hfz39_3
                        try clear hfz39_4
                        try clear hfz9_0
                        try clear hfz9_1
                        try clear hfz9_2
                        try clear hfz9_3
                        try clear hfz9_4
                        try clear hx173_0
                        try clear p173
                        try clear p2
                        try clear q173
                        try clear q41
                        obtain ⟨x11_3, x57_3, rfl, HA, HK3, HO_11, HO_55, HO_186003, HO_186004, BK169, BK185, HB⟩ := hrel
                        cases gk with
                        | zero => exact absurd HA.out (by simp [laws_FnDomFind.l1])
                        | succ k3 =>
                          have H := HA.out
                          clear HA
                          simp only [laws_FnDomFind.l1] at H
                          by_cases c43 : x57_3 < (y189.length : Int)
                          · rw [if_pos c43] at H
                            have c43b0 : decide (x57_3 < (y189.length : Int)) = true := decide_eq_true c43
                            clear c43
                            (first | rw [c43b0] | (simp only [i64_w, i32_w]; rw [c43b0]) | skip)
                            by_cases c44 : 0 ≤ x57_3
                            · rw [if_pos c44] at H
                              have c44b0 : decide (0 ≤ x57_3) = true := decide_eq_true c44
                              clear c44
                              by_cases c45 : x57_3 < (y189.length : Int)
                              · rw [if_pos c45] at H
                                have c45b0 : decide (x57_3 < (y189.length : Int)) = true := decide_eq_true c45
                                clear c45
                                replace H := Option.bind_eq_some_iff.mp H
                                obtain ⟨⟨t195, t196, t197, t198, t201, t204⟩, A460, H⟩ := H
                                replace H : ((laws_among29.f k3 t195 t196 t197 t198 t201 l2).bind fun t206 => (if t206 = true then ((some (([] : List Int) : List Int)).bind fun y207 => (if y207.length + l1.length < 17592186044416 then ((some (y207 ++ l1 : List Int)).bind fun y210 => (if y210.length + (rd_L5 y189 x57_3).length < 17592186044416 then (if x11_3.length < 5864062014805 then (laws_FnDomFind.l1 k3 l1 l2 true (x11_3 ++ [(y210 ++ (rd_L5 y189 x57_3))]) y189 (y189.length : Int) (wrap64 (x57_3 + 1)) a0_0 a0_1 a0_2 l0_3 l0_4 t175 t176 t177 t178 t181) else (none)) else (none))) else (none))) else (laws_FnDomFind.l1 k3 l1 l2 true x11_3 y189 (y189.length : Int) (wrap64 (x57_3 + 1)) a0_0 a0_1 a0_2 l0_3 l0_4 t175 t176 t177 t178 t181))) = some r := H
                                have A46 := Aside0.mk A460
                                clear A460
                                replace H := Option.bind_eq_some_iff.mp H
                                obtain ⟨t206, A470, H⟩ := H
                                replace H : (if t206 = true then ((some (([] : List Int) : List Int)).bind fun y207 => (if y207.length + l1.length < 17592186044416 then ((some (y207 ++ l1 : List Int)).bind fun y210 => (if y210.length + (rd_L5 y189 x57_3).length < 17592186044416 then (if x11_3.length < 5864062014805 then (laws_FnDomFind.l1 k3 l1 l2 true (x11_3 ++ [(y210 ++ (rd_L5 y189 x57_3))]) y189 (y189.length : Int) (wrap64 (x57_3 + 1)) a0_0 a0_1 a0_2 l0_3 l0_4 t175 t176 t177 t178 t181) else (none)) else (none))) else (none))) else (laws_FnDomFind.l1 k3 l1 l2 true x11_3 y189 (y189.length : Int) (wrap64 (x57_3 + 1)) a0_0 a0_1 a0_2 l0_3 l0_4 t175 t176 t177 t178 t181)) = some r := H
                                have A47 := Aside0.mk A470
                                clear A470
                                by_cases c48 : t206 = true
                                · subst c48
                                  have H1 : ((some (([] : List Int) : List Int)).bind fun y207 => (if y207.length + l1.length < 17592186044416 then ((some (y207 ++ l1 : List Int)).bind fun y210 => (if y210.length + (rd_L5 y189 x57_3).length < 17592186044416 then (if x11_3.length < 5864062014805 then (laws_FnDomFind.l1 k3 l1 l2 true (x11_3 ++ [(y210 ++ (rd_L5 y189 x57_3))]) y189 (y189.length : Int) (wrap64 (x57_3 + 1)) a0_0 a0_1 a0_2 l0_3 l0_4 t175 t176 t177 t178 t181) else (none)) else (none))) else (none))) = some r := by rw [if_pos rfl] at H; exact H
                                  clear H
                                  have H := H1
                                  clear H1
                                  obtain ⟨y207, hy207⟩ : ∃ y_ : List Int, y_ = (([] : List Int)) := ⟨_, rfl⟩
                                  replace H : (if y207.length + l1.length < 17592186044416 then ((some (y207 ++ l1 : List Int)).bind fun y210 => (if y210.length + (rd_L5 y189 x57_3).length < 17592186044416 then (if x11_3.length < 5864062014805 then (laws_FnDomFind.l1 k3 l1 l2 true (x11_3 ++ [(y210 ++ (rd_L5 y189 x57_3))]) y189 (y189.length : Int) (wrap64 (x57_3 + 1)) a0_0 a0_1 a0_2 l0_3 l0_4 t175 t176 t177 t178 t181) else (none)) else (none))) else (none)) = some r := by first | (rw [hy207]; with_reducible exact H) | (have H2_ := (Option.bind_some _ _).symm.trans H; rw [hy207]; with_reducible exact H2_) | (have H2_ := (Option.bind_some _ _).symm.trans H; with_reducible exact H2_) | with_reducible exact H | (rw [hy207]; exact H) | exact H
                                  have Ny207 := Aside0.mk hy207
                                  clear hy207
                                  by_cases c49 : y207.length + l1.length < 17592186044416
                                  · rw [if_pos c49] at H
                                    have LMc49 := Aside0.mk c49
                                    clear c49
                                    obtain ⟨y210, hy210⟩ : ∃ y_ : List Int, y_ = (y207 ++ l1) := ⟨_, rfl⟩
                                    replace H : (if y210.length + (rd_L5 y189 x57_3).length < 17592186044416 then (if x11_3.length < 5864062014805 then (laws_FnDomFind.l1 k3 l1 l2 true (x11_3 ++ [(y210 ++ (rd_L5 y189 x57_3))]) y189 (y189.length : Int) (wrap64 (x57_3 + 1)) a0_0 a0_1 a0_2 l0_3 l0_4 t175 t176 t177 t178 t181) else (none)) else (none)) = some r := by first | (rw [hy210]; with_reducible exact H) | (have H2_ := (Option.bind_some _ _).symm.trans H; rw [hy210]; with_reducible exact H2_) | (have H2_ := (Option.bind_some _ _).symm.trans H; with_reducible exact H2_) | with_reducible exact H | (rw [hy210]; exact H) | exact H
                                    have Ny210 := Aside0.mk hy210
                                    clear hy210
                                    by_cases c50 : y210.length + (rd_L5 y189 x57_3).length < 17592186044416
                                    · rw [if_pos c50] at H
                                      have LMc50 := Aside0.mk c50
                                      clear c50
                                      obtain ⟨y213, hy213⟩ : ∃ y_ : List Int, y_ = (y210 ++ (rd_L5 y189 x57_3)) := ⟨_, rfl⟩
                                      replace H : (if x11_3.length < 5864062014805 then (laws_FnDomFind.l1 k3 l1 l2 true (x11_3 ++ [y213]) y189 (y189.length : Int) (wrap64 (x57_3 + 1)) a0_0 a0_1 a0_2 l0_3 l0_4 t175 t176 t177 t178 t181) else (none)) = some r := by first | (rw [hy213]; with_reducible exact H) | (have H2_ := (Option.bind_some _ _).symm.trans H; rw [hy213]; with_reducible exact H2_) | (have H2_ := (Option.bind_some _ _).symm.trans H; with_reducible exact H2_) | with_reducible exact H | (rw [hy213]; exact H) | exact H
                                      have Ny213 := Aside0.mk hy213
                                      clear hy213
                                      by_cases c51 : x11_3.length < 5864062014805
                                      · rw [if_pos c51] at H
                                        have LMc51 := Aside0.mk c51
                                        clear c51
                                        obtain ⟨y216, hy216⟩ : ∃ y_ : List (List Int), y_ = (x11_3 ++ [y213]) := ⟨_, rfl⟩
                                        replace H : (laws_FnDomFind.l1 k3 l1 l2 true y216 y189 (y189.length : Int) (wrap64 (x57_3 + 1)) a0_0 a0_1 a0_2 l0_3 l0_4 t175 t176 t177 t178 t181) = some r := by first | (rw [hy216]; with_reducible exact H) | (have H2_ := (Option.bind_some _ _).symm.trans H; rw [hy216]; with_reducible exact H2_) | (have H2_ := (Option.bind_some _ _).symm.trans H; with_reducible exact H2_) | with_reducible exact H | (rw [hy216]; exact H) | exact H
                                        have Ny216 := Aside0.mk hy216
                                        clear hy216
                                        have H' := Aside0.mk H
                                        clear H
                                        have p194 : 0 ≤ (x57_3 : Int) := of_decide_eq_true (by first | (with_reducible assumption) | assumption)
                                        have q194 : x57_3 < (y189.length : Int) := of_decide_eq_true (by first | (with_reducible assumption) | assumption)
                                        obtain ⟨ad194, A194_0, c194_0, e194, hx194_0, hl194_0, hi194_0⟩ := at_L5 (Kd.V_reads' HO_55.out).2.2 x57_3 p194 q194
                                        cases e194
                                        obtain ⟨ce194, hce194, hMe194, hcc194⟩ := Kd.V_get HO_55.out [] x57_3 p194 (by first | exact q194 | exact of_decide_eq_true (by first | (with_reducible assumption) | assumption) | (have e_ := (Kd.V_reads' HO_55.out).1; omega))
                                        obtain ⟨ua194_0, uc194_0, rfl, ul194_0, ge194_0⟩ := Kd.FK_slice_open hMe194
                                        have hv194_0 := hcc194 0 _ rfl
                                        rw [Nat.add_zero, show ((Kd.slice 3 (Kd.int .i64))).sz = 1 from rfl, Nat.mul_one] at hv194_0
                                        replace hv194_0 := Option.some.inj (hv194_0.symm.trans hx194_0)
                                        injection hv194_0 with hva_ hvn_ hvc_
                                        rw [hva_] at ge194_0
                                        rw [hvc_] at ul194_0
                                        have HL194_0 := Aside0.mk (show Kd.V (Kd.int .i64) 3 _ w.heap.size _ _ (rd_L5 y189 x57_3) from Kd.V_mk ul194_0 ge194_0)
                                        clear hva_ hvn_ hvc_ ge194_0 ul194_0
                                        clear hcc194 hce194
                                        have HR194_0 := Aside0.mk hi194_0
                                        have HC194_0 := Aside0.mk hl194_0
                                        clear hi194_0 hl194_0
                                        replace p194 := eq_true p194
                                        replace q194 := eq_true q194
                                        have hnb52 := NB185_169.out
                                        have hnc52 := NB169_185.out
                                        have hcz53_0 : wr.cell? ⟨gb185, 0, none⟩ = some (.int .i64 t175) := (blk_cell BK185.out 0).trans rfl
                                        have hcz53_1 : wr.cell? ⟨gb185, 1, none⟩ = some (.string t176) := (blk_cell BK185.out 1).trans rfl
                                        have hcz53_2 : wr.cell? ⟨gb185, 2, none⟩ = some (.string t177) := (blk_cell BK185.out 2).trans rfl
                                        have hcz53_3 : wr.cell? ⟨gb185, 3, none⟩ = some (.slice Ao33 t178.length co33) := (blk_cell BK185.out 3).trans rfl
                                        have hcz53_4 : wr.cell? ⟨gb185, 4, none⟩ = some (.slice Ao34 t181.length co34) := (blk_cell BK185.out 4).trans rfl
                                        have hfz53_0 := blk_frozen BK185.out 0
                                        have hfz53_1 := blk_frozen BK185.out 1
                                        have hfz53_2 := blk_frozen BK185.out 2
                                        have hfz53_3 := blk_frozen BK185.out 3
                                        have hfz53_4 := blk_frozen BK185.out 4
                                        go_wp2_with (first | ((with_reducible refine gate_callee (f := 17) rfl ?_); refine goesL_ (some 64) rfl rfl Try.func17 (by kernel_rfl) rfl #[.agg #[.int .i64 t175, .string t176, .string t177, .slice Ao33 t178.length co33, .slice Ao34 t181.length co34], .slice A194_0 (rd_L5 y189 x57_3).length c194_0] rfl (by (try simp only [List.map_toArray, List.map_cons, List.map_nil]); first | done | rfl | (simp only [List.length_drop, List.length_take]; rfl)) ?_; (with_reducible refine (spec_At29.calls k3 t175 t176 t177 (fun k_ => (some k_ ≠ (u11 : Value).ownBlock ∧ (k_ ≠ gb169 ∧ k_ ≠ gb185))) _ _ t178 (fun k_ => (some k_ ≠ (u11 : Value).ownBlock ∧ (k_ ≠ gb169 ∧ k_ ≠ gb185))) _ _ t181 _ _ (rd_L5 y189 x57_3) t195 t196 t197 t198 t201 t204 _ ?side1 ?side2 ?side3 ?side4 A46.out).mono ?_); (case side1 => exact HO_186003.out); (case side2 => exact HO_186004.out); (case side3 => repeat (first | exact (by repeat (first | (with_reducible exact HR194_0.out) | (with_reducible refine Kd.C_alloc ?_ _) | (with_reducible refine Kd.C_drewN ?_ _) | (with_reducible refine Kd.C_drew ?_) | exact HR194_0.out)) | (with_reducible refine Kd.C_alloc ?_ _) | (with_reducible refine Kd.C_drewN ?_ _) | (with_reducible refine Kd.C_drew ?_))); (case side4 => exact HC194_0.out); rintro e w54 ⟨v199, v202, rfl, ho0, ho1, hb⟩; refine ⟨_, rfl, ?_⟩; have n0_ := Aside0.mk (Kd.N_below (by (with_reducible repeat (first | apply Kd.N_alloc | apply Kd.N_drewN | apply Kd.N_drew)); exact HO_11.out) hb); have n1_ := Aside0.mk (Kd.V_below (by (with_reducible repeat (first | apply Kd.V_alloc | apply Kd.V_drewN | apply Kd.V_drew)); exact HO_55.out) hb); have n2_ := Aside0.mk (Kd.V_below (by (with_reducible repeat (first | apply Kd.V_alloc | apply Kd.V_drewN | apply Kd.V_drew)); exact HO_186003.out) hb); have n3_ := Aside0.mk (Kd.V_below (by (with_reducible repeat (first | apply Kd.V_alloc | apply Kd.V_drewN | apply Kd.V_drew)); exact HO_186004.out) hb); have n4_ := Aside0.mk (Kd.V_below (by (with_reducible repeat (first | apply Kd.V_alloc | apply Kd.V_drewN | apply Kd.V_drew)); exact HL194_0.out) hb); have n5_ := Aside0.mk (Kd.V_lower (Kd.V_mono (ok' := fun k_ => some k_ ≠ (u11 : Value).ownBlock ∧ k_ ≠ gb169 ∧ k_ ≠ gb185) ho0 (fun k_ hk_ => ⟨Or.elim hk_ (fun hs_ => Or.elim hs_ (fun hs_ => hs_.1) (fun hs_ => hs_.1)) (fun hn_ => (Kd.fresh' (Kd.N_lt (by (with_reducible repeat (first | apply Kd.N_alloc | apply Kd.N_drewN | apply Kd.N_drew)); exact HO_11.out)) k_ hn_)), Or.elim hk_ (fun hs_ => Or.elim hs_ (fun hs_ => hs_.2.1) (fun hs_ => hs_.2.1)) (fun hn_ => (Kd.freshB (g := gb169) (o := .cells #[.int .i64 a0_0, .string a0_1, .string a0_2, .slice A0_3 l0_3.length c0_3, .slice A0_4 l0_4.length c0_4] 25 (0, 0)) (by (with_reducible repeat (first | refine blk_drewN ?_ _ | refine blk_drew ?_ | refine blk_alloc ?_ _)); exact BK169.out) k_ hn_)), Or.elim hk_ (fun hs_ => Or.elim hs_ (fun hs_ => hs_.2.2) (fun hs_ => hs_.2.2)) (fun hn_ => (Kd.freshB (g := gb185) (o := .cells #[.int .i64 t175, .string t176, .string t177, .slice Ao33 t178.length co33, .slice Ao34 t181.length co34] 25 (0, 0)) (by (with_reducible repeat (first | refine blk_drewN ?_ _ | refine blk_drew ?_ | refine blk_alloc ?_ _)); exact BK185.out) k_ hn_))⟩)) (below_size (by repeat (first | (with_reducible first | exact HB.out | apply below_alloc | apply pw_below_drewN | apply below_drew1 | refine below_set ?_ GE169.out | refine below_set ?_ GE185.out) | exact HB.out)))); have n6_ := Aside0.mk (Kd.V_lower (Kd.V_mono (ok' := fun k_ => some k_ ≠ (u11 : Value).ownBlock ∧ k_ ≠ gb169 ∧ k_ ≠ gb185) ho1 (fun k_ hk_ => ⟨Or.elim hk_ (fun hs_ => Or.elim hs_ (fun hs_ => hs_.1) (fun hs_ => hs_.1)) (fun hn_ => (Kd.fresh' (Kd.N_lt (by (with_reducible repeat (first | apply Kd.N_alloc | apply Kd.N_drewN | apply Kd.N_drew)); exact HO_11.out)) k_ hn_)), Or.elim hk_ (fun hs_ => Or.elim hs_ (fun hs_ => hs_.2.1) (fun hs_ => hs_.2.1)) (fun hn_ => (Kd.freshB (g := gb169) (o := .cells #[.int .i64 a0_0, .string a0_1, .string a0_2, .slice A0_3 l0_3.length c0_3, .slice A0_4 l0_4.length c0_4] 25 (0, 0)) (by (with_reducible repeat (first | refine blk_drewN ?_ _ | refine blk_drew ?_ | refine blk_alloc ?_ _)); exact BK169.out) k_ hn_)), Or.elim hk_ (fun hs_ => Or.elim hs_ (fun hs_ => hs_.2.2) (fun hs_ => hs_.2.2)) (fun hn_ => (Kd.freshB (g := gb185) (o := .cells #[.int .i64 t175, .string t176, .string t177, .slice Ao33 t178.length co33, .slice Ao34 t181.length co34] 25 (0, 0)) (by (with_reducible repeat (first | refine blk_drewN ?_ _ | refine blk_drew ?_ | refine blk_alloc ?_ _)); exact BK185.out) k_ hn_))⟩)) (below_size (by repeat (first | (with_reducible first | exact HB.out | apply below_alloc | apply pw_below_drewN | apply below_drew1 | refine below_set ?_ GE169.out | refine below_set ?_ GE185.out) | exact HB.out)))); have n7_ := Aside0.mk (blk_below (g := gb169) (o := .cells #[.int .i64 a0_0, .string a0_1, .string a0_2, .slice A0_3 l0_3.length c0_3, .slice A0_4 l0_4.length c0_4] 25 (0, 0)) (by (with_reducible repeat (first | refine blk_drewN ?_ _ | refine blk_drew ?_ | refine blk_alloc ?_ _)); exact BK169.out) hb); have n8_ := Aside0.mk (blk_below (g := gb185) (o := .cells #[.int .i64 t175, .string t176, .string t177, .slice Ao33 t178.length co33, .slice Ao34 t181.length co34] 25 (0, 0)) (by (with_reducible repeat (first | refine blk_drewN ?_ _ | refine blk_drew ?_ | refine blk_alloc ?_ _)); exact BK185.out) hb); have n9_ := Aside0.mk (Kd.C_below (by repeat (first | (with_reducible exact HR194_0.out) | (with_reducible refine Kd.C_alloc ?_ _) | (with_reducible refine Kd.C_drewN ?_ _) | (with_reducible refine Kd.C_drew ?_) | exact HR194_0.out)) hb); have n10_ := Aside0.mk (below_step (by repeat (first | (with_reducible first | exact HB.out | apply below_alloc | apply pw_below_drewN | apply below_drew1 | refine below_set ?_ GE169.out | refine below_set ?_ GE185.out) | exact HB.out)) hb); clear HO_11; clear HO_55; clear HO_186003; clear HO_186004; clear HL194_0; clear BK169; clear BK185; clear HR194_0; clear HB; have HO_11 := n0_; have HO_55 := n1_; have HO_186003 := n2_; have HO_186004 := n3_; have HL194_0 := n4_; have HO200 := n5_; have HO203 := n6_; have BK169 := n7_; have BK185 := n8_; have HR194_0 := n9_; have HB := n10_; clear n0_ n1_ n2_ n3_ n4_ n5_ n6_ n7_ n8_ n9_ n10_; (try clear hb); (try clear hb2); (try clear hk); (try clear hi); (try clear ho0); (try clear ho1)) | ((with_reducible refine gate_dst (N := 14) rfl ?_); (try (refine gate_guard (by rfl) ?_; dsimp only)); refine box_event ?hg (N := 14) ?hd (cs := #[.int .i64 0, .string (⟨#[]⟩ : ByteArray), .string (⟨#[]⟩ : ByteArray), .slice none 0 0, .slice none 0 0]) (t := 25) ?hr ?_; (case hd => rfl); (case hg => rfl); (case hr => first | (go_simp; done) | (go_simp; rfl)); intro gb205 hg w55 hbox hb; have n0_ := Aside0.mk (Kd.N_below (Kd.N_elderB (by (with_reducible repeat (first | apply Kd.N_alloc | apply Kd.N_drewN | apply Kd.N_drew)); exact HO_11.out) gb205 (Nat.le_of_eq hg.symm)) hb); have n1_ := Aside0.mk (Kd.V_below (Kd.V_elderB (by (with_reducible repeat (first | apply Kd.V_alloc | apply Kd.V_drewN | apply Kd.V_drew)); exact HO_55.out) gb205 (Nat.le_of_eq hg.symm)) hb); have n2_ := Aside0.mk (Kd.V_below (Kd.V_elderB (by (with_reducible repeat (first | apply Kd.V_alloc | apply Kd.V_drewN | apply Kd.V_drew)); exact HO_186003.out) gb205 (Nat.le_of_eq hg.symm)) hb); have n3_ := Aside0.mk (Kd.V_below (Kd.V_elderB (by (with_reducible repeat (first | apply Kd.V_alloc | apply Kd.V_drewN | apply Kd.V_drew)); exact HO_186004.out) gb205 (Nat.le_of_eq hg.symm)) hb); have n4_ := Aside0.mk (Kd.V_below (Kd.V_elderB (by (with_reducible repeat (first | apply Kd.V_alloc | apply Kd.V_drewN | apply Kd.V_drew)); exact HL194_0.out) gb205 (Nat.le_of_eq hg.symm)) hb); have n5_ := Aside0.mk (Kd.V_below (Kd.V_elderB (by (with_reducible repeat (first | apply Kd.V_alloc | apply Kd.V_drewN | apply Kd.V_drew)); exact HO200.out) gb205 (Nat.le_of_eq hg.symm)) hb); have n6_ := Aside0.mk (Kd.V_below (Kd.V_elderB (by (with_reducible repeat (first | apply Kd.V_alloc | apply Kd.V_drewN | apply Kd.V_drew)); exact HO203.out) gb205 (Nat.le_of_eq hg.symm)) hb); have n7_ := Aside0.mk (blk_below (g := gb169) (o := .cells #[.int .i64 a0_0, .string a0_1, .string a0_2, .slice A0_3 l0_3.length c0_3, .slice A0_4 l0_4.length c0_4] 25 (0, 0)) (by (with_reducible repeat (first | refine blk_drewN ?_ _ | refine blk_drew ?_ | refine blk_alloc ?_ _)); exact BK169.out) hb); have n8_ := Aside0.mk (blk_below (g := gb185) (o := .cells #[.int .i64 t175, .string t176, .string t177, .slice Ao33 t178.length co33, .slice Ao34 t181.length co34] 25 (0, 0)) (by (with_reducible repeat (first | refine blk_drewN ?_ _ | refine blk_drew ?_ | refine blk_alloc ?_ _)); exact BK185.out) hb); have n9_ := Aside0.mk (Kd.C_below (by repeat (first | (with_reducible exact HR194_0.out) | (with_reducible refine Kd.C_alloc ?_ _) | (with_reducible refine Kd.C_drewN ?_ _) | (with_reducible refine Kd.C_drew ?_) | exact HR194_0.out)) hb); have n10_ := Aside0.mk (below_step (by repeat (first | (with_reducible first | exact HB.out | apply below_alloc | apply pw_below_drewN | apply below_drew1 | refine below_set ?_ GE169.out | refine below_set ?_ GE185.out) | exact HB.out)) hb); have n11_ := Aside0.mk (hbox); have n12_ := Aside0.mk ((by rw [hg]; exact (below_size (by repeat (first | (with_reducible first | exact HB.out | apply below_alloc | apply pw_below_drewN | apply below_drew1 | refine below_set ?_ GE169.out | refine below_set ?_ GE185.out) | exact HB.out))) : w.heap.size ≤ gb205)); have n13_ := Aside0.mk ((by rw [hg]; exact (below_size (by repeat (first | (with_reducible first | exact HB.out | apply below_alloc | apply pw_below_drewN | apply below_drew1 | refine below_set ?_ GE169.out | refine below_set ?_ GE185.out) | exact HB.out))) : w.heap.size ≤ gb205)); have n14_ := Aside0.mk ((by rw [hg]; exact Nat.ne_of_lt (blk_lt (g := gb169) (o := .cells #[.int .i64 a0_0, .string a0_1, .string a0_2, .slice A0_3 l0_3.length c0_3, .slice A0_4 l0_4.length c0_4] 25 (0, 0)) (by (with_reducible repeat (first | refine blk_drewN ?_ _ | refine blk_drew ?_ | refine blk_alloc ?_ _)); exact BK169.out)) : gb169 ≠ gb205)); have n15_ := Aside0.mk ((by rw [hg]; exact Nat.ne_of_gt (blk_lt (g := gb169) (o := .cells #[.int .i64 a0_0, .string a0_1, .string a0_2, .slice A0_3 l0_3.length c0_3, .slice A0_4 l0_4.length c0_4] 25 (0, 0)) (by (with_reducible repeat (first | refine blk_drewN ?_ _ | refine blk_drew ?_ | refine blk_alloc ?_ _)); exact BK169.out)) : gb205 ≠ gb169)); have n16_ := Aside0.mk ((by rw [hg]; exact Nat.ne_of_lt (blk_lt (g := gb185) (o := .cells #[.int .i64 t175, .string t176, .string t177, .slice Ao33 t178.length co33, .slice Ao34 t181.length co34] 25 (0, 0)) (by (with_reducible repeat (first | refine blk_drewN ?_ _ | refine blk_drew ?_ | refine blk_alloc ?_ _)); exact BK185.out)) : gb185 ≠ gb205)); have n17_ := Aside0.mk ((by rw [hg]; exact Nat.ne_of_gt (blk_lt (g := gb185) (o := .cells #[.int .i64 t175, .string t176, .string t177, .slice Ao33 t178.length co33, .slice Ao34 t181.length co34] 25 (0, 0)) (by (with_reducible repeat (first | refine blk_drewN ?_ _ | refine blk_drew ?_ | refine blk_alloc ?_ _)); exact BK185.out)) : gb205 ≠ gb185)); clear HO_11; clear HO_55; clear HO_186003; clear HO_186004; clear HL194_0; clear HO200; clear HO203; clear BK169; clear BK185; clear HR194_0; clear HB; have HO_11 := n0_; have HO_55 := n1_; have HO_186003 := n2_; have HO_186004 := n3_; have HL194_0 := n4_; have HO200 := n5_; have HO203 := n6_; have BK169 := n7_; have BK185 := n8_; have HR194_0 := n9_; have HB := n10_; have BK205 := n11_; have GW205 := n12_; have GE205 := n13_; have NB169_205 := n14_; have NB205_169 := n15_; have NB185_205 := n16_; have NB205_185 := n17_; clear n0_ n1_ n2_ n3_ n4_ n5_ n6_ n7_ n8_ n9_ n10_ n11_ n12_ n13_ n14_ n15_ n16_ n17_; clear hb hbox hg; have hnb56 := NB205_169.out; have hnc56 := NB169_205.out; have hnb57 := NB205_185.out; have hnc57 := NB185_205.out; have hcz58_0 : w55.cell? ⟨gb205, 0, none⟩ = some (.int .i64 0) := (blk_cell BK205.out 0).trans rfl; have hcz58_1 : w55.cell? ⟨gb205, 1, none⟩ = some (.string (⟨#[]⟩ : ByteArray)) := (blk_cell BK205.out 1).trans rfl; have hcz58_2 : w55.cell? ⟨gb205, 2, none⟩ = some (.string (⟨#[]⟩ : ByteArray)) := (blk_cell BK205.out 2).trans rfl; have hcz58_3 : w55.cell? ⟨gb205, 3, none⟩ = some (.slice none 0 0) := (blk_cell BK205.out 3).trans rfl; have hcz58_4 : w55.cell? ⟨gb205, 4, none⟩ = some (.slice none 0 0) := (blk_cell BK205.out 4).trans rfl; have hfz58_0 := blk_frozen BK205.out 0; have hfz58_1 := blk_frozen BK205.out 1; have hfz58_2 := blk_frozen BK205.out 2; have hfz58_3 := blk_frozen BK205.out 3; have hfz58_4 := blk_frozen BK205.out 4; obtain ⟨Ao59, co59, eo59⟩ := Kd.V_slice HO200.out; subst eo59; obtain ⟨Ao60, co60, eo60⟩ := Kd.V_slice HO203.out; subst eo60) | ((with_reducible refine gate_callee (f := 18) rfl ?_); refine goesL_ (some 69) rfl rfl Try.func18 (by kernel_rfl) rfl #[.agg #[.int .i64 t195, .string t196, .string t197, .slice Ao59 t198.length co59, .slice Ao60 t201.length co60], .slice A2 l2.length c2] rfl (by (try simp only [List.map_toArray, List.map_cons, List.map_nil]); first | done | rfl | (simp only [List.length_drop, List.length_take]; rfl)) ?_; (with_reducible refine (laws_among29.calls k3 t195 t196 t197 _ _ t198 _ _ t201 _ _ l2 true _ ?side1 ?side2 ?side3 ?side4 ?side5 ?side6 A47.out).mono ?_); (case side1 => refine (Kd.V_reads' (e := 78) (base := w.heap.size) (ok := fun k_ => ((some k_ ≠ (u11 : Value).ownBlock ∧ (k_ ≠ gb169 ∧ k_ ≠ gb185)) ∧ k_ ≠ gb205)) (n := t198.length) (c := co59) ?_).2.2; exact (by (with_reducible repeat (first | apply Kd.V_alloc | apply Kd.V_drewN | apply Kd.V_drew)); exact (Kd.V_mono (Kd.V_far (p := ⟨gb205, 4, none⟩) (Kd.V_far (p := ⟨gb205, 3, none⟩) (Kd.V_far (p := ⟨gb205, 2, none⟩) (Kd.V_far (p := ⟨gb205, 1, none⟩) (Kd.V_far (p := ⟨gb205, 0, none⟩) (Kd.V_mono HO200.out (fun k_ hk => (⟨hk, hk.2⟩ : _ ∧ k_ ≠ gb205))) (fun _ hk => hk.2) (.int .i64 t195)) (fun _ hk => hk.2) (.string t196)) (fun _ hk => hk.2) (.string t197)) (fun _ hk => hk.2) (.slice Ao59 t198.length co59)) (fun _ hk => hk.2) (.slice Ao60 t201.length co60)) (fun _ h_ => h_.1)))); (case side2 => exact (Kd.V_reads' HO200.out).2.1); (case side3 => refine (Kd.V_reads' (e := 25) (base := w.heap.size) (ok := fun k_ => ((some k_ ≠ (u11 : Value).ownBlock ∧ (k_ ≠ gb169 ∧ k_ ≠ gb185)) ∧ k_ ≠ gb205)) (n := t201.length) (c := co60) ?_).2.2; exact (by (with_reducible repeat (first | apply Kd.V_alloc | apply Kd.V_drewN | apply Kd.V_drew)); exact (Kd.V_mono (Kd.V_far (p := ⟨gb205, 4, none⟩) (Kd.V_far (p := ⟨gb205, 3, none⟩) (Kd.V_far (p := ⟨gb205, 2, none⟩) (Kd.V_far (p := ⟨gb205, 1, none⟩) (Kd.V_far (p := ⟨gb205, 0, none⟩) (Kd.V_mono HO203.out (fun k_ hk => (⟨hk, hk.2⟩ : _ ∧ k_ ≠ gb205))) (fun _ hk => hk.2) (.int .i64 t195)) (fun _ hk => hk.2) (.string t196)) (fun _ hk => hk.2) (.string t197)) (fun _ hk => hk.2) (.slice Ao59 t198.length co59)) (fun _ hk => hk.2) (.slice Ao60 t201.length co60)) (fun _ h_ => h_.1)))); (case side4 => exact (Kd.V_reads' HO203.out).2.1); (case side5 => exact Kd.C_below HR2.out (by repeat (first | (with_reducible first | exact HB.out | apply below_alloc | apply pw_below_drewN | apply below_drew1 | refine below_set ?_ GE169.out | refine below_set ?_ GE185.out | refine below_set ?_ GE205.out) | exact HB.out))); (case side6 => exact HC2.out); rintro e w61 ⟨rfl, hb⟩; refine ⟨_, rfl, ?_⟩; have n0_ := Aside0.mk (Kd.N_below (by (with_reducible repeat (first | apply Kd.N_alloc | apply Kd.N_drewN | apply Kd.N_drew)); exact (Kd.N_mono (Kd.N_far (p := ⟨gb205, 4, none⟩) (Kd.N_far (p := ⟨gb205, 3, none⟩) (Kd.N_far (p := ⟨gb205, 2, none⟩) (Kd.N_far (p := ⟨gb205, 1, none⟩) (Kd.N_far (p := ⟨gb205, 0, none⟩) (Kd.N_mono HO_11.out (fun k_ hk => (⟨hk, hk.2⟩ : _ ∧ k_ ≠ gb205))) (fun _ hk => hk.2) (.int .i64 t195)) (fun _ hk => hk.2) (.string t196)) (fun _ hk => hk.2) (.string t197)) (fun _ hk => hk.2) (.slice Ao59 t198.length co59)) (fun _ hk => hk.2) (.slice Ao60 t201.length co60)) (fun _ h_ => h_.1))) hb); have n1_ := Aside0.mk (Kd.V_below (by (with_reducible repeat (first | apply Kd.V_alloc | apply Kd.V_drewN | apply Kd.V_drew)); exact (Kd.V_mono (Kd.V_far (p := ⟨gb205, 4, none⟩) (Kd.V_far (p := ⟨gb205, 3, none⟩) (Kd.V_far (p := ⟨gb205, 2, none⟩) (Kd.V_far (p := ⟨gb205, 1, none⟩) (Kd.V_far (p := ⟨gb205, 0, none⟩) (Kd.V_mono HO_55.out (fun k_ hk => (⟨hk, hk.2⟩ : _ ∧ k_ ≠ gb205))) (fun _ hk => hk.2) (.int .i64 t195)) (fun _ hk => hk.2) (.string t196)) (fun _ hk => hk.2) (.string t197)) (fun _ hk => hk.2) (.slice Ao59 t198.length co59)) (fun _ hk => hk.2) (.slice Ao60 t201.length co60)) (fun _ h_ => h_.1))) hb); have n2_ := Aside0.mk (Kd.V_below (by (with_reducible repeat (first | apply Kd.V_alloc | apply Kd.V_drewN | apply Kd.V_drew)); exact (Kd.V_mono (Kd.V_far (p := ⟨gb205, 4, none⟩) (Kd.V_far (p := ⟨gb205, 3, none⟩) (Kd.V_far (p := ⟨gb205, 2, none⟩) (Kd.V_far (p := ⟨gb205, 1, none⟩) (Kd.V_far (p := ⟨gb205, 0, none⟩) (Kd.V_mono HO_186003.out (fun k_ hk => (⟨hk, hk.2⟩ : _ ∧ k_ ≠ gb205))) (fun _ hk => hk.2) (.int .i64 t195)) (fun _ hk => hk.2) (.string t196)) (fun _ hk => hk.2) (.string t197)) (fun _ hk => hk.2) (.slice Ao59 t198.length co59)) (fun _ hk => hk.2) (.slice Ao60 t201.length co60)) (fun _ h_ => h_.1))) hb); have n3_ := Aside0.mk (Kd.V_below (by (with_reducible repeat (first | apply Kd.V_alloc | apply Kd.V_drewN | apply Kd.V_drew)); exact (Kd.V_mono (Kd.V_far (p := ⟨gb205, 4, none⟩) (Kd.V_far (p := ⟨gb205, 3, none⟩) (Kd.V_far (p := ⟨gb205, 2, none⟩) (Kd.V_far (p := ⟨gb205, 1, none⟩) (Kd.V_far (p := ⟨gb205, 0, none⟩) (Kd.V_mono HO_186004.out (fun k_ hk => (⟨hk, hk.2⟩ : _ ∧ k_ ≠ gb205))) (fun _ hk => hk.2) (.int .i64 t195)) (fun _ hk => hk.2) (.string t196)) (fun _ hk => hk.2) (.string t197)) (fun _ hk => hk.2) (.slice Ao59 t198.length co59)) (fun _ hk => hk.2) (.slice Ao60 t201.length co60)) (fun _ h_ => h_.1))) hb); have n4_ := Aside0.mk (Kd.V_below (by (with_reducible repeat (first | apply Kd.V_alloc | apply Kd.V_drewN | apply Kd.V_drew)); exact (Kd.V_mono (Kd.V_far (p := ⟨gb205, 4, none⟩) (Kd.V_far (p := ⟨gb205, 3, none⟩) (Kd.V_far (p := ⟨gb205, 2, none⟩) (Kd.V_far (p := ⟨gb205, 1, none⟩) (Kd.V_far (p := ⟨gb205, 0, none⟩) (Kd.V_mono HL194_0.out (fun k_ hk => (⟨hk, hk.2⟩ : _ ∧ k_ ≠ gb205))) (fun _ hk => hk.2) (.int .i64 t195)) (fun _ hk => hk.2) (.string t196)) (fun _ hk => hk.2) (.string t197)) (fun _ hk => hk.2) (.slice Ao59 t198.length co59)) (fun _ hk => hk.2) (.slice Ao60 t201.length co60)) (fun _ h_ => h_.1))) hb); have n5_ := Aside0.mk (Kd.V_below (by (with_reducible repeat (first | apply Kd.V_alloc | apply Kd.V_drewN | apply Kd.V_drew)); exact (Kd.V_mono (Kd.V_far (p := ⟨gb205, 4, none⟩) (Kd.V_far (p := ⟨gb205, 3, none⟩) (Kd.V_far (p := ⟨gb205, 2, none⟩) (Kd.V_far (p := ⟨gb205, 1, none⟩) (Kd.V_far (p := ⟨gb205, 0, none⟩) (Kd.V_mono HO200.out (fun k_ hk => (⟨hk, hk.2⟩ : _ ∧ k_ ≠ gb205))) (fun _ hk => hk.2) (.int .i64 t195)) (fun _ hk => hk.2) (.string t196)) (fun _ hk => hk.2) (.string t197)) (fun _ hk => hk.2) (.slice Ao59 t198.length co59)) (fun _ hk => hk.2) (.slice Ao60 t201.length co60)) (fun _ h_ => h_.1))) hb); have n6_ := Aside0.mk (Kd.V_below (by (with_reducible repeat (first | apply Kd.V_alloc | apply Kd.V_drewN | apply Kd.V_drew)); exact (Kd.V_mono (Kd.V_far (p := ⟨gb205, 4, none⟩) (Kd.V_far (p := ⟨gb205, 3, none⟩) (Kd.V_far (p := ⟨gb205, 2, none⟩) (Kd.V_far (p := ⟨gb205, 1, none⟩) (Kd.V_far (p := ⟨gb205, 0, none⟩) (Kd.V_mono HO203.out (fun k_ hk => (⟨hk, hk.2⟩ : _ ∧ k_ ≠ gb205))) (fun _ hk => hk.2) (.int .i64 t195)) (fun _ hk => hk.2) (.string t196)) (fun _ hk => hk.2) (.string t197)) (fun _ hk => hk.2) (.slice Ao59 t198.length co59)) (fun _ hk => hk.2) (.slice Ao60 t201.length co60)) (fun _ h_ => h_.1))) hb); have n7_ := Aside0.mk (blk_below (g := gb169) (o := .cells #[.int .i64 a0_0, .string a0_1, .string a0_2, .slice A0_3 l0_3.length c0_3, .slice A0_4 l0_4.length c0_4] 25 (0, 0)) (by (with_reducible repeat (first | refine blk_drewN ?_ _ | refine blk_drew ?_ | refine blk_alloc ?_ _)); refine blk_far ?_ NB169_205.out _; (with_reducible repeat (first | refine blk_drewN ?_ _ | refine blk_drew ?_ | refine blk_alloc ?_ _)); refine blk_far ?_ NB169_205.out _; (with_reducible repeat (first | refine blk_drewN ?_ _ | refine blk_drew ?_ | refine blk_alloc ?_ _)); refine blk_far ?_ NB169_205.out _; (with_reducible repeat (first | refine blk_drewN ?_ _ | refine blk_drew ?_ | refine blk_alloc ?_ _)); refine blk_far ?_ NB169_205.out _; (with_reducible repeat (first | refine blk_drewN ?_ _ | refine blk_drew ?_ | refine blk_alloc ?_ _)); refine blk_far ?_ NB169_205.out _; (with_reducible repeat (first | refine blk_drewN ?_ _ | refine blk_drew ?_ | refine blk_alloc ?_ _)); exact BK169.out) hb); have n8_ := Aside0.mk (blk_below (g := gb185) (o := .cells #[.int .i64 t175, .string t176, .string t177, .slice Ao33 t178.length co33, .slice Ao34 t181.length co34] 25 (0, 0)) (by (with_reducible repeat (first | refine blk_drewN ?_ _ | refine blk_drew ?_ | refine blk_alloc ?_ _)); refine blk_far ?_ NB185_205.out _; (with_reducible repeat (first | refine blk_drewN ?_ _ | refine blk_drew ?_ | refine blk_alloc ?_ _)); refine blk_far ?_ NB185_205.out _; (with_reducible repeat (first | refine blk_drewN ?_ _ | refine blk_drew ?_ | refine blk_alloc ?_ _)); refine blk_far ?_ NB185_205.out _; (with_reducible repeat (first | refine blk_drewN ?_ _ | refine blk_drew ?_ | refine blk_alloc ?_ _)); refine blk_far ?_ NB185_205.out _; (with_reducible repeat (first | refine blk_drewN ?_ _ | refine blk_drew ?_ | refine blk_alloc ?_ _)); refine blk_far ?_ NB185_205.out _; (with_reducible repeat (first | refine blk_drewN ?_ _ | refine blk_drew ?_ | refine blk_alloc ?_ _)); exact BK185.out) hb); have n9_ := Aside0.mk (Kd.C_below ((Kd.V_reads' (by (with_reducible repeat (first | apply Kd.V_alloc | apply Kd.V_drewN | apply Kd.V_drew)); exact (Kd.V_mono (Kd.V_far (p := ⟨gb205, 4, none⟩) (Kd.V_far (p := ⟨gb205, 3, none⟩) (Kd.V_far (p := ⟨gb205, 2, none⟩) (Kd.V_far (p := ⟨gb205, 1, none⟩) (Kd.V_far (p := ⟨gb205, 0, none⟩) (Kd.V_mono HL194_0.out (fun k_ hk => (⟨hk, hk.2⟩ : _ ∧ k_ ≠ gb205))) (fun _ hk => hk.2) (.int .i64 t195)) (fun _ hk => hk.2) (.string t196)) (fun _ hk => hk.2) (.string t197)) (fun _ hk => hk.2) (.slice Ao59 t198.length co59)) (fun _ hk => hk.2) (.slice Ao60 t201.length co60)) (fun _ h_ => h_.1)))).2.2) hb); have n10_ := Aside0.mk (blk_below (g := gb205) (o := .cells #[.int .i64 t195, .string t196, .string t197, .slice Ao59 t198.length co59, .slice Ao60 t201.length co60] 25 (0, 0)) (by (with_reducible repeat (first | refine blk_drewN ?_ _ | refine blk_drew ?_ | refine blk_alloc ?_ _)); refine blk_put (cs := #[.int .i64 t195, .string t196, .string t197, .slice Ao59 t198.length co59, .slice none 0 0]) ?_ 4 _ rfl; (with_reducible repeat (first | refine blk_drewN ?_ _ | refine blk_drew ?_ | refine blk_alloc ?_ _)); refine blk_put (cs := #[.int .i64 t195, .string t196, .string t197, .slice none 0 0, .slice none 0 0]) ?_ 3 _ rfl; (with_reducible repeat (first | refine blk_drewN ?_ _ | refine blk_drew ?_ | refine blk_alloc ?_ _)); refine blk_put (cs := #[.int .i64 t195, .string t196, .string (⟨#[]⟩ : ByteArray), .slice none 0 0, .slice none 0 0]) ?_ 2 _ rfl; (with_reducible repeat (first | refine blk_drewN ?_ _ | refine blk_drew ?_ | refine blk_alloc ?_ _)); refine blk_put (cs := #[.int .i64 t195, .string (⟨#[]⟩ : ByteArray), .string (⟨#[]⟩ : ByteArray), .slice none 0 0, .slice none 0 0]) ?_ 1 _ rfl; (with_reducible repeat (first | refine blk_drewN ?_ _ | refine blk_drew ?_ | refine blk_alloc ?_ _)); refine blk_put (cs := #[.int .i64 0, .string (⟨#[]⟩ : ByteArray), .string (⟨#[]⟩ : ByteArray), .slice none 0 0, .slice none 0 0]) ?_ 0 _ rfl; (with_reducible repeat (first | refine blk_drewN ?_ _ | refine blk_drew ?_ | refine blk_alloc ?_ _)); exact BK205.out) hb); have n11_ := Aside0.mk (below_step (by repeat (first | (with_reducible first | exact HB.out | apply below_alloc | apply pw_below_drewN | apply below_drew1 | refine below_set ?_ GE169.out | refine below_set ?_ GE185.out | refine below_set ?_ GE205.out) | exact HB.out)) hb); clear HO_11; clear HO_55; clear HO_186003; clear HO_186004; clear HL194_0; clear HO200; clear HO203; clear BK169; clear BK185; clear HR194_0; clear BK205; clear HB; have HO_11 := n0_; have HO_55 := n1_; have HO_186003 := n2_; have HO_186004 := n3_; have HL194_0 := n4_; have HO200 := n5_; have HO203 := n6_; have BK169 := n7_; have BK185 := n8_; have HR194_0 := n9_; have BK205 := n10_; have HB := n11_; clear n0_ n1_ n2_ n3_ n4_ n5_ n6_ n7_ n8_ n9_ n10_ n11_; (try clear hb); (try clear hb2); (try clear hk); (try clear hi)) | ((with_reducible refine gate_dst (N := 71) rfl ?_); (try (refine gate_guard (by rfl) ?_; dsimp only)); refine Kd.R_lit (Kd.int .i64) _ 3 ?hg (N := 71) ?hd (xs := ([] : List Int)) (inner := []) (ok := fun _ => True) (okp := fun _ => True) ?hr ?hp (fun _ hk => hk) trivial (Below.refl _ _) (Nat.le_refl _) (by simp) ?_; (case hd => rfl); (case hg => rfl); (case hr => first | (go_simp; done) | (go_simp; rfl)); (case hp => exact (Reps.none _ _)); intro v208 w62 ho63 hb hg_ hnew_; clear hg_ hnew_; (first | rw [← Ny207.out] at ho63 | (simp only [Int.reduceToNat] at ho63; rw [← Ny207.out] at ho63)); have n0_ := Aside0.mk (Kd.N_elder' (by (with_reducible repeat (first | apply Kd.N_alloc | apply Kd.N_drewN | apply Kd.N_drew)); exact HO_11.out) (Kd.R_base ho63) hb); have n1_ := Aside0.mk (Kd.V_elder' (by (with_reducible repeat (first | apply Kd.V_alloc | apply Kd.V_drewN | apply Kd.V_drew)); exact HO_55.out) (Kd.R_base ho63) hb); have n2_ := Aside0.mk (Kd.V_elder' (by (with_reducible repeat (first | apply Kd.V_alloc | apply Kd.V_drewN | apply Kd.V_drew)); exact HO_186003.out) (Kd.R_base ho63) hb); have n3_ := Aside0.mk (Kd.V_elder' (by (with_reducible repeat (first | apply Kd.V_alloc | apply Kd.V_drewN | apply Kd.V_drew)); exact HO_186004.out) (Kd.R_base ho63) hb); have n4_ := Aside0.mk (Kd.V_elder' (by (with_reducible repeat (first | apply Kd.V_alloc | apply Kd.V_drewN | apply Kd.V_drew)); exact HL194_0.out) (Kd.R_base ho63) hb); have n5_ := Aside0.mk (Kd.V_elder' (by (with_reducible repeat (first | apply Kd.V_alloc | apply Kd.V_drewN | apply Kd.V_drew)); exact HO200.out) (Kd.R_base ho63) hb); have n6_ := Aside0.mk (Kd.V_elder' (by (with_reducible repeat (first | apply Kd.V_alloc | apply Kd.V_drewN | apply Kd.V_drew)); exact HO203.out) (Kd.R_base ho63) hb); have n7_ := Aside0.mk (Kd.R_lower ho63 (below_size (by repeat (first | (with_reducible first | exact HB.out | apply below_alloc | apply pw_below_drewN | apply below_drew1 | refine below_set ?_ GE169.out | refine below_set ?_ GE185.out | refine below_set ?_ GE205.out) | exact HB.out)))); have n8_ := Aside0.mk (blk_below (g := gb169) (o := .cells #[.int .i64 a0_0, .string a0_1, .string a0_2, .slice A0_3 l0_3.length c0_3, .slice A0_4 l0_4.length c0_4] 25 (0, 0)) (by (with_reducible repeat (first | refine blk_drewN ?_ _ | refine blk_drew ?_ | refine blk_alloc ?_ _)); exact BK169.out) hb); have n9_ := Aside0.mk (blk_below (g := gb185) (o := .cells #[.int .i64 t175, .string t176, .string t177, .slice Ao33 t178.length co33, .slice Ao34 t181.length co34] 25 (0, 0)) (by (with_reducible repeat (first | refine blk_drewN ?_ _ | refine blk_drew ?_ | refine blk_alloc ?_ _)); exact BK185.out) hb); have n10_ := Aside0.mk (Kd.C_below (by repeat (first | (with_reducible exact HR194_0.out) | (with_reducible refine Kd.C_alloc ?_ _) | (with_reducible refine Kd.C_drewN ?_ _) | (with_reducible refine Kd.C_drew ?_) | exact HR194_0.out)) hb); have n11_ := Aside0.mk (blk_below (g := gb205) (o := .cells #[.int .i64 t195, .string t196, .string t197, .slice Ao59 t198.length co59, .slice Ao60 t201.length co60] 25 (0, 0)) (by (with_reducible repeat (first | refine blk_drewN ?_ _ | refine blk_drew ?_ | refine blk_alloc ?_ _)); exact BK205.out) hb); have n12_ := Aside0.mk (below_step (by repeat (first | (with_reducible first | exact HB.out | apply below_alloc | apply pw_below_drewN | apply below_drew1 | refine below_set ?_ GE169.out | refine below_set ?_ GE185.out | refine below_set ?_ GE205.out) | exact HB.out)) hb); clear HO_11; clear HO_55; clear HO_186003; clear HO_186004; clear HL194_0; clear HO200; clear HO203; clear BK169; clear BK185; clear HR194_0; clear BK205; clear HB; have HO_11 := n0_; have HO_55 := n1_; have HO_186003 := n2_; have HO_186004 := n3_; have HL194_0 := n4_; have HO200 := n5_; have HO203 := n6_; have HO209 := n7_; have BK169 := n8_; have BK185 := n9_; have HR194_0 := n10_; have BK205 := n11_; have HB := n12_; clear n0_ n1_ n2_ n3_ n4_ n5_ n6_ n7_ n8_ n9_ n10_ n11_ n12_; clear hb ho63) | ((with_reducible refine gate_builtin (b := .append) (xs := #[.tmp 71, .tmp 72]) rfl ?_); (try (refine gate_guard (by rfl) ?_; dsimp only)); at_builtin; refine Kd.R_append_rows (Kd.int .i64) (w0 := w) w.heap.size rfl (.tmp 71) (.tmp 72) 32 3 (.int .i64 0) 8 rfl Try.underlying32 info3 rfl (by decide) (by omega) v208 y207 l1 _ _ _ (fun _ => True) (fun _ => False) rfl rfl ?aO ?aR (fun _ _ h => h) (fun _ h => h.elim) ?aF ?aB ?aS ?aL ?_; (case aR => repeat (first | exact (Kd.C_below HR1.out HB.out) | (with_reducible refine Kd.C_alloc ?_ _) | (with_reducible refine Kd.C_drewN ?_ _) | (with_reducible refine Kd.C_drew ?_))); (case aB => exact (by repeat (first | (with_reducible first | exact HB.out | apply below_alloc | apply pw_below_drewN | apply below_drew1 | refine below_set ?_ GE169.out | refine below_set ?_ GE185.out | refine below_set ?_ GE205.out) | exact HB.out))); (case aF => exact (fun _ _ => trivial)); (case aO => exact (by (with_reducible repeat (first | apply Kd.R_alloc | apply Kd.R_drewN | apply Kd.R_drew)); exact HO209.out)); (case aS => exact (below_size (by repeat (first | (with_reducible first | exact HB.out | apply below_alloc | apply pw_below_drewN | apply below_drew1 | refine below_set ?_ GE169.out | refine below_set ?_ GE185.out | refine below_set ?_ GE205.out) | exact HB.out)))); (case aL => have := LMc49.out; omega); intro v211 w64 ho hb hg hat; rw [← Ny210.out] at ho; have n0_ := Aside0.mk (Kd.N_afterv (ok := (fun k_ => k_ ≠ gb169 ∧ k_ ≠ gb185 ∧ k_ ≠ gb205)) (by (with_reducible repeat (first | apply Kd.N_alloc | apply Kd.N_drewN | apply Kd.N_drew)); exact Kd.N_mono HO_11.out (fun _ hk => ⟨⟨hk.1.1.1, ⟨hk.1.1.2, hk.1.2⟩⟩, hk.2⟩)) hg hat); have n1_ := Aside0.mk (Kd.V_afterv (ok := (fun k_ => some k_ ≠ (u11 : Value).ownBlock ∧ k_ ≠ gb169 ∧ k_ ≠ gb185 ∧ k_ ≠ gb205)) (by (with_reducible repeat (first | apply Kd.V_alloc | apply Kd.V_drewN | apply Kd.V_drew)); exact Kd.V_mono HO_55.out (fun _ hk => ⟨⟨hk.1.1.1, ⟨hk.1.1.2.1, ⟨hk.1.1.2.2, hk.1.2⟩⟩⟩, hk.2⟩)) hg hat); have n2_ := Aside0.mk (Kd.V_afterv (ok := (fun k_ => some k_ ≠ (u11 : Value).ownBlock ∧ k_ ≠ gb169 ∧ k_ ≠ gb185 ∧ k_ ≠ gb205)) (by (with_reducible repeat (first | apply Kd.V_alloc | apply Kd.V_drewN | apply Kd.V_drew)); exact Kd.V_mono HO_186003.out (fun _ hk => ⟨⟨hk.1.1.1, ⟨hk.1.1.2.1, ⟨hk.1.1.2.2, hk.1.2⟩⟩⟩, hk.2⟩)) hg hat); have n3_ := Aside0.mk (Kd.V_afterv (ok := (fun k_ => some k_ ≠ (u11 : Value).ownBlock ∧ k_ ≠ gb169 ∧ k_ ≠ gb185 ∧ k_ ≠ gb205)) (by (with_reducible repeat (first | apply Kd.V_alloc | apply Kd.V_drewN | apply Kd.V_drew)); exact Kd.V_mono HO_186004.out (fun _ hk => ⟨⟨hk.1.1.1, ⟨hk.1.1.2.1, ⟨hk.1.1.2.2, hk.1.2⟩⟩⟩, hk.2⟩)) hg hat); have n4_ := Aside0.mk (blk_grown (g := gb169) (o := .cells #[.int .i64 a0_0, .string a0_1, .string a0_2, .slice A0_3 l0_3.length c0_3, .slice A0_4 l0_4.length c0_4] 25 (0, 0)) (by (with_reducible repeat (first | refine blk_drewN ?_ _ | refine blk_drew ?_ | refine blk_alloc ?_ _)); exact BK169.out) hg (Kd.R_ne HO209.out BK169.out (by decide))); have n5_ := Aside0.mk (blk_grown (g := gb185) (o := .cells #[.int .i64 t175, .string t176, .string t177, .slice Ao33 t178.length co33, .slice Ao34 t181.length co34] 25 (0, 0)) (by (with_reducible repeat (first | refine blk_drewN ?_ _ | refine blk_drew ?_ | refine blk_alloc ?_ _)); exact BK185.out) hg (Kd.R_ne HO209.out BK185.out (by decide))); have n6_ := Aside0.mk (Kd.V_afterv (ok := (fun k_ => some k_ ≠ (u11 : Value).ownBlock ∧ k_ ≠ gb169 ∧ k_ ≠ gb185 ∧ k_ ≠ gb205)) (by (with_reducible repeat (first | apply Kd.V_alloc | apply Kd.V_drewN | apply Kd.V_drew)); exact Kd.V_mono HL194_0.out (fun _ hk => ⟨⟨hk.1.1.1, ⟨hk.1.1.2.1, ⟨hk.1.1.2.2, hk.1.2⟩⟩⟩, hk.2⟩)) hg hat); have n7_ := Aside0.mk (Kd.V_afterv (ok := (fun k_ => some k_ ≠ (u11 : Value).ownBlock ∧ k_ ≠ gb169 ∧ k_ ≠ gb185 ∧ k_ ≠ gb205)) (by (with_reducible repeat (first | apply Kd.V_alloc | apply Kd.V_drewN | apply Kd.V_drew)); exact Kd.V_mono HO200.out (fun _ hk => ⟨⟨hk.1.1.1, ⟨hk.1.1.2.1, ⟨hk.1.1.2.2, hk.1.2⟩⟩⟩, hk.2⟩)) hg hat); have n8_ := Aside0.mk (Kd.V_afterv (ok := (fun k_ => some k_ ≠ (u11 : Value).ownBlock ∧ k_ ≠ gb169 ∧ k_ ≠ gb185 ∧ k_ ≠ gb205)) (by (with_reducible repeat (first | apply Kd.V_alloc | apply Kd.V_drewN | apply Kd.V_drew)); exact Kd.V_mono HO203.out (fun _ hk => ⟨⟨hk.1.1.1, ⟨hk.1.1.2.1, ⟨hk.1.1.2.2, hk.1.2⟩⟩⟩, hk.2⟩)) hg hat); have n9_ := Aside0.mk (blk_grown (g := gb205) (o := .cells #[.int .i64 t195, .string t196, .string t197, .slice Ao59 t198.length co59, .slice Ao60 t201.length co60] 25 (0, 0)) (by (with_reducible repeat (first | refine blk_drewN ?_ _ | refine blk_drew ?_ | refine blk_alloc ?_ _)); exact BK205.out) hg (Kd.R_ne HO209.out BK205.out (by decide))); have n10_ := Aside0.mk (hb); have n11_ := Aside0.mk (ho); clear HO_11; clear HO_55; clear HO_186003; clear HO_186004; clear BK169; clear BK185; clear HL194_0; clear HO200; clear HO203; clear BK205; clear HB; clear HO209; have HO_11 := n0_; have HO_55 := n1_; have HO_186003 := n2_; have HO_186004 := n3_; have BK169 := n4_; have BK185 := n5_; have HL194_0 := n6_; have HO200 := n7_; have HO203 := n8_; have BK205 := n9_; have HB := n10_; have HO212 := n11_; clear n0_ n1_ n2_ n3_ n4_ n5_ n6_ n7_ n8_ n9_ n10_ n11_; clear ho hb hg hat) | ((with_reducible refine gate_builtin (b := .append) (xs := #[.tmp 73, .tmp 74]) rfl ?_); (try (refine gate_guard (by rfl) ?_; dsimp only)); at_builtin; refine Kd.R_append_rows (Kd.int .i64) (w0 := w) w.heap.size rfl (.tmp 73) (.tmp 74) 32 3 (.int .i64 0) 8 rfl Try.underlying32 info3 rfl (by decide) (by omega) v211 y210 (rd_L5 y189 x57_3) _ _ _ (fun _ => True) (fun _ => False) rfl rfl ?aO ?aR (fun _ _ h => h) (fun _ h => h.elim) ?aF ?aB ?aS ?aL ?_; (case aR => repeat (first | exact ((Kd.V_reads' (by (with_reducible repeat (first | apply Kd.V_alloc | apply Kd.V_drewN | apply Kd.V_drew)); exact HL194_0.out)).2.2) | (with_reducible refine Kd.C_alloc ?_ _) | (with_reducible refine Kd.C_drewN ?_ _) | (with_reducible refine Kd.C_drew ?_))); (case aB => exact (by repeat (first | (with_reducible first | exact HB.out | apply below_alloc | apply pw_below_drewN | apply below_drew1 | refine below_set ?_ GE169.out | refine below_set ?_ GE185.out | refine below_set ?_ GE205.out) | exact HB.out))); (case aF => exact (fun _ _ => trivial)); (case aO => exact (by (with_reducible repeat (first | apply Kd.R_alloc | apply Kd.R_drewN | apply Kd.R_drew)); exact HO212.out)); (case aS => exact (below_size (by repeat (first | (with_reducible first | exact HB.out | apply below_alloc | apply pw_below_drewN | apply below_drew1 | refine below_set ?_ GE169.out | refine below_set ?_ GE185.out | refine below_set ?_ GE205.out) | exact HB.out)))); (case aL => have := LMc50.out; omega); intro v214 w65 ho hb hg hat; rw [← Ny213.out] at ho; have n0_ := Aside0.mk (Kd.N_afterv (ok := (fun k_ => k_ ≠ gb169 ∧ k_ ≠ gb185 ∧ k_ ≠ gb205)) (by (with_reducible repeat (first | apply Kd.N_alloc | apply Kd.N_drewN | apply Kd.N_drew)); exact HO_11.out) hg hat); have n1_ := Aside0.mk (Kd.V_afterv (ok := (fun k_ => some k_ ≠ (u11 : Value).ownBlock ∧ k_ ≠ gb169 ∧ k_ ≠ gb185 ∧ k_ ≠ gb205)) (by (with_reducible repeat (first | apply Kd.V_alloc | apply Kd.V_drewN | apply Kd.V_drew)); exact HO_55.out) hg hat); have n2_ := Aside0.mk (Kd.V_afterv (ok := (fun k_ => some k_ ≠ (u11 : Value).ownBlock ∧ k_ ≠ gb169 ∧ k_ ≠ gb185 ∧ k_ ≠ gb205)) (by (with_reducible repeat (first | apply Kd.V_alloc | apply Kd.V_drewN | apply Kd.V_drew)); exact HO_186003.out) hg hat); have n3_ := Aside0.mk (Kd.V_afterv (ok := (fun k_ => some k_ ≠ (u11 : Value).ownBlock ∧ k_ ≠ gb169 ∧ k_ ≠ gb185 ∧ k_ ≠ gb205)) (by (with_reducible repeat (first | apply Kd.V_alloc | apply Kd.V_drewN | apply Kd.V_drew)); exact HO_186004.out) hg hat); have n4_ := Aside0.mk (blk_grown (g := gb169) (o := .cells #[.int .i64 a0_0, .string a0_1, .string a0_2, .slice A0_3 l0_3.length c0_3, .slice A0_4 l0_4.length c0_4] 25 (0, 0)) (by (with_reducible repeat (first | refine blk_drewN ?_ _ | refine blk_drew ?_ | refine blk_alloc ?_ _)); exact BK169.out) hg (Kd.R_ne HO212.out BK169.out (by decide))); have n5_ := Aside0.mk (blk_grown (g := gb185) (o := .cells #[.int .i64 t175, .string t176, .string t177, .slice Ao33 t178.length co33, .slice Ao34 t181.length co34] 25 (0, 0)) (by (with_reducible repeat (first | refine blk_drewN ?_ _ | refine blk_drew ?_ | refine blk_alloc ?_ _)); exact BK185.out) hg (Kd.R_ne HO212.out BK185.out (by decide))); have n6_ := Aside0.mk (Kd.V_afterv (ok := (fun k_ => some k_ ≠ (u11 : Value).ownBlock ∧ k_ ≠ gb169 ∧ k_ ≠ gb185 ∧ k_ ≠ gb205)) (by (with_reducible repeat (first | apply Kd.V_alloc | apply Kd.V_drewN | apply Kd.V_drew)); exact HL194_0.out) hg hat); have n7_ := Aside0.mk (Kd.V_afterv (ok := (fun k_ => some k_ ≠ (u11 : Value).ownBlock ∧ k_ ≠ gb169 ∧ k_ ≠ gb185 ∧ k_ ≠ gb205)) (by (with_reducible repeat (first | apply Kd.V_alloc | apply Kd.V_drewN | apply Kd.V_drew)); exact HO200.out) hg hat); have n8_ := Aside0.mk (Kd.V_afterv (ok := (fun k_ => some k_ ≠ (u11 : Value).ownBlock ∧ k_ ≠ gb169 ∧ k_ ≠ gb185 ∧ k_ ≠ gb205)) (by (with_reducible repeat (first | apply Kd.V_alloc | apply Kd.V_drewN | apply Kd.V_drew)); exact HO203.out) hg hat); have n9_ := Aside0.mk (blk_grown (g := gb205) (o := .cells #[.int .i64 t195, .string t196, .string t197, .slice Ao59 t198.length co59, .slice Ao60 t201.length co60] 25 (0, 0)) (by (with_reducible repeat (first | refine blk_drewN ?_ _ | refine blk_drew ?_ | refine blk_alloc ?_ _)); exact BK205.out) hg (Kd.R_ne HO212.out BK205.out (by decide))); have n10_ := Aside0.mk (hb); have n11_ := Aside0.mk (ho); clear HO_11; clear HO_55; clear HO_186003; clear HO_186004; clear BK169; clear BK185; clear HL194_0; clear HO200; clear HO203; clear BK205; clear HB; clear HO212; have HO_11 := n0_; have HO_55 := n1_; have HO_186003 := n2_; have HO_186004 := n3_; have BK169 := n4_; have BK185 := n5_; have HL194_0 := n6_; have HO200 := n7_; have HO203 := n8_; have BK205 := n9_; have HB := n10_; have HO215 := n11_; clear n0_ n1_ n2_ n3_ n4_ n5_ n6_ n7_ n8_ n9_ n10_ n11_; clear ho hb hg hat; obtain ⟨Ao67, co67, eo67⟩ := Kd.R_slice HO215.out; subst eo67) | ((with_reducible refine gate_builtin (b := .append) (xs := #[.tmp 70, .tmp 76]) rfl ?_); (try (refine gate_guard (by rfl) ?_; dsimp only)); at_builtin; refine Kd.N_append (Kd.slice 3 (Kd.int .i64)) (w0 := w) w.heap.size rfl (.tmp 70) (.tmp 76) 29 32 (.slice none 0 0) 24 rfl Try.underlying29 info32 rfl (by decide) (by omega) u11 x11_3 y213 [.slice Ao67 y213.length co67] (fun k_ => k_ ≠ gb169 ∧ k_ ≠ gb185 ∧ k_ ≠ gb205) (fun k_ => ((fun k_ => k_ ≠ gb169 ∧ k_ ≠ gb185 ∧ k_ ≠ gb205)) k_ ∧ some k_ ≠ (u11 : Value).ownBlock) rfl rfl ?aP (fun _ hk => hk) ?aF ?aO ?aB ?aS ?aL ?_; (case aP => exact (Kd.FK_slice_mk (Kd.R_reads' (Kd.R_mono (ok' := (fun k_ => ((fun k_ => k_ ≠ gb169 ∧ k_ ≠ gb185 ∧ k_ ≠ gb205)) k_ ∧ some k_ ≠ (u11 : Value).ownBlock)) (Kd.R_types (Kd.R_types (Kd.R_types (Kd.R_apart' (HO215.out) (Kd.N_typed HO_11.out) (by decide)) BK169.out (by decide)) BK185.out (by decide)) BK205.out (by decide)) (fun k_ hk => ⟨⟨hk.1.1.2, ⟨hk.1.2, hk.2⟩⟩, hk.1.1.1.2⟩))).2.1 (Kd.R_F (Kd.R_mono (ok' := (fun k_ => ((fun k_ => k_ ≠ gb169 ∧ k_ ≠ gb185 ∧ k_ ≠ gb205)) k_ ∧ some k_ ≠ (u11 : Value).ownBlock)) (Kd.R_types (Kd.R_types (Kd.R_types (Kd.R_apart' (HO215.out) (Kd.N_typed HO_11.out) (by decide)) BK169.out (by decide)) BK185.out (by decide)) BK205.out (by decide)) (fun k_ hk => ⟨⟨hk.1.1.2, ⟨hk.1.2, hk.2⟩⟩, hk.1.1.1.2⟩))))); (case aB => exact (by repeat (first | (with_reducible first | exact HB.out | apply below_alloc | apply pw_below_drewN | apply below_drew1 | refine below_set ?_ GE169.out | refine below_set ?_ GE185.out | refine below_set ?_ GE205.out) | exact HB.out))); (case aF => exact (fun k_ hk => ⟨Kd.freshB (g := gb169) (o := .cells #[.int .i64 a0_0, .string a0_1, .string a0_2, .slice A0_3 l0_3.length c0_3, .slice A0_4 l0_4.length c0_4] 25 (0, 0)) (by (with_reducible repeat (first | refine blk_drewN ?_ _ | refine blk_drew ?_ | refine blk_alloc ?_ _)); exact BK169.out) k_ hk, Kd.freshB (g := gb185) (o := .cells #[.int .i64 t175, .string t176, .string t177, .slice Ao33 t178.length co33, .slice Ao34 t181.length co34] 25 (0, 0)) (by (with_reducible repeat (first | refine blk_drewN ?_ _ | refine blk_drew ?_ | refine blk_alloc ?_ _)); exact BK185.out) k_ hk, Kd.freshB (g := gb205) (o := .cells #[.int .i64 t195, .string t196, .string t197, .slice Ao59 t198.length co59, .slice Ao60 t201.length co60] 25 (0, 0)) (by (with_reducible repeat (first | refine blk_drewN ?_ _ | refine blk_drew ?_ | refine blk_alloc ?_ _)); exact BK205.out) k_ hk⟩)); (case aO => exact (by (with_reducible repeat (first | apply Kd.N_alloc | apply Kd.N_drewN | apply Kd.N_drew)); exact Kd.N_mono HO_11.out (fun _ hk => ⟨hk.1.1, ⟨hk.1.2.1, hk.1.2.2⟩⟩))); (case aS => exact (below_size (by repeat (first | (with_reducible first | exact HB.out | apply below_alloc | apply pw_below_drewN | apply below_drew1 | refine below_set ?_ GE169.out | refine below_set ?_ GE185.out | refine below_set ?_ GE205.out) | exact HB.out)))); (case aL => have := LMc51.out; omega); intro v217 w66 ho hb hg hat; rw [← Ny216.out] at ho; have n0_ := Aside0.mk (Kd.V_afterv (ok := (fun k_ => some k_ ≠ (.slice Ao67 y213.length co67 : Value).ownBlock ∧ k_ ≠ gb169 ∧ k_ ≠ gb185 ∧ k_ ≠ gb205)) (by (with_reducible repeat (first | apply Kd.V_alloc | apply Kd.V_drewN | apply Kd.V_drew)); exact Kd.V_mono HO_55.out (fun _ hk => ⟨⟨hk.2, ⟨hk.1.2.1, ⟨hk.1.2.2.1, hk.1.2.2.2⟩⟩⟩, hk.1.1⟩)) hg hat); have n1_ := Aside0.mk (Kd.V_afterv (ok := (fun k_ => some k_ ≠ (.slice Ao67 y213.length co67 : Value).ownBlock ∧ k_ ≠ gb169 ∧ k_ ≠ gb185 ∧ k_ ≠ gb205)) (by (with_reducible repeat (first | apply Kd.V_alloc | apply Kd.V_drewN | apply Kd.V_drew)); exact Kd.V_mono HO_186003.out (fun _ hk => ⟨⟨hk.2, ⟨hk.1.2.1, ⟨hk.1.2.2.1, hk.1.2.2.2⟩⟩⟩, hk.1.1⟩)) hg hat); have n2_ := Aside0.mk (Kd.V_afterv (ok := (fun k_ => some k_ ≠ (.slice Ao67 y213.length co67 : Value).ownBlock ∧ k_ ≠ gb169 ∧ k_ ≠ gb185 ∧ k_ ≠ gb205)) (by (with_reducible repeat (first | apply Kd.V_alloc | apply Kd.V_drewN | apply Kd.V_drew)); exact Kd.V_mono HO_186004.out (fun _ hk => ⟨⟨hk.2, ⟨hk.1.2.1, ⟨hk.1.2.2.1, hk.1.2.2.2⟩⟩⟩, hk.1.1⟩)) hg hat); have n3_ := Aside0.mk (blk_grown (g := gb169) (o := .cells #[.int .i64 a0_0, .string a0_1, .string a0_2, .slice A0_3 l0_3.length c0_3, .slice A0_4 l0_4.length c0_4] 25 (0, 0)) (by (with_reducible repeat (first | refine blk_drewN ?_ _ | refine blk_drew ?_ | refine blk_alloc ?_ _)); exact BK169.out) hg (Kd.N_ne HO_11.out BK169.out (by decide))); have n4_ := Aside0.mk (blk_grown (g := gb185) (o := .cells #[.int .i64 t175, .string t176, .string t177, .slice Ao33 t178.length co33, .slice Ao34 t181.length co34] 25 (0, 0)) (by (with_reducible repeat (first | refine blk_drewN ?_ _ | refine blk_drew ?_ | refine blk_alloc ?_ _)); exact BK185.out) hg (Kd.N_ne HO_11.out BK185.out (by decide))); have n5_ := Aside0.mk (Kd.V_afterv (ok := (fun k_ => some k_ ≠ (.slice Ao67 y213.length co67 : Value).ownBlock ∧ k_ ≠ gb169 ∧ k_ ≠ gb185 ∧ k_ ≠ gb205)) (by (with_reducible repeat (first | apply Kd.V_alloc | apply Kd.V_drewN | apply Kd.V_drew)); exact Kd.V_mono HL194_0.out (fun _ hk => ⟨⟨hk.2, ⟨hk.1.2.1, ⟨hk.1.2.2.1, hk.1.2.2.2⟩⟩⟩, hk.1.1⟩)) hg hat); have n6_ := Aside0.mk (Kd.V_afterv (ok := (fun k_ => some k_ ≠ (.slice Ao67 y213.length co67 : Value).ownBlock ∧ k_ ≠ gb169 ∧ k_ ≠ gb185 ∧ k_ ≠ gb205)) (by (with_reducible repeat (first | apply Kd.V_alloc | apply Kd.V_drewN | apply Kd.V_drew)); exact Kd.V_mono HO200.out (fun _ hk => ⟨⟨hk.2, ⟨hk.1.2.1, ⟨hk.1.2.2.1, hk.1.2.2.2⟩⟩⟩, hk.1.1⟩)) hg hat); have n7_ := Aside0.mk (Kd.V_afterv (ok := (fun k_ => some k_ ≠ (.slice Ao67 y213.length co67 : Value).ownBlock ∧ k_ ≠ gb169 ∧ k_ ≠ gb185 ∧ k_ ≠ gb205)) (by (with_reducible repeat (first | apply Kd.V_alloc | apply Kd.V_drewN | apply Kd.V_drew)); exact Kd.V_mono HO203.out (fun _ hk => ⟨⟨hk.2, ⟨hk.1.2.1, ⟨hk.1.2.2.1, hk.1.2.2.2⟩⟩⟩, hk.1.1⟩)) hg hat); have n8_ := Aside0.mk (blk_grown (g := gb205) (o := .cells #[.int .i64 t195, .string t196, .string t197, .slice Ao59 t198.length co59, .slice Ao60 t201.length co60] 25 (0, 0)) (by (with_reducible repeat (first | refine blk_drewN ?_ _ | refine blk_drew ?_ | refine blk_alloc ?_ _)); exact BK205.out) hg (Kd.N_ne HO_11.out BK205.out (by decide))); have n9_ := Aside0.mk (hb); have n10_ := Aside0.mk (ho); clear HO_55; clear HO_186003; clear HO_186004; clear BK169; clear BK185; clear HL194_0; clear HO200; clear HO203; clear BK205; clear HB; clear HO_11; clear HO215; have HO_55 := n0_; have HO_186003 := n1_; have HO_186004 := n2_; have BK169 := n3_; have BK185 := n4_; have HL194_0 := n5_; have HO200 := n6_; have HO203 := n7_; have BK205 := n8_; have HB := n9_; have HO218 := n10_; clear n0_ n1_ n2_ n3_ n4_ n5_ n6_ n7_ n8_ n9_ n10_; clear ho hb hg hat))
                                        go_roundg k3
                                        case measure => have := HJ3.out; have := HK2.out; have := HK3.out; omega
                                        case rel => exact ⟨(y216), (wrap64 (x57_3 + 1)), (by first | rfl | (simp; done) | (simp [*]; done)), H', ⟨by have := HJ3.out; have := HK2.out; have := HK3.out; omega⟩, ⟨by (with_reducible repeat (first | apply Kd.N_alloc | apply Kd.N_drewN | apply Kd.N_drew)); exact Kd.N_mono HO218.out (fun _ hk => ⟨hk.1, hk.2.1⟩)⟩, ⟨by (with_reducible repeat (first | apply Kd.V_alloc | apply Kd.V_drewN | apply Kd.V_drew)); exact Kd.V_mono HO_55.out (fun _ hk => ⟨hk.2, ⟨hk.1.2.1, hk.1.2.2.1⟩⟩)⟩, ⟨by (with_reducible repeat (first | apply Kd.V_alloc | apply Kd.V_drewN | apply Kd.V_drew)); exact Kd.V_mono HO_186003.out (fun _ hk => ⟨hk.2, ⟨hk.1.2.1, hk.1.2.2.1⟩⟩)⟩, ⟨by (with_reducible repeat (first | apply Kd.V_alloc | apply Kd.V_drewN | apply Kd.V_drew)); exact Kd.V_mono HO_186004.out (fun _ hk => ⟨hk.2, ⟨hk.1.2.1, hk.1.2.2.1⟩⟩)⟩, ⟨by (with_reducible repeat (first | refine blk_drewN ?_ _ | refine blk_drew ?_ | refine blk_alloc ?_ _)); exact BK169.out⟩, ⟨by (with_reducible repeat (first | refine blk_drewN ?_ _ | refine blk_drew ?_ | refine blk_alloc ?_ _)); exact BK185.out⟩, ⟨by repeat (first | (with_reducible first | exact HB.out | apply below_alloc | apply pw_below_drewN | apply below_drew1 | refine below_set ?_ GE169.out | refine below_set ?_ GE185.out | refine below_set ?_ GE205.out) | exact HB.out)⟩⟩
                                      · rw [if_neg c51] at H
                                        exact absurd H (by simp)
                                    · rw [if_neg c50] at H
                                      exact absurd H (by simp)
                                  · rw [if_neg c49] at H
                                    exact absurd H (by simp)
                                · replace c48 := Bool.eq_false_iff.mpr c48
                                  subst c48
                                  have H1 : (laws_FnDomFind.l1 k3 l1 l2 true x11_3 y189 (y189.length : Int) (wrap64 (x57_3 + 1)) a0_0 a0_1 a0_2 l0_3 l0_4 t175 t176 t177 t178 t181) = some r := by rw [if_neg (show ¬ (false = true) by decide)] at H; exact H
                                  clear H
                                  have H := H1
                                  clear H1
                                  have H' := Aside0.mk H
                                  clear H
                                  have p194 : 0 ≤ (x57_3 : Int) := of_decide_eq_true (by first | (with_reducible assumption) | assumption)
                                  have q194 : x57_3 < (y189.length : Int) := of_decide_eq_true (by first | (with_reducible assumption) | assumption)
                                  obtain ⟨ad194, A194_0, c194_0, e194, hx194_0, hl194_0, hi194_0⟩ := at_L5 (Kd.V_reads' HO_55.out).2.2 x57_3 p194 q194
                                  cases e194
                                  obtain ⟨ce194, hce194, hMe194, hcc194⟩ := Kd.V_get HO_55.out [] x57_3 p194 (by first | exact q194 | exact of_decide_eq_true (by first | (with_reducible assumption) | assumption) | (have e_ := (Kd.V_reads' HO_55.out).1; omega))
                                  obtain ⟨ua194_0, uc194_0, rfl, ul194_0, ge194_0⟩ := Kd.FK_slice_open hMe194
                                  have hv194_0 := hcc194 0 _ rfl
                                  rw [Nat.add_zero, show ((Kd.slice 3 (Kd.int .i64))).sz = 1 from rfl, Nat.mul_one] at hv194_0
                                  replace hv194_0 := Option.some.inj (hv194_0.symm.trans hx194_0)
                                  injection hv194_0 with hva_ hvn_ hvc_
                                  rw [hva_] at ge194_0
                                  rw [hvc_] at ul194_0
                                  have HL194_0 := Aside0.mk (show Kd.V (Kd.int .i64) 3 _ w.heap.size _ _ (rd_L5 y189 x57_3) from Kd.V_mk ul194_0 ge194_0)
                                  clear hva_ hvn_ hvc_ ge194_0 ul194_0
                                  clear hcc194 hce194
                                  have HR194_0 := Aside0.mk hi194_0
                                  have HC194_0 := Aside0.mk hl194_0
                                  clear hi194_0 hl194_0
                                  replace p194 := eq_true p194
                                  replace q194 := eq_true q194
                                  have hnb68 := NB185_169.out
                                  have hnc68 := NB169_185.out
                                  have hcz69_0 : wr.cell? ⟨gb185, 0, none⟩ = some (.int .i64 t175) := (blk_cell BK185.out 0).trans rfl
                                  have hcz69_1 : wr.cell? ⟨gb185, 1, none⟩ = some (.string t176) := (blk_cell BK185.out 1).trans rfl
                                  have hcz69_2 : wr.cell? ⟨gb185, 2, none⟩ = some (.string t177) := (blk_cell BK185.out 2).trans rfl
                                  have hcz69_3 : wr.cell? ⟨gb185, 3, none⟩ = some (.slice Ao33 t178.length co33) := (blk_cell BK185.out 3).trans rfl
                                  have hcz69_4 : wr.cell? ⟨gb185, 4, none⟩ = some (.slice Ao34 t181.length co34) := (blk_cell BK185.out 4).trans rfl
                                  have hfz69_0 := blk_frozen BK185.out 0
                                  have hfz69_1 := blk_frozen BK185.out 1
                                  have hfz69_2 := blk_frozen BK185.out 2
                                  have hfz69_3 := blk_frozen BK185.out 3
                                  have hfz69_4 := blk_frozen BK185.out 4
                                  go_wp2_with (first | ((with_reducible refine gate_callee (f := 17) rfl ?_); refine goesL_ (some 64) rfl rfl Try.func17 (by kernel_rfl) rfl #[.agg #[.int .i64 t175, .string t176, .string t177, .slice Ao33 t178.length co33, .slice Ao34 t181.length co34], .slice A194_0 (rd_L5 y189 x57_3).length c194_0] rfl (by (try simp only [List.map_toArray, List.map_cons, List.map_nil]); first | done | rfl | (simp only [List.length_drop, List.length_take]; rfl)) ?_; (with_reducible refine (spec_At29.calls k3 t175 t176 t177 (fun k_ => (some k_ ≠ (u11 : Value).ownBlock ∧ (k_ ≠ gb169 ∧ k_ ≠ gb185))) _ _ t178 (fun k_ => (some k_ ≠ (u11 : Value).ownBlock ∧ (k_ ≠ gb169 ∧ k_ ≠ gb185))) _ _ t181 _ _ (rd_L5 y189 x57_3) t195 t196 t197 t198 t201 t204 _ ?side1 ?side2 ?side3 ?side4 A46.out).mono ?_); (case side1 => exact HO_186003.out); (case side2 => exact HO_186004.out); (case side3 => repeat (first | exact (by repeat (first | (with_reducible exact HR194_0.out) | (with_reducible refine Kd.C_alloc ?_ _) | (with_reducible refine Kd.C_drewN ?_ _) | (with_reducible refine Kd.C_drew ?_) | exact HR194_0.out)) | (with_reducible refine Kd.C_alloc ?_ _) | (with_reducible refine Kd.C_drewN ?_ _) | (with_reducible refine Kd.C_drew ?_))); (case side4 => exact HC194_0.out); rintro e w70 ⟨v199, v202, rfl, ho0, ho1, hb⟩; refine ⟨_, rfl, ?_⟩; have n0_ := Aside0.mk (Kd.N_below (by (with_reducible repeat (first | apply Kd.N_alloc | apply Kd.N_drewN | apply Kd.N_drew)); exact HO_11.out) hb); have n1_ := Aside0.mk (Kd.V_below (by (with_reducible repeat (first | apply Kd.V_alloc | apply Kd.V_drewN | apply Kd.V_drew)); exact HO_55.out) hb); have n2_ := Aside0.mk (Kd.V_below (by (with_reducible repeat (first | apply Kd.V_alloc | apply Kd.V_drewN | apply Kd.V_drew)); exact HO_186003.out) hb); have n3_ := Aside0.mk (Kd.V_below (by (with_reducible repeat (first | apply Kd.V_alloc | apply Kd.V_drewN | apply Kd.V_drew)); exact HO_186004.out) hb); have n4_ := Aside0.mk (Kd.V_below (by (with_reducible repeat (first | apply Kd.V_alloc | apply Kd.V_drewN | apply Kd.V_drew)); exact HL194_0.out) hb); have n5_ := Aside0.mk (Kd.V_lower (Kd.V_mono (ok' := fun k_ => some k_ ≠ (u11 : Value).ownBlock ∧ k_ ≠ gb169 ∧ k_ ≠ gb185) ho0 (fun k_ hk_ => ⟨Or.elim hk_ (fun hs_ => Or.elim hs_ (fun hs_ => hs_.1) (fun hs_ => hs_.1)) (fun hn_ => (Kd.fresh' (Kd.N_lt (by (with_reducible repeat (first | apply Kd.N_alloc | apply Kd.N_drewN | apply Kd.N_drew)); exact HO_11.out)) k_ hn_)), Or.elim hk_ (fun hs_ => Or.elim hs_ (fun hs_ => hs_.2.1) (fun hs_ => hs_.2.1)) (fun hn_ => (Kd.freshB (g := gb169) (o := .cells #[.int .i64 a0_0, .string a0_1, .string a0_2, .slice A0_3 l0_3.length c0_3, .slice A0_4 l0_4.length c0_4] 25 (0, 0)) (by (with_reducible repeat (first | refine blk_drewN ?_ _ | refine blk_drew ?_ | refine blk_alloc ?_ _)); exact BK169.out) k_ hn_)), Or.elim hk_ (fun hs_ => Or.elim hs_ (fun hs_ => hs_.2.2) (fun hs_ => hs_.2.2)) (fun hn_ => (Kd.freshB (g := gb185) (o := .cells #[.int .i64 t175, .string t176, .string t177, .slice Ao33 t178.length co33, .slice Ao34 t181.length co34] 25 (0, 0)) (by (with_reducible repeat (first | refine blk_drewN ?_ _ | refine blk_drew ?_ | refine blk_alloc ?_ _)); exact BK185.out) k_ hn_))⟩)) (below_size (by repeat (first | (with_reducible first | exact HB.out | apply below_alloc | apply pw_below_drewN | apply below_drew1 | refine below_set ?_ GE169.out | refine below_set ?_ GE185.out) | exact HB.out)))); have n6_ := Aside0.mk (Kd.V_lower (Kd.V_mono (ok' := fun k_ => some k_ ≠ (u11 : Value).ownBlock ∧ k_ ≠ gb169 ∧ k_ ≠ gb185) ho1 (fun k_ hk_ => ⟨Or.elim hk_ (fun hs_ => Or.elim hs_ (fun hs_ => hs_.1) (fun hs_ => hs_.1)) (fun hn_ => (Kd.fresh' (Kd.N_lt (by (with_reducible repeat (first | apply Kd.N_alloc | apply Kd.N_drewN | apply Kd.N_drew)); exact HO_11.out)) k_ hn_)), Or.elim hk_ (fun hs_ => Or.elim hs_ (fun hs_ => hs_.2.1) (fun hs_ => hs_.2.1)) (fun hn_ => (Kd.freshB (g := gb169) (o := .cells #[.int .i64 a0_0, .string a0_1, .string a0_2, .slice A0_3 l0_3.length c0_3, .slice A0_4 l0_4.length c0_4] 25 (0, 0)) (by (with_reducible repeat (first | refine blk_drewN ?_ _ | refine blk_drew ?_ | refine blk_alloc ?_ _)); exact BK169.out) k_ hn_)), Or.elim hk_ (fun hs_ => Or.elim hs_ (fun hs_ => hs_.2.2) (fun hs_ => hs_.2.2)) (fun hn_ => (Kd.freshB (g := gb185) (o := .cells #[.int .i64 t175, .string t176, .string t177, .slice Ao33 t178.length co33, .slice Ao34 t181.length co34] 25 (0, 0)) (by (with_reducible repeat (first | refine blk_drewN ?_ _ | refine blk_drew ?_ | refine blk_alloc ?_ _)); exact BK185.out) k_ hn_))⟩)) (below_size (by repeat (first | (with_reducible first | exact HB.out | apply below_alloc | apply pw_below_drewN | apply below_drew1 | refine below_set ?_ GE169.out | refine below_set ?_ GE185.out) | exact HB.out)))); have n7_ := Aside0.mk (blk_below (g := gb169) (o := .cells #[.int .i64 a0_0, .string a0_1, .string a0_2, .slice A0_3 l0_3.length c0_3, .slice A0_4 l0_4.length c0_4] 25 (0, 0)) (by (with_reducible repeat (first | refine blk_drewN ?_ _ | refine blk_drew ?_ | refine blk_alloc ?_ _)); exact BK169.out) hb); have n8_ := Aside0.mk (blk_below (g := gb185) (o := .cells #[.int .i64 t175, .string t176, .string t177, .slice Ao33 t178.length co33, .slice Ao34 t181.length co34] 25 (0, 0)) (by (with_reducible repeat (first | refine blk_drewN ?_ _ | refine blk_drew ?_ | refine blk_alloc ?_ _)); exact BK185.out) hb); have n9_ := Aside0.mk (Kd.C_below (by repeat (first | (with_reducible exact HR194_0.out) | (with_reducible refine Kd.C_alloc ?_ _) | (with_reducible refine Kd.C_drewN ?_ _) | (with_reducible refine Kd.C_drew ?_) | exact HR194_0.out)) hb); have n10_ := Aside0.mk (below_step (by repeat (first | (with_reducible first | exact HB.out | apply below_alloc | apply pw_below_drewN | apply below_drew1 | refine below_set ?_ GE169.out | refine below_set ?_ GE185.out) | exact HB.out)) hb); clear HO_11; clear HO_55; clear HO_186003; clear HO_186004; clear HL194_0; clear BK169; clear BK185; clear HR194_0; clear HB; have HO_11 := n0_; have HO_55 := n1_; have HO_186003 := n2_; have HO_186004 := n3_; have HL194_0 := n4_; have HO200 := n5_; have HO203 := n6_; have BK169 := n7_; have BK185 := n8_; have HR194_0 := n9_; have HB := n10_; clear n0_ n1_ n2_ n3_ n4_ n5_ n6_ n7_ n8_ n9_ n10_; (try clear hb); (try clear hb2); (try clear hk); (try clear hi); (try clear ho0); (try clear ho1)) | ((with_reducible refine gate_dst (N := 14) rfl ?_); (try (refine gate_guard (by rfl) ?_; dsimp only)); refine box_event ?hg (N := 14) ?hd (cs := #[.int .i64 0, .string (⟨#[]⟩ : ByteArray), .string (⟨#[]⟩ : ByteArray), .slice none 0 0, .slice none 0 0]) (t := 25) ?hr ?_; (case hd => rfl); (case hg => rfl); (case hr => first | (go_simp; done) | (go_simp; rfl)); intro gb205 hg w71 hbox hb; have n0_ := Aside0.mk (Kd.N_below (Kd.N_elderB (by (with_reducible repeat (first | apply Kd.N_alloc | apply Kd.N_drewN | apply Kd.N_drew)); exact HO_11.out) gb205 (Nat.le_of_eq hg.symm)) hb); have n1_ := Aside0.mk (Kd.V_below (Kd.V_elderB (by (with_reducible repeat (first | apply Kd.V_alloc | apply Kd.V_drewN | apply Kd.V_drew)); exact HO_55.out) gb205 (Nat.le_of_eq hg.symm)) hb); have n2_ := Aside0.mk (Kd.V_below (Kd.V_elderB (by (with_reducible repeat (first | apply Kd.V_alloc | apply Kd.V_drewN | apply Kd.V_drew)); exact HO_186003.out) gb205 (Nat.le_of_eq hg.symm)) hb); have n3_ := Aside0.mk (Kd.V_below (Kd.V_elderB (by (with_reducible repeat (first | apply Kd.V_alloc | apply Kd.V_drewN | apply Kd.V_drew)); exact HO_186004.out) gb205 (Nat.le_of_eq hg.symm)) hb); have n4_ := Aside0.mk (Kd.V_below (Kd.V_elderB (by (with_reducible repeat (first | apply Kd.V_alloc | apply Kd.V_drewN | apply Kd.V_drew)); exact HL194_0.out) gb205 (Nat.le_of_eq hg.symm)) hb); have n5_ := Aside0.mk (Kd.V_below (Kd.V_elderB (by (with_reducible repeat (first | apply Kd.V_alloc | apply Kd.V_drewN | apply Kd.V_drew)); exact HO200.out) gb205 (Nat.le_of_eq hg.symm)) hb); have n6_ := Aside0.mk (Kd.V_below (Kd.V_elderB (by (with_reducible repeat (first | apply Kd.V_alloc | apply Kd.V_drewN | apply Kd.V_drew)); exact HO203.out) gb205 (Nat.le_of_eq hg.symm)) hb); have n7_ := Aside0.mk (blk_below (g := gb169) (o := .cells #[.int .i64 a0_0, .string a0_1, .string a0_2, .slice A0_3 l0_3.length c0_3, .slice A0_4 l0_4.length c0_4] 25 (0, 0)) (by (with_reducible repeat (first | refine blk_drewN ?_ _ | refine blk_drew ?_ | refine blk_alloc ?_ _)); exact BK169.out) hb); have n8_ := Aside0.mk (blk_below (g := gb185) (o := .cells #[.int .i64 t175, .string t176, .string t177, .slice Ao33 t178.length co33, .slice Ao34 t181.length co34] 25 (0, 0)) (by (with_reducible repeat (first | refine blk_drewN ?_ _ | refine blk_drew ?_ | refine blk_alloc ?_ _)); exact BK185.out) hb); have n9_ := Aside0.mk (Kd.C_below (by repeat (first | (with_reducible exact HR194_0.out) | (with_reducible refine Kd.C_alloc ?_ _) | (with_reducible refine Kd.C_drewN ?_ _) | (with_reducible refine Kd.C_drew ?_) | exact HR194_0.out)) hb); have n10_ := Aside0.mk (below_step (by repeat (first | (with_reducible first | exact HB.out | apply below_alloc | apply pw_below_drewN | apply below_drew1 | refine below_set ?_ GE169.out | refine below_set ?_ GE185.out) | exact HB.out)) hb); have n11_ := Aside0.mk (hbox); have n12_ := Aside0.mk ((by rw [hg]; exact (below_size (by repeat (first | (with_reducible first | exact HB.out | apply below_alloc | apply pw_below_drewN | apply below_drew1 | refine below_set ?_ GE169.out | refine below_set ?_ GE185.out) | exact HB.out))) : w.heap.size ≤ gb205)); have n13_ := Aside0.mk ((by rw [hg]; exact (below_size (by repeat (first | (with_reducible first | exact HB.out | apply below_alloc | apply pw_below_drewN | apply below_drew1 | refine below_set ?_ GE169.out | refine below_set ?_ GE185.out) | exact HB.out))) : w.heap.size ≤ gb205)); have n14_ := Aside0.mk ((by rw [hg]; exact Nat.ne_of_lt (blk_lt (g := gb169) (o := .cells #[.int .i64 a0_0, .string a0_1, .string a0_2, .slice A0_3 l0_3.length c0_3, .slice A0_4 l0_4.length c0_4] 25 (0, 0)) (by (with_reducible repeat (first | refine blk_drewN ?_ _ | refine blk_drew ?_ | refine blk_alloc ?_ _)); exact BK169.out)) : gb169 ≠ gb205)); have n15_ := Aside0.mk ((by rw [hg]; exact Nat.ne_of_gt (blk_lt (g := gb169) (o := .cells #[.int .i64 a0_0, .string a0_1, .string a0_2, .slice A0_3 l0_3.length c0_3, .slice A0_4 l0_4.length c0_4] 25 (0, 0)) (by (with_reducible repeat (first | refine blk_drewN ?_ _ | refine blk_drew ?_ | refine blk_alloc ?_ _)); exact BK169.out)) : gb205 ≠ gb169)); have n16_ := Aside0.mk ((by rw [hg]; exact Nat.ne_of_lt (blk_lt (g := gb185) (o := .cells #[.int .i64 t175, .string t176, .string t177, .slice Ao33 t178.length co33, .slice Ao34 t181.length co34] 25 (0, 0)) (by (with_reducible repeat (first | refine blk_drewN ?_ _ | refine blk_drew ?_ | refine blk_alloc ?_ _)); exact BK185.out)) : gb185 ≠ gb205)); have n17_ := Aside0.mk ((by rw [hg]; exact Nat.ne_of_gt (blk_lt (g := gb185) (o := .cells #[.int .i64 t175, .string t176, .string t177, .slice Ao33 t178.length co33, .slice Ao34 t181.length co34] 25 (0, 0)) (by (with_reducible repeat (first | refine blk_drewN ?_ _ | refine blk_drew ?_ | refine blk_alloc ?_ _)); exact BK185.out)) : gb205 ≠ gb185)); clear HO_11; clear HO_55; clear HO_186003; clear HO_186004; clear HL194_0; clear HO200; clear HO203; clear BK169; clear BK185; clear HR194_0; clear HB; have HO_11 := n0_; have HO_55 := n1_; have HO_186003 := n2_; have HO_186004 := n3_; have HL194_0 := n4_; have HO200 := n5_; have HO203 := n6_; have BK169 := n7_; have BK185 := n8_; have HR194_0 := n9_; have HB := n10_; have BK205 := n11_; have GW205 := n12_; have GE205 := n13_; have NB169_205 := n14_; have NB205_169 := n15_; have NB185_205 := n16_; have NB205_185 := n17_; clear n0_ n1_ n2_ n3_ n4_ n5_ n6_ n7_ n8_ n9_ n10_ n11_ n12_ n13_ n14_ n15_ n16_ n17_; clear hb hbox hg; have hnb72 := NB205_169.out; have hnc72 := NB169_205.out; have hnb73 := NB205_185.out; have hnc73 := NB185_205.out; have hcz74_0 : w71.cell? ⟨gb205, 0, none⟩ = some (.int .i64 0) := (blk_cell BK205.out 0).trans rfl; have hcz74_1 : w71.cell? ⟨gb205, 1, none⟩ = some (.string (⟨#[]⟩ : ByteArray)) := (blk_cell BK205.out 1).trans rfl; have hcz74_2 : w71.cell? ⟨gb205, 2, none⟩ = some (.string (⟨#[]⟩ : ByteArray)) := (blk_cell BK205.out 2).trans rfl; have hcz74_3 : w71.cell? ⟨gb205, 3, none⟩ = some (.slice none 0 0) := (blk_cell BK205.out 3).trans rfl; have hcz74_4 : w71.cell? ⟨gb205, 4, none⟩ = some (.slice none 0 0) := (blk_cell BK205.out 4).trans rfl; have hfz74_0 := blk_frozen BK205.out 0; have hfz74_1 := blk_frozen BK205.out 1; have hfz74_2 := blk_frozen BK205.out 2; have hfz74_3 := blk_frozen BK205.out 3; have hfz74_4 := blk_frozen BK205.out 4; obtain ⟨Ao75, co75, eo75⟩ := Kd.V_slice HO200.out; subst eo75; obtain ⟨Ao76, co76, eo76⟩ := Kd.V_slice HO203.out; subst eo76) | ((with_reducible refine gate_callee (f := 18) rfl ?_); refine goesL_ (some 69) rfl rfl Try.func18 (by kernel_rfl) rfl #[.agg #[.int .i64 t195, .string t196, .string t197, .slice Ao75 t198.length co75, .slice Ao76 t201.length co76], .slice A2 l2.length c2] rfl (by (try simp only [List.map_toArray, List.map_cons, List.map_nil]); first | done | rfl | (simp only [List.length_drop, List.length_take]; rfl)) ?_; (with_reducible refine (laws_among29.calls k3 t195 t196 t197 _ _ t198 _ _ t201 _ _ l2 false _ ?side1 ?side2 ?side3 ?side4 ?side5 ?side6 A47.out).mono ?_); (case side1 => refine (Kd.V_reads' (e := 78) (base := w.heap.size) (ok := fun k_ => ((some k_ ≠ (u11 : Value).ownBlock ∧ (k_ ≠ gb169 ∧ k_ ≠ gb185)) ∧ k_ ≠ gb205)) (n := t198.length) (c := co75) ?_).2.2; exact (by (with_reducible repeat (first | apply Kd.V_alloc | apply Kd.V_drewN | apply Kd.V_drew)); exact (Kd.V_mono (Kd.V_far (p := ⟨gb205, 4, none⟩) (Kd.V_far (p := ⟨gb205, 3, none⟩) (Kd.V_far (p := ⟨gb205, 2, none⟩) (Kd.V_far (p := ⟨gb205, 1, none⟩) (Kd.V_far (p := ⟨gb205, 0, none⟩) (Kd.V_mono HO200.out (fun k_ hk => (⟨hk, hk.2⟩ : _ ∧ k_ ≠ gb205))) (fun _ hk => hk.2) (.int .i64 t195)) (fun _ hk => hk.2) (.string t196)) (fun _ hk => hk.2) (.string t197)) (fun _ hk => hk.2) (.slice Ao75 t198.length co75)) (fun _ hk => hk.2) (.slice Ao76 t201.length co76)) (fun _ h_ => h_.1)))); (case side2 => exact (Kd.V_reads' HO200.out).2.1); (case side3 => refine (Kd.V_reads' (e := 25) (base := w.heap.size) (ok := fun k_ => ((some k_ ≠ (u11 : Value).ownBlock ∧ (k_ ≠ gb169 ∧ k_ ≠ gb185)) ∧ k_ ≠ gb205)) (n := t201.length) (c := co76) ?_).2.2; exact (by (with_reducible repeat (first | apply Kd.V_alloc | apply Kd.V_drewN | apply Kd.V_drew)); exact (Kd.V_mono (Kd.V_far (p := ⟨gb205, 4, none⟩) (Kd.V_far (p := ⟨gb205, 3, none⟩) (Kd.V_far (p := ⟨gb205, 2, none⟩) (Kd.V_far (p := ⟨gb205, 1, none⟩) (Kd.V_far (p := ⟨gb205, 0, none⟩) (Kd.V_mono HO203.out (fun k_ hk => (⟨hk, hk.2⟩ : _ ∧ k_ ≠ gb205))) (fun _ hk => hk.2) (.int .i64 t195)) (fun _ hk => hk.2) (.string t196)) (fun _ hk => hk.2) (.string t197)) (fun _ hk => hk.2) (.slice Ao75 t198.length co75)) (fun _ hk => hk.2) (.slice Ao76 t201.length co76)) (fun _ h_ => h_.1)))); (case side4 => exact (Kd.V_reads' HO203.out).2.1); (case side5 => exact Kd.C_below HR2.out (by repeat (first | (with_reducible first | exact HB.out | apply below_alloc | apply pw_below_drewN | apply below_drew1 | refine below_set ?_ GE169.out | refine below_set ?_ GE185.out | refine below_set ?_ GE205.out) | exact HB.out))); (case side6 => exact HC2.out); rintro e w77 ⟨rfl, hb⟩; refine ⟨_, rfl, ?_⟩; have n0_ := Aside0.mk (Kd.N_below (by (with_reducible repeat (first | apply Kd.N_alloc | apply Kd.N_drewN | apply Kd.N_drew)); exact (Kd.N_mono (Kd.N_far (p := ⟨gb205, 4, none⟩) (Kd.N_far (p := ⟨gb205, 3, none⟩) (Kd.N_far (p := ⟨gb205, 2, none⟩) (Kd.N_far (p := ⟨gb205, 1, none⟩) (Kd.N_far (p := ⟨gb205, 0, none⟩) (Kd.N_mono HO_11.out (fun k_ hk => (⟨hk, hk.2⟩ : _ ∧ k_ ≠ gb205))) (fun _ hk => hk.2) (.int .i64 t195)) (fun _ hk => hk.2) (.string t196)) (fun _ hk => hk.2) (.string t197)) (fun _ hk => hk.2) (.slice Ao75 t198.length co75)) (fun _ hk => hk.2) (.slice Ao76 t201.length co76)) (fun _ h_ => h_.1))) hb); have n1_ := Aside0.mk (Kd.V_below (by (with_reducible repeat (first | apply Kd.V_alloc | apply Kd.V_drewN | apply Kd.V_drew)); exact (Kd.V_mono (Kd.V_far (p := ⟨gb205, 4, none⟩) (Kd.V_far (p := ⟨gb205, 3, none⟩) (Kd.V_far (p := ⟨gb205, 2, none⟩) (Kd.V_far (p := ⟨gb205, 1, none⟩) (Kd.V_far (p := ⟨gb205, 0, none⟩) (Kd.V_mono HO_55.out (fun k_ hk => (⟨hk, hk.2⟩ : _ ∧ k_ ≠ gb205))) (fun _ hk => hk.2) (.int .i64 t195)) (fun _ hk => hk.2) (.string t196)) (fun _ hk => hk.2) (.string t197)) (fun _ hk => hk.2) (.slice Ao75 t198.length co75)) (fun _ hk => hk.2) (.slice Ao76 t201.length co76)) (fun _ h_ => h_.1))) hb); have n2_ := Aside0.mk (Kd.V_below (by (with_reducible repeat (first | apply Kd.V_alloc | apply Kd.V_drewN | apply Kd.V_drew)); exact (Kd.V_mono (Kd.V_far (p := ⟨gb205, 4, none⟩) (Kd.V_far (p := ⟨gb205, 3, none⟩) (Kd.V_far (p := ⟨gb205, 2, none⟩) (Kd.V_far (p := ⟨gb205, 1, none⟩) (Kd.V_far (p := ⟨gb205, 0, none⟩) (Kd.V_mono HO_186003.out (fun k_ hk => (⟨hk, hk.2⟩ : _ ∧ k_ ≠ gb205))) (fun _ hk => hk.2) (.int .i64 t195)) (fun _ hk => hk.2) (.string t196)) (fun _ hk => hk.2) (.string t197)) (fun _ hk => hk.2) (.slice Ao75 t198.length co75)) (fun _ hk => hk.2) (.slice Ao76 t201.length co76)) (fun _ h_ => h_.1))) hb); have n3_ := Aside0.mk (Kd.V_below (by (with_reducible repeat (first | apply Kd.V_alloc | apply Kd.V_drewN | apply Kd.V_drew)); exact (Kd.V_mono (Kd.V_far (p := ⟨gb205, 4, none⟩) (Kd.V_far (p := ⟨gb205, 3, none⟩) (Kd.V_far (p := ⟨gb205, 2, none⟩) (Kd.V_far (p := ⟨gb205, 1, none⟩) (Kd.V_far (p := ⟨gb205, 0, none⟩) (Kd.V_mono HO_186004.out (fun k_ hk => (⟨hk, hk.2⟩ : _ ∧ k_ ≠ gb205))) (fun _ hk => hk.2) (.int .i64 t195)) (fun _ hk => hk.2) (.string t196)) (fun _ hk => hk.2) (.string t197)) (fun _ hk => hk.2) (.slice Ao75 t198.length co75)) (fun _ hk => hk.2) (.slice Ao76 t201.length co76)) (fun _ h_ => h_.1))) hb); have n4_ := Aside0.mk (Kd.V_below (by (with_reducible repeat (first | apply Kd.V_alloc | apply Kd.V_drewN | apply Kd.V_drew)); exact (Kd.V_mono (Kd.V_far (p := ⟨gb205, 4, none⟩) (Kd.V_far (p := ⟨gb205, 3, none⟩) (Kd.V_far (p := ⟨gb205, 2, none⟩) (Kd.V_far (p := ⟨gb205, 1, none⟩) (Kd.V_far (p := ⟨gb205, 0, none⟩) (Kd.V_mono HL194_0.out (fun k_ hk => (⟨hk, hk.2⟩ : _ ∧ k_ ≠ gb205))) (fun _ hk => hk.2) (.int .i64 t195)) (fun _ hk => hk.2) (.string t196)) (fun _ hk => hk.2) (.string t197)) (fun _ hk => hk.2) (.slice Ao75 t198.length co75)) (fun _ hk => hk.2) (.slice Ao76 t201.length co76)) (fun _ h_ => h_.1))) hb); have n5_ := Aside0.mk (Kd.V_below (by (with_reducible repeat (first | apply Kd.V_alloc | apply Kd.V_drewN | apply Kd.V_drew)); exact (Kd.V_mono (Kd.V_far (p := ⟨gb205, 4, none⟩) (Kd.V_far (p := ⟨gb205, 3, none⟩) (Kd.V_far (p := ⟨gb205, 2, none⟩) (Kd.V_far (p := ⟨gb205, 1, none⟩) (Kd.V_far (p := ⟨gb205, 0, none⟩) (Kd.V_mono HO200.out (fun k_ hk => (⟨hk, hk.2⟩ : _ ∧ k_ ≠ gb205))) (fun _ hk => hk.2) (.int .i64 t195)) (fun _ hk => hk.2) (.string t196)) (fun _ hk => hk.2) (.string t197)) (fun _ hk => hk.2) (.slice Ao75 t198.length co75)) (fun _ hk => hk.2) (.slice Ao76 t201.length co76)) (fun _ h_ => h_.1))) hb); have n6_ := Aside0.mk (Kd.V_below (by (with_reducible repeat (first | apply Kd.V_alloc | apply Kd.V_drewN | apply Kd.V_drew)); exact (Kd.V_mono (Kd.V_far (p := ⟨gb205, 4, none⟩) (Kd.V_far (p := ⟨gb205, 3, none⟩) (Kd.V_far (p := ⟨gb205, 2, none⟩) (Kd.V_far (p := ⟨gb205, 1, none⟩) (Kd.V_far (p := ⟨gb205, 0, none⟩) (Kd.V_mono HO203.out (fun k_ hk => (⟨hk, hk.2⟩ : _ ∧ k_ ≠ gb205))) (fun _ hk => hk.2) (.int .i64 t195)) (fun _ hk => hk.2) (.string t196)) (fun _ hk => hk.2) (.string t197)) (fun _ hk => hk.2) (.slice Ao75 t198.length co75)) (fun _ hk => hk.2) (.slice Ao76 t201.length co76)) (fun _ h_ => h_.1))) hb); have n7_ := Aside0.mk (blk_below (g := gb169) (o := .cells #[.int .i64 a0_0, .string a0_1, .string a0_2, .slice A0_3 l0_3.length c0_3, .slice A0_4 l0_4.length c0_4] 25 (0, 0)) (by (with_reducible repeat (first | refine blk_drewN ?_ _ | refine blk_drew ?_ | refine blk_alloc ?_ _)); refine blk_far ?_ NB169_205.out _; (with_reducible repeat (first | refine blk_drewN ?_ _ | refine blk_drew ?_ | refine blk_alloc ?_ _)); refine blk_far ?_ NB169_205.out _; (with_reducible repeat (first | refine blk_drewN ?_ _ | refine blk_drew ?_ | refine blk_alloc ?_ _)); refine blk_far ?_ NB169_205.out _; (with_reducible repeat (first | refine blk_drewN ?_ _ | refine blk_drew ?_ | refine blk_alloc ?_ _)); refine blk_far ?_ NB169_205.out _; (with_reducible repeat (first | refine blk_drewN ?_ _ | refine blk_drew ?_ | refine blk_alloc ?_ _)); refine blk_far ?_ NB169_205.out _; (with_reducible repeat (first | refine blk_drewN ?_ _ | refine blk_drew ?_ | refine blk_alloc ?_ _)); exact BK169.out) hb); have n8_ := Aside0.mk (blk_below (g := gb185) (o := .cells #[.int .i64 t175, .string t176, .string t177, .slice Ao33 t178.length co33, .slice Ao34 t181.length co34] 25 (0, 0)) (by (with_reducible repeat (first | refine blk_drewN ?_ _ | refine blk_drew ?_ | refine blk_alloc ?_ _)); refine blk_far ?_ NB185_205.out _; (with_reducible repeat (first | refine blk_drewN ?_ _ | refine blk_drew ?_ | refine blk_alloc ?_ _)); refine blk_far ?_ NB185_205.out _; (with_reducible repeat (first | refine blk_drewN ?_ _ | refine blk_drew ?_ | refine blk_alloc ?_ _)); refine blk_far ?_ NB185_205.out _; (with_reducible repeat (first | refine blk_drewN ?_ _ | refine blk_drew ?_ | refine blk_alloc ?_ _)); refine blk_far ?_ NB185_205.out _; (with_reducible repeat (first | refine blk_drewN ?_ _ | refine blk_drew ?_ | refine blk_alloc ?_ _)); refine blk_far ?_ NB185_205.out _; (with_reducible repeat (first | refine blk_drewN ?_ _ | refine blk_drew ?_ | refine blk_alloc ?_ _)); exact BK185.out) hb); have n9_ := Aside0.mk (Kd.C_below ((Kd.V_reads' (by (with_reducible repeat (first | apply Kd.V_alloc | apply Kd.V_drewN | apply Kd.V_drew)); exact (Kd.V_mono (Kd.V_far (p := ⟨gb205, 4, none⟩) (Kd.V_far (p := ⟨gb205, 3, none⟩) (Kd.V_far (p := ⟨gb205, 2, none⟩) (Kd.V_far (p := ⟨gb205, 1, none⟩) (Kd.V_far (p := ⟨gb205, 0, none⟩) (Kd.V_mono HL194_0.out (fun k_ hk => (⟨hk, hk.2⟩ : _ ∧ k_ ≠ gb205))) (fun _ hk => hk.2) (.int .i64 t195)) (fun _ hk => hk.2) (.string t196)) (fun _ hk => hk.2) (.string t197)) (fun _ hk => hk.2) (.slice Ao75 t198.length co75)) (fun _ hk => hk.2) (.slice Ao76 t201.length co76)) (fun _ h_ => h_.1)))).2.2) hb); have n10_ := Aside0.mk (blk_below (g := gb205) (o := .cells #[.int .i64 t195, .string t196, .string t197, .slice Ao75 t198.length co75, .slice Ao76 t201.length co76] 25 (0, 0)) (by (with_reducible repeat (first | refine blk_drewN ?_ _ | refine blk_drew ?_ | refine blk_alloc ?_ _)); refine blk_put (cs := #[.int .i64 t195, .string t196, .string t197, .slice Ao75 t198.length co75, .slice none 0 0]) ?_ 4 _ rfl; (with_reducible repeat (first | refine blk_drewN ?_ _ | refine blk_drew ?_ | refine blk_alloc ?_ _)); refine blk_put (cs := #[.int .i64 t195, .string t196, .string t197, .slice none 0 0, .slice none 0 0]) ?_ 3 _ rfl; (with_reducible repeat (first | refine blk_drewN ?_ _ | refine blk_drew ?_ | refine blk_alloc ?_ _)); refine blk_put (cs := #[.int .i64 t195, .string t196, .string (⟨#[]⟩ : ByteArray), .slice none 0 0, .slice none 0 0]) ?_ 2 _ rfl; (with_reducible repeat (first | refine blk_drewN ?_ _ | refine blk_drew ?_ | refine blk_alloc ?_ _)); refine blk_put (cs := #[.int .i64 t195, .string (⟨#[]⟩ : ByteArray), .string (⟨#[]⟩ : ByteArray), .slice none 0 0, .slice none 0 0]) ?_ 1 _ rfl; (with_reducible repeat (first | refine blk_drewN ?_ _ | refine blk_drew ?_ | refine blk_alloc ?_ _)); refine blk_put (cs := #[.int .i64 0, .string (⟨#[]⟩ : ByteArray), .string (⟨#[]⟩ : ByteArray), .slice none 0 0, .slice none 0 0]) ?_ 0 _ rfl; (with_reducible repeat (first | refine blk_drewN ?_ _ | refine blk_drew ?_ | refine blk_alloc ?_ _)); exact BK205.out) hb); have n11_ := Aside0.mk (below_step (by repeat (first | (with_reducible first | exact HB.out | apply below_alloc | apply pw_below_drewN | apply below_drew1 | refine below_set ?_ GE169.out | refine below_set ?_ GE185.out | refine below_set ?_ GE205.out) | exact HB.out)) hb); clear HO_11; clear HO_55; clear HO_186003; clear HO_186004; clear HL194_0; clear HO200; clear HO203; clear BK169; clear BK185; clear HR194_0; clear BK205; clear HB; have HO_11 := n0_; have HO_55 := n1_; have HO_186003 := n2_; have HO_186004 := n3_; have HL194_0 := n4_; have HO200 := n5_; have HO203 := n6_; have BK169 := n7_; have BK185 := n8_; have HR194_0 := n9_; have BK205 := n10_; have HB := n11_; clear n0_ n1_ n2_ n3_ n4_ n5_ n6_ n7_ n8_ n9_ n10_ n11_; (try clear hb); (try clear hb2); (try clear hk); (try clear hi)))
                                  go_roundg k3
                                  case measure => have := HJ3.out; have := HK2.out; have := HK3.out; omega
                                  case rel => exact ⟨(x11_3), (wrap64 (x57_3 + 1)), (by first | rfl | (simp; done) | (simp [*]; done)), H', ⟨by have := HJ3.out; have := HK2.out; have := HK3.out; omega⟩, ⟨by (with_reducible repeat (first | apply Kd.N_alloc | apply Kd.N_drewN | apply Kd.N_drew)); exact Kd.N_mono HO_11.out (fun _ hk => ⟨hk.1.1, hk.1.2⟩)⟩, ⟨by (with_reducible repeat (first | apply Kd.V_alloc | apply Kd.V_drewN | apply Kd.V_drew)); exact Kd.V_mono HO_55.out (fun _ hk => ⟨hk.1.1, ⟨hk.1.2.1, hk.1.2.2⟩⟩)⟩, ⟨by (with_reducible repeat (first | apply Kd.V_alloc | apply Kd.V_drewN | apply Kd.V_drew)); exact Kd.V_mono HO_186003.out (fun _ hk => ⟨hk.1.1, ⟨hk.1.2.1, hk.1.2.2⟩⟩)⟩, ⟨by (with_reducible repeat (first | apply Kd.V_alloc | apply Kd.V_drewN | apply Kd.V_drew)); exact Kd.V_mono HO_186004.out (fun _ hk => ⟨hk.1.1, ⟨hk.1.2.1, hk.1.2.2⟩⟩)⟩, ⟨by (with_reducible repeat (first | refine blk_drewN ?_ _ | refine blk_drew ?_ | refine blk_alloc ?_ _)); exact BK169.out⟩, ⟨by (with_reducible repeat (first | refine blk_drewN ?_ _ | refine blk_drew ?_ | refine blk_alloc ?_ _)); exact BK185.out⟩, ⟨by repeat (first | (with_reducible first | exact HB.out | apply below_alloc | apply pw_below_drewN | apply below_drew1 | refine below_set ?_ GE169.out | refine below_set ?_ GE185.out | refine below_set ?_ GE205.out) | exact HB.out)⟩⟩
                              · rw [if_neg c45] at H
                                exact absurd H (by simp)
                            · rw [if_neg c44] at H
                              exact absurd H (by simp)
                          · rw [if_neg c43] at H
                            have c43b0 : decide (x57_3 < (y189.length : Int)) = false := decide_eq_false c43
                            clear c43
                            (first | rw [c43b0] | (simp only [i64_w, i32_w]; rw [c43b0]) | skip)
                            have H' := Aside0.mk H
                            clear H
                            go_wp2
                            go_meet
                            case rel => exact ⟨_, (x11_3), H', ⟨by have := HJ3.out; have := HK2.out; have := HK3.out; first | omega | exact Nat.le_refl _⟩, ⟨by (with_reducible repeat (first | apply Kd.N_alloc | apply Kd.N_drewN | apply Kd.N_drew)); exact HO_11.out⟩, ⟨by (with_reducible repeat (first | apply Kd.V_alloc | apply Kd.V_drewN | apply Kd.V_drew)); exact HO_186003.out⟩, ⟨by (with_reducible repeat (first | apply Kd.V_alloc | apply Kd.V_drewN | apply Kd.V_drew)); exact HO_186004.out⟩, ⟨by (with_reducible repeat (first | refine blk_drewN ?_ _ | refine blk_drew ?_ | refine blk_alloc ?_ _)); exact BK169.out⟩, ⟨by (with_reducible repeat (first | refine blk_drewN ?_ _ | refine blk_drew ?_ | refine blk_alloc ?_ _)); exact BK185.out⟩, ⟨by repeat (first | (with_reducible first | exact HB.out | apply below_alloc | apply pw_below_drewN | apply below_drew1 | refine below_set ?_ GE169.out | refine below_set ?_ GE185.out) | exact HB.out)⟩⟩
                    · rw [if_neg c37] at H
                      exact absurd H (by simp)
                  · replace c35 := Bool.eq_false_iff.mpr c35
                    subst c35
                    have H1 : (laws_FnDomFind.j3 k2 l1 l2 false ([] : List (List Int)) a0_0 a0_1 a0_2 l0_3 l0_4) = some r := by rw [if_neg (show ¬ (false = true) by decide)] at H; exact H
                    clear H
                    have H := H1
                    clear H1
                    have H' := Aside0.mk H
                    clear H
                    go_wp2
                    go_meet
                    case rel => exact ⟨_, (([] : List (List Int))), H', ⟨by have := HJ3.out; have := HK2.out; first | omega | exact Nat.le_refl _⟩, ⟨by first | exact Kd.S_nil _ _ _ _ _ | exact Kd.N_nil _ _ _ _ _ | exact Kd.V_nil _ _ _ _ _ | exact Kd.Q_nil _ _ _ _ _ | exact Kd.R_nil _ _ _ _ _⟩, ⟨by (with_reducible repeat (first | apply Kd.V_alloc | apply Kd.V_drewN | apply Kd.V_drew)); exact Kd.V_mono (Kd.V_far (p := ⟨gb185, 4, none⟩) (Kd.V_far (p := ⟨gb185, 3, none⟩) (Kd.V_far (p := ⟨gb185, 2, none⟩) (Kd.V_far (p := ⟨gb185, 1, none⟩) (Kd.V_far (p := ⟨gb185, 0, none⟩) (Kd.V_mono HO180.out (fun k_ hk => (⟨hk, hk.2⟩ : _ ∧ k_ ≠ gb185))) (fun _ hk => hk.2) (.int .i64 t175)) (fun _ hk => hk.2) (.string t176)) (fun _ hk => hk.2) (.string t177)) (fun _ hk => hk.2) (.slice Ao33 t178.length co33)) (fun _ hk => hk.2) (.slice Ao34 t181.length co34)) (fun _ hk => ⟨(by simp [Value.ownBlock]), ⟨hk.1.1, hk.1.2⟩⟩)⟩, ⟨by (with_reducible repeat (first | apply Kd.V_alloc | apply Kd.V_drewN | apply Kd.V_drew)); exact Kd.V_mono (Kd.V_far (p := ⟨gb185, 4, none⟩) (Kd.V_far (p := ⟨gb185, 3, none⟩) (Kd.V_far (p := ⟨gb185, 2, none⟩) (Kd.V_far (p := ⟨gb185, 1, none⟩) (Kd.V_far (p := ⟨gb185, 0, none⟩) (Kd.V_mono HO183.out (fun k_ hk => (⟨hk, hk.2⟩ : _ ∧ k_ ≠ gb185))) (fun _ hk => hk.2) (.int .i64 t175)) (fun _ hk => hk.2) (.string t176)) (fun _ hk => hk.2) (.string t177)) (fun _ hk => hk.2) (.slice Ao33 t178.length co33)) (fun _ hk => hk.2) (.slice Ao34 t181.length co34)) (fun _ hk => ⟨(by simp [Value.ownBlock]), ⟨hk.1.1, hk.1.2⟩⟩)⟩, ⟨by (with_reducible repeat (first | refine blk_drewN ?_ _ | refine blk_drew ?_ | refine blk_alloc ?_ _)); refine blk_far ?_ NB169_185.out _; (with_reducible repeat (first | refine blk_drewN ?_ _ | refine blk_drew ?_ | refine blk_alloc ?_ _)); refine blk_far ?_ NB169_185.out _; (with_reducible repeat (first | refine blk_drewN ?_ _ | refine blk_drew ?_ | refine blk_alloc ?_ _)); refine blk_far ?_ NB169_185.out _; (with_reducible repeat (first | refine blk_drewN ?_ _ | refine blk_drew ?_ | refine blk_alloc ?_ _)); refine blk_far ?_ NB169_185.out _; (with_reducible repeat (first | refine blk_drewN ?_ _ | refine blk_drew ?_ | refine blk_alloc ?_ _)); refine blk_far ?_ NB169_185.out _; (with_reducible repeat (first | refine blk_drewN ?_ _ | refine blk_drew ?_ | refine blk_alloc ?_ _)); exact BK169.out⟩, ⟨by (with_reducible repeat (first | refine blk_drewN ?_ _ | refine blk_drew ?_ | refine blk_alloc ?_ _)); refine blk_put (cs := #[.int .i64 t175, .string t176, .string t177, .slice Ao33 t178.length co33, .slice none 0 0]) ?_ 4 _ rfl; (with_reducible repeat (first | refine blk_drewN ?_ _ | refine blk_drew ?_ | refine blk_alloc ?_ _)); refine blk_put (cs := #[.int .i64 t175, .string t176, .string t177, .slice none 0 0, .slice none 0 0]) ?_ 3 _ rfl; (with_reducible repeat (first | refine blk_drewN ?_ _ | refine blk_drew ?_ | refine blk_alloc ?_ _)); refine blk_put (cs := #[.int .i64 t175, .string t176, .string (⟨#[]⟩ : ByteArray), .slice none 0 0, .slice none 0 0]) ?_ 2 _ rfl; (with_reducible repeat (first | refine blk_drewN ?_ _ | refine blk_drew ?_ | refine blk_alloc ?_ _)); refine blk_put (cs := #[.int .i64 t175, .string (⟨#[]⟩ : ByteArray), .string (⟨#[]⟩ : ByteArray), .slice none 0 0, .slice none 0 0]) ?_ 1 _ rfl; (with_reducible repeat (first | refine blk_drewN ?_ _ | refine blk_drew ?_ | refine blk_alloc ?_ _)); refine blk_put (cs := #[.int .i64 0, .string (⟨#[]⟩ : ByteArray), .string (⟨#[]⟩ : ByteArray), .slice none 0 0, .slice none 0 0]) ?_ 0 _ rfl; (with_reducible repeat (first | refine blk_drewN ?_ _ | refine blk_drew ?_ | refine blk_alloc ?_ _)); exact BK185.out⟩, ⟨by repeat (first | (with_reducible first | exact HB.out | apply below_alloc | apply pw_below_drewN | apply below_drew1 | refine below_set ?_ GE169.out | refine below_set ?_ GE185.out) | exact HB.out)⟩⟩
                case rest =>
                  clear HC27
                  try clear c1
                  try clear p1
                  try clear q1
                  try clear hx1
                  try clear c2
                  try clear p2
                  try clear c3
                  try clear c4
                  try clear q4
                  try clear c5
                  try clear c6
                  try clear p6
                  try clear c7
                  try clear c8
                  try clear c8b0
                  try clear c8b1
                  try clear c9
                  try clear c10
                  try clear c14
                  try clear c16
                  try clear c17
                  try clear p17
                  try clear q17
                  try clear hx17
                  try clear c18
                  try clear c19
                  try clear p19
                  try clear q19
                  try clear hx19
                  try clear c21
                  try clear c21b0
                  try clear c22
                  try clear c22b0
                  try clear c23
                  try clear c23b0
                  try clear c25
                  try clear c31
                  try clear c35
                  try clear c37
                  try clear c37b0
                  try clear c37b1
                  try clear c38
                  try clear c41
                  try clear q41
                  try clear c43
                  try clear c43b0
                  try clear c44
                  try clear c44b0
                  try clear c45
                  try clear c45b0
                  try clear c48
                  try clear c49
                  try clear c50
                  try clear c51
                  try clear c52
                  try clear c56
                  try clear c57
                  try clear p64
                  try clear c68
                  try clear c72
                  try clear c73
                  try clear hcz12_0
                  try clear hcz12_1
                  try clear hcz12_2
                  try clear hcz12_3
                  try clear hcz12_4
                  try clear hcz14_0
                  try clear hcz14_1
                  try clear hcz14_2
                  try clear hcz14_3
                  try clear hcz14_4
                  try clear hcz19_0
                  try clear hcz19_1
                  try clear hcz19_2
                  try clear hcz19_3
                  try clear hcz19_4
                  try clear hcz28_0
                  try clear hcz28_1
                  try clear hcz28_2
                  try clear hcz28_3
                  try clear hcz28_4
                  try clear hcz32_0
                  try clear hcz32_1
                  try clear hcz32_2
                  try clear hcz32_3
                  try clear hcz32_4
                  try clear hcz39_0
                  try clear hcz39_1
                  try clear hcz39_2
                  try clear hcz39_3
                  try clear hcz39_4
                  try clear hcz53_0
                  try clear hcz53_1
                  try clear hcz53_2
                  try clear hcz53_3
                  try clear hcz53_4
                  try clear hcz58_0
                  try clear hcz58_1
                  try clear hcz58_2
                  try clear hcz58_3
                  try clear hcz58_4
                  try clear hcz69_0
                  try clear hcz69_1
                  try clear hcz69_2
                  try clear hcz69_3
                  try clear hcz69_4
                  try clear hcz74_0
                  try clear hcz74_1
                  try clear hcz74_2
                  try clear hcz74_3
                  try clear hcz74_4
                  try clear hcz9_0
                  try clear hcz9_1
                  try clear hcz9_2
                  try clear hcz9_3
                  try clear hcz9_4
                  try clear hfz12_0
                  try clear hfz12_1
                  try clear hfz12_2
                  try clear hfz12_3
                  try clear hfz12_4
                  try clear hfz14_0
                  try clear hfz14_1
                  try clear hfz14_2
                  try clear hfz14_3
                  try clear hfz14_4
                  try clear hfz19_0
                  try clear hfz19_1
                  try clear hfz19_2
                  try clear hfz19_3
                  try clear hfz19_4
                  try clear hfz28_0
                  try clear hfz28_1
                  try clear hfz28_2
                  try clear hfz28_3
                  try clear hfz28_4
                  try clear hfz32_0
                  try clear hfz32_1
                  try clear hfz32_2
                  try clear hfz32_3
                  try clear hfz32_4
                  try clear hfz39_0
                  try clear hfz39_1
                  try clear hfz39_2
                  try clear hfz39_3
                  try clear hfz39_4
                  try clear hfz53_0
                  try clear hfz53_1
                  try clear hfz53_2
                  try clear hfz53_3
                  try clear hfz53_4
                  try clear hfz58_0
                  try clear hfz58_1
                  try clear hfz58_2
                  try clear hfz58_3
                  try clear hfz58_4
                  try clear hfz69_0
                  try clear hfz69_1
                  try clear hfz69_2
                  try clear hfz69_3
                  try clear hfz69_4
                  try clear hfz74_0
                  try clear hfz74_1
                  try clear hfz74_2
                  try clear hfz74_3
                  try clear hfz74_4
                  try clear hfz9_0
                  try clear hfz9_1
                  try clear hfz9_2
                  try clear hfz9_3
                  try clear hfz9_4
                  try clear hx173_0
                  try clear hx194_0
                  try clear p1
                  try clear p17
                  try clear p173
                  try clear p194
                  try clear p2
                  try clear p6
                  try clear q1
                  try clear q17
                  try clear q173
                  try clear q194
                  try clear q4
                  try clear q41
                  obtain ⟨kq, x11_26, HA, HJ26, HO_11, HO_186003, HO_186004, BK169, BK185, HB⟩ := hcut
                  cases kq with
                  | zero => exact absurd HA.out (by simp [laws_FnDomFind.j3])
                  | succ kj26 =>
                    have H := HA.out
                    clear HA
                    simp only [laws_FnDomFind.j3] at H
                    replace H := Option.bind_eq_some_iff.mp H
                    obtain ⟨⟨t219, t222⟩, A780, H⟩ := H
                    replace H : ((impl_FindFirst.f kj26 a0_0 a0_1 a0_2 l0_3 l0_4 l1 l2).bind fun bt223 => (if (t222 != t184) = true then (laws_FnDomFind.j4 kj26 x11_26 bt223.1 bt223.2 true) else ((laws_paths29.f kj26 t219 x11_26).bind fun t227 => (if t227 = true then (if (bt223.2 != (decide ((x11_26.length : Int) > 0))) = true then (laws_FnDomFind.j4 kj26 x11_26 bt223.1 bt223.2 true) else ((impl_Contains.f kj26 a0_0 a0_1 a0_2 l0_3 l0_4 l1 l2).bind fun t228 => (laws_FnDomFind.j4 kj26 x11_26 bt223.1 bt223.2 (t228 != bt223.2)))) else (laws_FnDomFind.j4 kj26 x11_26 bt223.1 bt223.2 true))))) = some r := H
                    have A78 := Aside0.mk A780
                    clear A780
                    replace H := Option.bind_eq_some_iff.mp H
                    obtain ⟨⟨t223, t226⟩, A790, H⟩ := H
                    replace H : (if (t222 != t184) = true then (laws_FnDomFind.j4 kj26 x11_26 t223 t226 true) else ((laws_paths29.f kj26 t219 x11_26).bind fun t227 => (if t227 = true then (if (t226 != (decide ((x11_26.length : Int) > 0))) = true then (laws_FnDomFind.j4 kj26 x11_26 t223 t226 true) else ((impl_Contains.f kj26 a0_0 a0_1 a0_2 l0_3 l0_4 l1 l2).bind fun t228 => (laws_FnDomFind.j4 kj26 x11_26 t223 t226 (t228 != t226)))) else (laws_FnDomFind.j4 kj26 x11_26 t223 t226 true)))) = some r := H
                    have A79 := Aside0.mk A790
                    clear A790
                    have HC80 := Aside0.mk H
                    clear H
                    have hnb81 := NB169_185.out
                    have hnc81 := NB185_169.out
                    have hcz82_0 : wc.cell? ⟨gb169, 0, none⟩ = some (.int .i64 a0_0) := (blk_cell BK169.out 0).trans rfl
                    have hcz82_1 : wc.cell? ⟨gb169, 1, none⟩ = some (.string a0_1) := (blk_cell BK169.out 1).trans rfl
                    have hcz82_2 : wc.cell? ⟨gb169, 2, none⟩ = some (.string a0_2) := (blk_cell BK169.out 2).trans rfl
                    have hcz82_3 : wc.cell? ⟨gb169, 3, none⟩ = some (.slice A0_3 l0_3.length c0_3) := (blk_cell BK169.out 3).trans rfl
                    have hcz82_4 : wc.cell? ⟨gb169, 4, none⟩ = some (.slice A0_4 l0_4.length c0_4) := (blk_cell BK169.out 4).trans rfl
                    have hfz82_0 := blk_frozen BK169.out 0
                    have hfz82_1 := blk_frozen BK169.out 1
                    have hfz82_2 := blk_frozen BK169.out 2
                    have hfz82_3 := blk_frozen BK169.out 3
                    have hfz82_4 := blk_frozen BK169.out 4
                    go_upto_region 23 with (first | ((with_reducible refine gate_callee (f := 19) rfl ?_); refine goesL_ (some 83) rfl rfl Try.func19 (by kernel_rfl) rfl #[.agg #[.int .i64 a0_0, .string a0_1, .string a0_2, .slice A0_3 l0_3.length c0_3, .slice A0_4 l0_4.length c0_4], .slice A1 l1.length c1, .slice A2 l2.length c2] rfl (by (try simp only [List.map_toArray, List.map_cons, List.map_nil]); first | done | rfl | (simp only [List.length_drop, List.length_take]; rfl)) ?_; (with_reducible refine (impl_FindAll.calls kj26 a0_0 a0_1 a0_2 _ _ l0_3 _ _ l0_4 _ _ l1 _ _ l2 t219 t222 _ ?side1 ?side2 ?side3 ?side4 ?side5 ?side6 ?side7 ?side8 A78.out).mono ?_); (case side1 => repeat (first | exact (Kd.C_below HR0_3.out HB.out) | (with_reducible refine Kd.C_alloc ?_ _) | (with_reducible refine Kd.C_drewN ?_ _) | (with_reducible refine Kd.C_drew ?_))); (case side2 => exact HC0_3.out); (case side3 => repeat (first | exact (Kd.C_below HR0_4.out HB.out) | (with_reducible refine Kd.C_alloc ?_ _) | (with_reducible refine Kd.C_drewN ?_ _) | (with_reducible refine Kd.C_drew ?_))); (case side4 => exact HC0_4.out); (case side5 => repeat (first | exact (Kd.C_below HR1.out HB.out) | (with_reducible refine Kd.C_alloc ?_ _) | (with_reducible refine Kd.C_drewN ?_ _) | (with_reducible refine Kd.C_drew ?_))); (case side6 => exact HC1.out); (case side7 => repeat (first | exact (Kd.C_below HR2.out HB.out) | (with_reducible refine Kd.C_alloc ?_ _) | (with_reducible refine Kd.C_drewN ?_ _) | (with_reducible refine Kd.C_drew ?_))); (case side8 => exact HC2.out); rintro e w83 ⟨v220, rfl, ho0, hb⟩; refine ⟨_, rfl, ?_⟩; have n0_ := Aside0.mk (Kd.N_elder' (by (with_reducible repeat (first | apply Kd.N_alloc | apply Kd.N_drewN | apply Kd.N_drew)); exact HO_11.out) (Kd.N_base ho0) hb); have n1_ := Aside0.mk (Kd.V_elder' (by (with_reducible repeat (first | apply Kd.V_alloc | apply Kd.V_drewN | apply Kd.V_drew)); exact HO_186003.out) (Kd.N_base ho0) hb); have n2_ := Aside0.mk (Kd.V_elder' (by (with_reducible repeat (first | apply Kd.V_alloc | apply Kd.V_drewN | apply Kd.V_drew)); exact HO_186004.out) (Kd.N_base ho0) hb); have n3_ := Aside0.mk (Kd.N_lower (Kd.N_mono (ok' := fun k_ => some k_ ≠ (u11 : Value).ownBlock ∧ k_ ≠ gb169 ∧ k_ ≠ gb185) ho0 (fun k_ hk_ => ⟨(Kd.fresh' (Kd.N_lt (by (with_reducible repeat (first | apply Kd.N_alloc | apply Kd.N_drewN | apply Kd.N_drew)); exact HO_11.out)) k_ hk_), (Kd.freshB (g := gb169) (o := .cells #[.int .i64 a0_0, .string a0_1, .string a0_2, .slice A0_3 l0_3.length c0_3, .slice A0_4 l0_4.length c0_4] 25 (0, 0)) (by (with_reducible repeat (first | refine blk_drewN ?_ _ | refine blk_drew ?_ | refine blk_alloc ?_ _)); exact BK169.out) k_ hk_), (Kd.freshB (g := gb185) (o := .cells #[.int .i64 t175, .string t176, .string t177, .slice Ao33 t178.length co33, .slice Ao34 t181.length co34] 25 (0, 0)) (by (with_reducible repeat (first | refine blk_drewN ?_ _ | refine blk_drew ?_ | refine blk_alloc ?_ _)); exact BK185.out) k_ hk_)⟩)) (below_size (by repeat (first | (with_reducible first | exact HB.out | apply below_alloc | apply pw_below_drewN | apply below_drew1 | refine below_set ?_ GE169.out | refine below_set ?_ GE185.out) | exact HB.out)))); have n4_ := Aside0.mk (blk_below (g := gb169) (o := .cells #[.int .i64 a0_0, .string a0_1, .string a0_2, .slice A0_3 l0_3.length c0_3, .slice A0_4 l0_4.length c0_4] 25 (0, 0)) (by (with_reducible repeat (first | refine blk_drewN ?_ _ | refine blk_drew ?_ | refine blk_alloc ?_ _)); exact BK169.out) hb); have n5_ := Aside0.mk (blk_below (g := gb185) (o := .cells #[.int .i64 t175, .string t176, .string t177, .slice Ao33 t178.length co33, .slice Ao34 t181.length co34] 25 (0, 0)) (by (with_reducible repeat (first | refine blk_drewN ?_ _ | refine blk_drew ?_ | refine blk_alloc ?_ _)); exact BK185.out) hb); have n6_ := Aside0.mk (below_step (by repeat (first | (with_reducible first | exact HB.out | apply below_alloc | apply pw_below_drewN | apply below_drew1 | refine below_set ?_ GE169.out | refine below_set ?_ GE185.out) | exact HB.out)) hb); clear HO_11; clear HO_186003; clear HO_186004; clear BK169; clear BK185; clear HB; have HO_11 := n0_; have HO_186003 := n1_; have HO_186004 := n2_; have HO221 := n3_; have BK169 := n4_; have BK185 := n5_; have HB := n6_; clear n0_ n1_ n2_ n3_ n4_ n5_ n6_; (try clear hb); (try clear hb2); (try clear hk); (try clear hi); (try clear ho0); have hcz84_0 : w83.cell? ⟨gb169, 0, none⟩ = some (.int .i64 a0_0) := (blk_cell BK169.out 0).trans rfl; have hcz84_1 : w83.cell? ⟨gb169, 1, none⟩ = some (.string a0_1) := (blk_cell BK169.out 1).trans rfl; have hcz84_2 : w83.cell? ⟨gb169, 2, none⟩ = some (.string a0_2) := (blk_cell BK169.out 2).trans rfl; have hcz84_3 : w83.cell? ⟨gb169, 3, none⟩ = some (.slice A0_3 l0_3.length c0_3) := (blk_cell BK169.out 3).trans rfl; have hcz84_4 : w83.cell? ⟨gb169, 4, none⟩ = some (.slice A0_4 l0_4.length c0_4) := (blk_cell BK169.out 4).trans rfl; have hfz84_0 := blk_frozen BK169.out 0; have hfz84_1 := blk_frozen BK169.out 1; have hfz84_2 := blk_frozen BK169.out 2; have hfz84_3 := blk_frozen BK169.out 3; have hfz84_4 := blk_frozen BK169.out 4) | ((with_reducible refine gate_callee (f := 20) rfl ?_); refine goesL_ (some 90) rfl rfl Try.func20 (by kernel_rfl) rfl #[.agg #[.int .i64 a0_0, .string a0_1, .string a0_2, .slice A0_3 l0_3.length c0_3, .slice A0_4 l0_4.length c0_4], .slice A1 l1.length c1, .slice A2 l2.length c2] rfl (by (try simp only [List.map_toArray, List.map_cons, List.map_nil]); first | done | rfl | (simp only [List.length_drop, List.length_take]; rfl)) ?_; (with_reducible refine (impl_FindFirst.calls kj26 a0_0 a0_1 a0_2 _ _ l0_3 _ _ l0_4 _ _ l1 _ _ l2 t223 t226 _ ?side1 ?side2 ?side3 ?side4 ?side5 ?side6 ?side7 ?side8 A79.out).mono ?_); (case side1 => repeat (first | exact (Kd.C_below HR0_3.out HB.out) | (with_reducible refine Kd.C_alloc ?_ _) | (with_reducible refine Kd.C_drewN ?_ _) | (with_reducible refine Kd.C_drew ?_))); (case side2 => exact HC0_3.out); (case side3 => repeat (first | exact (Kd.C_below HR0_4.out HB.out) | (with_reducible refine Kd.C_alloc ?_ _) | (with_reducible refine Kd.C_drewN ?_ _) | (with_reducible refine Kd.C_drew ?_))); (case side4 => exact HC0_4.out); (case side5 => repeat (first | exact (Kd.C_below HR1.out HB.out) | (with_reducible refine Kd.C_alloc ?_ _) | (with_reducible refine Kd.C_drewN ?_ _) | (with_reducible refine Kd.C_drew ?_))); (case side6 => exact HC1.out); (case side7 => repeat (first | exact (Kd.C_below HR2.out HB.out) | (with_reducible refine Kd.C_alloc ?_ _) | (with_reducible refine Kd.C_drewN ?_ _) | (with_reducible refine Kd.C_drew ?_))); (case side8 => exact HC2.out); rintro e w85 ⟨v224, rfl, ho0, hb⟩; refine ⟨_, rfl, ?_⟩; have n0_ := Aside0.mk (Kd.N_elder' (by (with_reducible repeat (first | apply Kd.N_alloc | apply Kd.N_drewN | apply Kd.N_drew)); exact HO_11.out) (Kd.R_base ho0) hb); have n1_ := Aside0.mk (Kd.V_elder' (by (with_reducible repeat (first | apply Kd.V_alloc | apply Kd.V_drewN | apply Kd.V_drew)); exact HO_186003.out) (Kd.R_base ho0) hb); have n2_ := Aside0.mk (Kd.V_elder' (by (with_reducible repeat (first | apply Kd.V_alloc | apply Kd.V_drewN | apply Kd.V_drew)); exact HO_186004.out) (Kd.R_base ho0) hb); have n3_ := Aside0.mk (Kd.N_elder' (by (with_reducible repeat (first | apply Kd.N_alloc | apply Kd.N_drewN | apply Kd.N_drew)); exact HO221.out) (Kd.R_base ho0) hb); have n4_ := Aside0.mk (Kd.R_lower ho0 (below_size (by repeat (first | (with_reducible first | exact HB.out | apply below_alloc | apply pw_below_drewN | apply below_drew1 | refine below_set ?_ GE169.out | refine below_set ?_ GE185.out) | exact HB.out)))); have n5_ := Aside0.mk (blk_below (g := gb169) (o := .cells #[.int .i64 a0_0, .string a0_1, .string a0_2, .slice A0_3 l0_3.length c0_3, .slice A0_4 l0_4.length c0_4] 25 (0, 0)) (by (with_reducible repeat (first | refine blk_drewN ?_ _ | refine blk_drew ?_ | refine blk_alloc ?_ _)); exact BK169.out) hb); have n6_ := Aside0.mk (blk_below (g := gb185) (o := .cells #[.int .i64 t175, .string t176, .string t177, .slice Ao33 t178.length co33, .slice Ao34 t181.length co34] 25 (0, 0)) (by (with_reducible repeat (first | refine blk_drewN ?_ _ | refine blk_drew ?_ | refine blk_alloc ?_ _)); exact BK185.out) hb); have n7_ := Aside0.mk (below_step (by repeat (first | (with_reducible first | exact HB.out | apply below_alloc | apply pw_below_drewN | apply below_drew1 | refine below_set ?_ GE169.out | refine below_set ?_ GE185.out) | exact HB.out)) hb); clear HO_11; clear HO_186003; clear HO_186004; clear HO221; clear BK169; clear BK185; clear HB; have HO_11 := n0_; have HO_186003 := n1_; have HO_186004 := n2_; have HO221 := n3_; have HO225 := n4_; have BK169 := n5_; have BK185 := n6_; have HB := n7_; clear n0_ n1_ n2_ n3_ n4_ n5_ n6_ n7_; (try clear hb); (try clear hb2); (try clear hk); (try clear hi); (try clear ho0)))
                    (try simp only [Act.put, List.setIfInBounds_toArray, List.set_cons_zero, List.set_cons_succ])
                    go_cut [116] (fun v116 wc => ∃ (kq : Nat) (x116_79 : Bool), v116 = .bool x116_79 ∧ Aside0 (laws_FnDomFind.j4 kq x11_26 t223 t226 x116_79 = some r) ∧ Aside0 (kq ≤ kj26) ∧ Aside0 (Kd.N (Kd.slice 3 (Kd.int .i64)) 32 wc w.heap.size (fun k_ => some k_ ≠ (v224 : Value).ownBlock ∧ k_ ≠ gb169 ∧ k_ ≠ gb185) u11 x11_26) ∧ Aside0 (Kd.R (Kd.int .i64) 3 wc w.heap.size (fun _ => True) v224 t223) ∧ Aside0 (Kd.V k78 78 wc w.heap.size (fun k_ => some k_ ≠ (u11 : Value).ownBlock ∧ some k_ ≠ (v224 : Value).ownBlock ∧ k_ ≠ gb169 ∧ k_ ≠ gb185) (.slice Ao33 t178.length co33) t178) ∧ Aside0 (Kd.V k25 25 wc w.heap.size (fun k_ => some k_ ≠ (u11 : Value).ownBlock ∧ some k_ ≠ (v224 : Value).ownBlock ∧ k_ ≠ gb169 ∧ k_ ≠ gb185) (.slice Ao34 t181.length co34) t181) ∧ Aside0 (wc.heap[gb169]? = some (.cells #[.int .i64 a0_0, .string a0_1, .string a0_2, (.slice A0_3 l0_3.length c0_3), (.slice A0_4 l0_4.length c0_4)] 25 (0, 0))) ∧ Aside0 (wc.heap[gb185]? = some (.cells #[.int .i64 t175, .string t176, .string t177, (.slice Ao33 t178.length co33), (.slice Ao34 t181.length co34)] 25 (0, 0))) ∧ Aside0 (Below w.heap.size w wc))
                    case first =>
                      have H := HC80.out
                      clear HC80
                      by_cases c86 : (t222 != t184) = true
                      · rw [if_pos c86] at H
                        have c86b0 : (t222 != t184) = true := c86
                        (try (have c86b1 : decide (t222 = t184) = false := by simpa using c86))
                        (try (have c86b2 : (t222 == t184) = false := by simpa using c86))
                        (try (have c86b3 : ¬ (t222 = t184) := by simpa using c86))
                        clear c86
                        (first | rw [c86b0] | (simp only [i64_w, i32_w]; rw [c86b0]) | skip)
                        have H' := Aside0.mk H
                        clear H
                        go_wp2
                        go_meet
                        case rel => exact ⟨_, (true), (by first | rfl | (simp; done) | (simp [*]; done)), H', ⟨by have := HJ3.out; have := HK2.out; have := HJ26.out; first | omega | exact Nat.le_refl _⟩, ⟨by (with_reducible repeat (first | apply Kd.N_alloc | apply Kd.N_drewN | apply Kd.N_drew)); exact Kd.N_mono HO_11.out (fun _ hk => ⟨hk.2, ⟨hk.1.1.1, hk.1.1.2⟩⟩)⟩, ⟨by (with_reducible repeat (first | apply Kd.R_alloc | apply Kd.R_drewN | apply Kd.R_drew)); exact HO225.out⟩, ⟨by (with_reducible repeat (first | apply Kd.V_alloc | apply Kd.V_drewN | apply Kd.V_drew)); exact Kd.V_mono HO_186003.out (fun _ hk => ⟨hk.1.1.1, ⟨hk.2, ⟨hk.1.1.2.1, hk.1.1.2.2⟩⟩⟩)⟩, ⟨by (with_reducible repeat (first | apply Kd.V_alloc | apply Kd.V_drewN | apply Kd.V_drew)); exact Kd.V_mono HO_186004.out (fun _ hk => ⟨hk.1.1.1, ⟨hk.2, ⟨hk.1.1.2.1, hk.1.1.2.2⟩⟩⟩)⟩, ⟨by (with_reducible repeat (first | refine blk_drewN ?_ _ | refine blk_drew ?_ | refine blk_alloc ?_ _)); exact BK169.out⟩, ⟨by (with_reducible repeat (first | refine blk_drewN ?_ _ | refine blk_drew ?_ | refine blk_alloc ?_ _)); exact BK185.out⟩, ⟨by repeat (first | (with_reducible first | exact HB.out | apply below_alloc | apply pw_below_drewN | apply below_drew1 | refine below_set ?_ GE169.out | refine below_set ?_ GE185.out) | exact HB.out)⟩⟩
                      · rw [if_neg c86] at H
                        have c86b0 : (t222 != t184) = false := by simpa using c86
                        (try (have c86b1 : decide (t222 = t184) = true := by simpa using c86))
                        (try (have c86b2 : (t222 == t184) = true := by simpa using c86))
                        clear c86
                        (first | rw [c86b0] | (simp only [i64_w, i32_w]; rw [c86b0]) | skip)
                        replace H := Option.bind_eq_some_iff.mp H
                        obtain ⟨t227, A870, H⟩ := H
                        replace H : (if t227 = true then (if (t226 != (decide ((x11_26.length : Int) > 0))) = true then (laws_FnDomFind.j4 kj26 x11_26 t223 t226 true) else ((impl_Contains.f kj26 a0_0 a0_1 a0_2 l0_3 l0_4 l1 l2).bind fun t228 => (laws_FnDomFind.j4 kj26 x11_26 t223 t226 (t228 != t226)))) else (laws_FnDomFind.j4 kj26 x11_26 t223 t226 true)) = some r := H
                        rw [show (decide ((x11_26.length : Int) > 0)) = decide (0 < x11_26.length) from by simp] at H
                        have A87 := Aside0.mk A870
                        clear A870
                        by_cases c88 : t227 = true
                        · subst c88
                          have H1 : (if (t226 != (decide (0 < x11_26.length))) = true then (laws_FnDomFind.j4 kj26 x11_26 t223 t226 true) else ((impl_Contains.f kj26 a0_0 a0_1 a0_2 l0_3 l0_4 l1 l2).bind fun t228 => (laws_FnDomFind.j4 kj26 x11_26 t223 t226 (t228 != t226)))) = some r := by rw [if_pos rfl] at H; exact H
                          clear H
                          have H := H1
                          clear H1
                          by_cases c89 : (t226 != (decide (0 < x11_26.length))) = true
                          · rw [if_pos c89] at H
                            have c89b0 : (t226 != (decide (0 < x11_26.length))) = true := c89
                            (try (have c89b1 : decide (t226 = (decide (0 < x11_26.length))) = false := by simpa using c89))
                            (try (have c89b2 : (t226 == (decide (0 < x11_26.length))) = false := by simpa using c89))
                            (try (have c89b3 : ¬ (t226 = (decide (0 < x11_26.length))) := by simpa using c89))
                            clear c89
                            have H' := Aside0.mk H
                            clear H
                            obtain ⟨Ao90, co90, eo90⟩ := Kd.N_slice HO221.out
                            subst eo90
                            obtain ⟨Ao91, co91, eo91⟩ := Kd.N_slice HO_11.out
                            subst eo91
                            go_wp2_with (first | (go_at_call 12; (with_reducible refine (laws_paths29.calls kj26 _ _ t219 _ _ x11_26 true _ ?side1 ?side2 ?side3 ?side4 A87.out).mono ?_); (case side1 => repeat (first | exact (Kd.N_reads' HO221.out).2.2 | (with_reducible refine Kd.C_alloc ?_ _) | (with_reducible refine Kd.C_drewN ?_ _) | (with_reducible refine Kd.C_drew ?_))); (case side2 => exact (Kd.N_reads' HO221.out).2.1); (case side3 => repeat (first | exact (Kd.N_reads' HO_11.out).2.2 | (with_reducible refine Kd.C_alloc ?_ _) | (with_reducible refine Kd.C_drewN ?_ _) | (with_reducible refine Kd.C_drew ?_))); (case side4 => exact (Kd.N_reads' HO_11.out).2.1); rintro e w' ⟨rfl, ⟨nd, rfl⟩⟩))
                            go_meet
                            case rel => exact ⟨_, (true), (by first | rfl | (simp; done) | (simp [*]; done)), H', ⟨by have := HJ3.out; have := HK2.out; have := HJ26.out; first | omega | exact Nat.le_refl _⟩, ⟨by (with_reducible repeat (first | apply Kd.N_alloc | apply Kd.N_drewN | apply Kd.N_drew)); exact Kd.N_mono HO_11.out (fun _ hk => ⟨hk.2, ⟨hk.1.1.1, hk.1.1.2⟩⟩)⟩, ⟨by (with_reducible repeat (first | apply Kd.R_alloc | apply Kd.R_drewN | apply Kd.R_drew)); exact HO225.out⟩, ⟨by (with_reducible repeat (first | apply Kd.V_alloc | apply Kd.V_drewN | apply Kd.V_drew)); exact Kd.V_mono HO_186003.out (fun _ hk => ⟨hk.1.1.1, ⟨hk.2, ⟨hk.1.1.2.1, hk.1.1.2.2⟩⟩⟩)⟩, ⟨by (with_reducible repeat (first | apply Kd.V_alloc | apply Kd.V_drewN | apply Kd.V_drew)); exact Kd.V_mono HO_186004.out (fun _ hk => ⟨hk.1.1.1, ⟨hk.2, ⟨hk.1.1.2.1, hk.1.1.2.2⟩⟩⟩)⟩, ⟨by (with_reducible repeat (first | refine blk_drewN ?_ _ | refine blk_drew ?_ | refine blk_alloc ?_ _)); exact BK169.out⟩, ⟨by (with_reducible repeat (first | refine blk_drewN ?_ _ | refine blk_drew ?_ | refine blk_alloc ?_ _)); exact BK185.out⟩, ⟨by repeat (first | (with_reducible first | exact HB.out | apply below_alloc | apply pw_below_drewN | apply below_drew1 | refine below_set ?_ GE169.out | refine below_set ?_ GE185.out) | exact HB.out)⟩⟩
                          · rw [if_neg c89] at H
                            have c89b0 : (t226 != (decide (0 < x11_26.length))) = false := by simpa using c89
                            (try (have c89b1 : decide (t226 = (decide (0 < x11_26.length))) = true := by simpa using c89))
                            (try (have c89b2 : (t226 == (decide (0 < x11_26.length))) = true := by simpa using c89))
                            clear c89
                            replace H := Option.bind_eq_some_iff.mp H
                            obtain ⟨t228, A920, H⟩ := H
                            replace H : (laws_FnDomFind.j4 kj26 x11_26 t223 t226 (t228 != t226)) = some r := H
                            have A92 := Aside0.mk A920
                            clear A920
                            have H' := Aside0.mk H
                            clear H
                            obtain ⟨Ao93, co93, eo93⟩ := Kd.N_slice HO221.out
                            subst eo93
                            obtain ⟨Ao94, co94, eo94⟩ := Kd.N_slice HO_11.out
                            subst eo94
                            go_wp2_with (first | (go_at_call 12; (with_reducible refine (laws_paths29.calls kj26 _ _ t219 _ _ x11_26 true _ ?side1 ?side2 ?side3 ?side4 A87.out).mono ?_); (case side1 => repeat (first | exact (Kd.N_reads' HO221.out).2.2 | (with_reducible refine Kd.C_alloc ?_ _) | (with_reducible refine Kd.C_drewN ?_ _) | (with_reducible refine Kd.C_drew ?_))); (case side2 => exact (Kd.N_reads' HO221.out).2.1); (case side3 => repeat (first | exact (Kd.N_reads' HO_11.out).2.2 | (with_reducible refine Kd.C_alloc ?_ _) | (with_reducible refine Kd.C_drewN ?_ _) | (with_reducible refine Kd.C_drew ?_))); (case side4 => exact (Kd.N_reads' HO_11.out).2.1); rintro e w' ⟨rfl, ⟨nd, rfl⟩⟩; have hnb95 := NB169_185.out; have hnc95 := NB185_169.out; have hcz96_0 : w85.cell? ⟨gb169, 0, none⟩ = some (.int .i64 a0_0) := (blk_cell BK169.out 0).trans rfl; have hcz96_1 : w85.cell? ⟨gb169, 1, none⟩ = some (.string a0_1) := (blk_cell BK169.out 1).trans rfl; have hcz96_2 : w85.cell? ⟨gb169, 2, none⟩ = some (.string a0_2) := (blk_cell BK169.out 2).trans rfl; have hcz96_3 : w85.cell? ⟨gb169, 3, none⟩ = some (.slice A0_3 l0_3.length c0_3) := (blk_cell BK169.out 3).trans rfl; have hcz96_4 : w85.cell? ⟨gb169, 4, none⟩ = some (.slice A0_4 l0_4.length c0_4) := (blk_cell BK169.out 4).trans rfl; have hfz96_0 := blk_frozen BK169.out 0; have hfz96_1 := blk_frozen BK169.out 1; have hfz96_2 := blk_frozen BK169.out 2; have hfz96_3 := blk_frozen BK169.out 3; have hfz96_4 := blk_frozen BK169.out 4) | (go_at_call 21; (with_reducible refine (impl_Contains.calls kj26 a0_0 a0_1 a0_2 _ _ l0_3 _ _ l0_4 _ _ l1 _ _ l2 t228 _ ?side1 ?side2 ?side3 ?side4 ?side5 ?side6 ?side7 ?side8 A92.out).mono ?_); (case side1 => repeat (first | exact (Kd.C_below HR0_3.out (by repeat (first | (with_reducible first | exact HB.out | apply below_alloc | apply pw_below_drewN | apply below_drew1 | refine below_set ?_ GE169.out | refine below_set ?_ GE185.out) | exact HB.out))) | (with_reducible refine Kd.C_alloc ?_ _) | (with_reducible refine Kd.C_drewN ?_ _) | (with_reducible refine Kd.C_drew ?_))); (case side2 => exact HC0_3.out); (case side3 => repeat (first | exact (Kd.C_below HR0_4.out (by repeat (first | (with_reducible first | exact HB.out | apply below_alloc | apply pw_below_drewN | apply below_drew1 | refine below_set ?_ GE169.out | refine below_set ?_ GE185.out) | exact HB.out))) | (with_reducible refine Kd.C_alloc ?_ _) | (with_reducible refine Kd.C_drewN ?_ _) | (with_reducible refine Kd.C_drew ?_))); (case side4 => exact HC0_4.out); (case side5 => repeat (first | exact (Kd.C_below HR1.out (by repeat (first | (with_reducible first | exact HB.out | apply below_alloc | apply pw_below_drewN | apply below_drew1 | refine below_set ?_ GE169.out | refine below_set ?_ GE185.out) | exact HB.out))) | (with_reducible refine Kd.C_alloc ?_ _) | (with_reducible refine Kd.C_drewN ?_ _) | (with_reducible refine Kd.C_drew ?_))); (case side6 => exact HC1.out); (case side7 => repeat (first | exact (Kd.C_below HR2.out (by repeat (first | (with_reducible first | exact HB.out | apply below_alloc | apply pw_below_drewN | apply below_drew1 | refine below_set ?_ GE169.out | refine below_set ?_ GE185.out) | exact HB.out))) | (with_reducible refine Kd.C_alloc ?_ _) | (with_reducible refine Kd.C_drewN ?_ _) | (with_reducible refine Kd.C_drew ?_))); (case side8 => exact HC2.out); rintro e w97 ⟨rfl, hb⟩; have n0_ := Aside0.mk (Kd.N_below (by (with_reducible repeat (first | apply Kd.N_alloc | apply Kd.N_drewN | apply Kd.N_drew)); exact HO_11.out) hb); have n1_ := Aside0.mk (Kd.V_below (by (with_reducible repeat (first | apply Kd.V_alloc | apply Kd.V_drewN | apply Kd.V_drew)); exact HO_186003.out) hb); have n2_ := Aside0.mk (Kd.V_below (by (with_reducible repeat (first | apply Kd.V_alloc | apply Kd.V_drewN | apply Kd.V_drew)); exact HO_186004.out) hb); have n3_ := Aside0.mk (Kd.N_below (by (with_reducible repeat (first | apply Kd.N_alloc | apply Kd.N_drewN | apply Kd.N_drew)); exact HO221.out) hb); have n4_ := Aside0.mk (Kd.R_below (by (with_reducible repeat (first | apply Kd.R_alloc | apply Kd.R_drewN | apply Kd.R_drew)); exact HO225.out) hb); have n5_ := Aside0.mk (blk_below (g := gb169) (o := .cells #[.int .i64 a0_0, .string a0_1, .string a0_2, .slice A0_3 l0_3.length c0_3, .slice A0_4 l0_4.length c0_4] 25 (0, 0)) (by (with_reducible repeat (first | refine blk_drewN ?_ _ | refine blk_drew ?_ | refine blk_alloc ?_ _)); exact BK169.out) hb); have n6_ := Aside0.mk (blk_below (g := gb185) (o := .cells #[.int .i64 t175, .string t176, .string t177, .slice Ao33 t178.length co33, .slice Ao34 t181.length co34] 25 (0, 0)) (by (with_reducible repeat (first | refine blk_drewN ?_ _ | refine blk_drew ?_ | refine blk_alloc ?_ _)); exact BK185.out) hb); have n7_ := Aside0.mk (below_step (by repeat (first | (with_reducible first | exact HB.out | apply below_alloc | apply pw_below_drewN | apply below_drew1 | refine below_set ?_ GE169.out | refine below_set ?_ GE185.out) | exact HB.out)) hb); clear HO_11; clear HO_186003; clear HO_186004; clear HO221; clear HO225; clear BK169; clear BK185; clear HB; have HO_11 := n0_; have HO_186003 := n1_; have HO_186004 := n2_; have HO221 := n3_; have HO225 := n4_; have BK169 := n5_; have BK185 := n6_; have HB := n7_; clear n0_ n1_ n2_ n3_ n4_ n5_ n6_ n7_; (try clear hb); (try clear hb2); (try clear hk); (try clear hi)))
                            go_meet
                            case rel => exact ⟨_, ((t228 != t226)), (by first | rfl | (simp; done) | (simp [*]; done)), H', ⟨by have := HJ3.out; have := HK2.out; have := HJ26.out; first | omega | exact Nat.le_refl _⟩, ⟨by (with_reducible repeat (first | apply Kd.N_alloc | apply Kd.N_drewN | apply Kd.N_drew)); exact Kd.N_mono HO_11.out (fun _ hk => ⟨hk.2, ⟨hk.1.1.1, hk.1.1.2⟩⟩)⟩, ⟨by (with_reducible repeat (first | apply Kd.R_alloc | apply Kd.R_drewN | apply Kd.R_drew)); exact HO225.out⟩, ⟨by (with_reducible repeat (first | apply Kd.V_alloc | apply Kd.V_drewN | apply Kd.V_drew)); exact Kd.V_mono HO_186003.out (fun _ hk => ⟨hk.1.1.1, ⟨hk.2, ⟨hk.1.1.2.1, hk.1.1.2.2⟩⟩⟩)⟩, ⟨by (with_reducible repeat (first | apply Kd.V_alloc | apply Kd.V_drewN | apply Kd.V_drew)); exact Kd.V_mono HO_186004.out (fun _ hk => ⟨hk.1.1.1, ⟨hk.2, ⟨hk.1.1.2.1, hk.1.1.2.2⟩⟩⟩)⟩, ⟨by (with_reducible repeat (first | refine blk_drewN ?_ _ | refine blk_drew ?_ | refine blk_alloc ?_ _)); exact BK169.out⟩, ⟨by (with_reducible repeat (first | refine blk_drewN ?_ _ | refine blk_drew ?_ | refine blk_alloc ?_ _)); exact BK185.out⟩, ⟨by repeat (first | (with_reducible first | exact HB.out | apply below_alloc | apply pw_below_drewN | apply below_drew1 | refine below_set ?_ GE169.out | refine below_set ?_ GE185.out) | exact HB.out)⟩⟩
                        · replace c88 := Bool.eq_false_iff.mpr c88
                          subst c88
                          have H1 : (laws_FnDomFind.j4 kj26 x11_26 t223 t226 true) = some r := by rw [if_neg (show ¬ (false = true) by decide)] at H; exact H
                          clear H
                          have H := H1
                          clear H1
                          have H' := Aside0.mk H
                          clear H
                          obtain ⟨Ao98, co98, eo98⟩ := Kd.N_slice HO221.out
                          subst eo98
                          obtain ⟨Ao99, co99, eo99⟩ := Kd.N_slice HO_11.out
                          subst eo99
                          go_wp2_with (first | (go_at_call 12; (with_reducible refine (laws_paths29.calls kj26 _ _ t219 _ _ x11_26 false _ ?side1 ?side2 ?side3 ?side4 A87.out).mono ?_); (case side1 => repeat (first | exact (Kd.N_reads' HO221.out).2.2 | (with_reducible refine Kd.C_alloc ?_ _) | (with_reducible refine Kd.C_drewN ?_ _) | (with_reducible refine Kd.C_drew ?_))); (case side2 => exact (Kd.N_reads' HO221.out).2.1); (case side3 => repeat (first | exact (Kd.N_reads' HO_11.out).2.2 | (with_reducible refine Kd.C_alloc ?_ _) | (with_reducible refine Kd.C_drewN ?_ _) | (with_reducible refine Kd.C_drew ?_))); (case side4 => exact (Kd.N_reads' HO_11.out).2.1); rintro e w' ⟨rfl, ⟨nd, rfl⟩⟩))
                          go_meet
                          case rel => exact ⟨_, (true), (by first | rfl | (simp; done) | (simp [*]; done)), H', ⟨by have := HJ3.out; have := HK2.out; have := HJ26.out; first | omega | exact Nat.le_refl _⟩, ⟨by (with_reducible repeat (first | apply Kd.N_alloc | apply Kd.N_drewN | apply Kd.N_drew)); exact Kd.N_mono HO_11.out (fun _ hk => ⟨hk.2, ⟨hk.1.1.1, hk.1.1.2⟩⟩)⟩, ⟨by (with_reducible repeat (first | apply Kd.R_alloc | apply Kd.R_drewN | apply Kd.R_drew)); exact HO225.out⟩, ⟨by (with_reducible repeat (first | apply Kd.V_alloc | apply Kd.V_drewN | apply Kd.V_drew)); exact Kd.V_mono HO_186003.out (fun _ hk => ⟨hk.1.1.1, ⟨hk.2, ⟨hk.1.1.2.1, hk.1.1.2.2⟩⟩⟩)⟩, ⟨by (with_reducible repeat (first | apply Kd.V_alloc | apply Kd.V_drewN | apply Kd.V_drew)); exact Kd.V_mono HO_186004.out (fun _ hk => ⟨hk.1.1.1, ⟨hk.2, ⟨hk.1.1.2.1, hk.1.1.2.2⟩⟩⟩)⟩, ⟨by (with_reducible repeat (first | refine blk_drewN ?_ _ | refine blk_drew ?_ | refine blk_alloc ?_ _)); exact BK169.out⟩, ⟨by (with_reducible repeat (first | refine blk_drewN ?_ _ | refine blk_drew ?_ | refine blk_alloc ?_ _)); exact BK185.out⟩, ⟨by repeat (first | (with_reducible first | exact HB.out | apply below_alloc | apply pw_below_drewN | apply below_drew1 | refine below_set ?_ GE169.out | refine below_set ?_ GE185.out) | exact HB.out)⟩⟩
                    case rest =>
                      clear HC80
                      try clear c1
                      try clear p1
                      try clear q1
                      try clear hx1
                      try clear c2
                      try clear p2
                      try clear c3
                      try clear c4
                      try clear q4
                      try clear c5
                      try clear c6
                      try clear p6
                      try clear c7
                      try clear c8
                      try clear c8b0
                      try clear c8b1
                      try clear c9
                      try clear c10
                      try clear c14
                      try clear c16
                      try clear c17
                      try clear p17
                      try clear q17
                      try clear hx17
                      try clear c18
                      try clear c19
                      try clear p19
                      try clear q19
                      try clear hx19
                      try clear c20
                      try clear c21
                      try clear c21b0
                      try clear c22
                      try clear c22b0
                      try clear c23
                      try clear c23b0
                      try clear c25
                      try clear c31
                      try clear c35
                      try clear c37
                      try clear c37b0
                      try clear c37b1
                      try clear c38
                      try clear c41
                      try clear q41
                      try clear c43
                      try clear c43b0
                      try clear c44
                      try clear c44b0
                      try clear c45
                      try clear c45b0
                      try clear c48
                      try clear c49
                      try clear c50
                      try clear c51
                      try clear c52
                      try clear c56
                      try clear c57
                      try clear p64
                      try clear c68
                      try clear c72
                      try clear c73
                      try clear c81
                      try clear c86
                      try clear c86b0
                      try clear c86b1
                      try clear c86b2
                      try clear c88
                      try clear c89
                      try clear c89b0
                      try clear c89b1
                      try clear c89b2
                      try clear c95
                      try clear hcz12_0
                      try clear hcz12_1
                      try clear hcz12_2
                      try clear hcz12_3
                      try clear hcz12_4
                      try clear hcz14_0
                      try clear hcz14_1
                      try clear hcz14_2
                      try clear hcz14_3
                      try clear hcz14_4
                      try clear hcz19_0
                      try clear hcz19_1
                      try clear hcz19_2
                      try clear hcz19_3
                      try clear hcz19_4
                      try clear hcz28_0
                      try clear hcz28_1
                      try clear hcz28_2
                      try clear hcz28_3
                      try clear hcz28_4
                      try clear hcz32_0
                      try clear hcz32_1
                      try clear hcz32_2
                      try clear hcz32_3
                      try clear hcz32_4
                      try clear hcz39_0
                      try clear hcz39_1
                      try clear hcz39_2
                      try clear hcz39_3
                      try clear hcz39_4
                      try clear hcz53_0
                      try clear hcz53_1
                      try clear hcz53_2
                      try clear hcz53_3
                      try clear hcz53_4
                      try clear hcz58_0
                      try clear hcz58_1
                      try clear hcz58_2
                      try clear hcz58_3
                      try clear hcz58_4
                      try clear hcz69_0
                      try clear hcz69_1
                      try clear hcz69_2
                      try clear hcz69_3
                      try clear hcz69_4
                      try clear hcz74_0
                      try clear hcz74_1
                      try clear hcz74_2
                      try clear hcz74_3
                      try clear hcz74_4
                      try clear hcz82_0
                      try clear hcz82_1
                      try clear hcz82_2
                      try clear hcz82_3
                      try clear hcz82_4
                      try clear hcz84_0
                      try clear hcz84_1
                      try clear hcz84_2
                      try clear hcz84_3
                      try clear hcz84_4
                      try clear hcz96_0
                      try clear hcz96_1
                      try clear hcz96_2
                      try clear hcz96_3
                      try clear hcz96_4
                      try clear hcz9_0
                      try clear hcz9_1
                      try clear hcz9_2
                      try clear hcz9_3
                      try clear hcz9_4
                      try clear hfz12_0
                      try clear hfz12_1
                      try clear hfz12_2
                      try clear hfz12_3
                      try clear hfz12_4
                      try clear hfz14_0
                      try clear hfz14_1
                      try clear hfz14_2
                      try clear hfz14_3
                      try clear hfz14_4
                      try clear hfz19_0
                      try clear hfz19_1
                      try clear hfz19_2
                      try clear hfz19_3
                      try clear hfz19_4
                      try clear hfz28_0
                      try clear hfz28_1
                      try clear hfz28_2
                      try clear hfz28_3
                      try clear hfz28_4
                      try clear hfz32_0
                      try clear hfz32_1
                      try clear hfz32_2
                      try clear hfz32_3
                      try clear hfz32_4
                      try clear hfz39_0
                      try clear hfz39_1
                      try clear hfz39_2
                      try clear hfz39_3
                      try clear hfz39_4
                      try clear hfz53_0
                      try clear hfz53_1
                      try clear hfz53_2
                      try clear hfz53_3
                      try clear hfz53_4
                      try clear hfz58_0
                      try clear hfz58_1
                      try clear hfz58_2
                      try clear hfz58_3
                      try clear hfz58_4
                      try clear hfz69_0
                      try clear hfz69_1
                      try clear hfz69_2
                      try clear hfz69_3
                      try clear hfz69_4
                      try clear hfz74_0
                      try clear hfz74_1
                      try clear hfz74_2
                      try clear hfz74_3
                      try clear hfz74_4
                      try clear hfz82_0
                      try clear hfz82_1
                      try clear hfz82_2
                      try clear hfz82_3
                      try clear hfz82_4
                      try clear hfz84_0
                      try clear hfz84_1
                      try clear hfz84_2
                      try clear hfz84_3
                      try clear hfz84_4
                      try clear hfz96_0
                      try clear hfz96_1
                      try clear hfz96_2
                      try clear hfz96_3
                      try clear hfz96_4
                      try clear hfz9_0
                      try clear hfz9_1
                      try clear hfz9_2
                      try clear hfz9_3
                      try clear hfz9_4
                      try clear hx173_0
                      try clear hx194_0
                      try clear p1
                      try clear p17
                      try clear p173
                      try clear p19
                      try clear p194
                      try clear p2
                      try clear p6
                      try clear p64
                      try clear q1
                      try clear q17
                      try clear q173
                      try clear q19
                      try clear q194
                      try clear q4
                      try clear q41
                      obtain ⟨kq, x116_79, rfl, HA, HJ79, HO_11, HO_18, HO_186003, HO_186004, BK169, BK185, HB⟩ := hcut
                      cases kq with
                      | zero => exact absurd HA.out (by simp [laws_FnDomFind.j4])
                      | succ kj79 =>
                        have H := HA.out
                        clear HA
                        simp only [laws_FnDomFind.j4] at H
                        by_cases c100 : x116_79 = true
                        · subst c100
                          have H1 : (some false) = some r := by rw [if_pos rfl] at H; exact H
                          clear H
                          have H := H1
                          clear H1
                          obtain rfl := Option.some.inj H
                          go_wp2
                          go_ret
                          exact ⟨by first | rfl | (simp [errW_none, errW_some] <;> rfl) | (simp [*, errW_none, errW_some] <;> rfl), by repeat (first | (with_reducible first | exact HB.out | apply below_alloc | apply pw_below_drewN | apply below_drew1 | refine below_set ?_ GE169.out | refine below_set ?_ GE185.out) | exact HB.out)⟩
                        · replace c100 := Bool.eq_false_iff.mpr c100
                          subst c100
                          have H1 : (if t226 = true then (if 0 < (x11_26.length : Int) then ((laws_path29.f kj79 t223 (rd_L5 x11_26 0)).bind fun t230 => (if t230 = true then ((laws_living29.f kj79).bind fun t231 => (some t231)) else (some false))) else (none)) else ((laws_living29.f kj79).bind fun t232 => (some t232))) = some r := by rw [if_neg (show ¬ (false = true) by decide)] at H; exact H
                          clear H
                          have H := H1
                          clear H1
                          by_cases c101 : t226 = true
                          · subst c101
                            have H1 : (if 0 < (x11_26.length : Int) then ((laws_path29.f kj79 t223 (rd_L5 x11_26 0)).bind fun t230 => (if t230 = true then ((laws_living29.f kj79).bind fun t231 => (some t231)) else (some false))) else (none)) = some r := by rw [if_pos rfl] at H; exact H
                            clear H
                            have H := H1
                            clear H1
                            by_cases c102 : 0 < (x11_26.length : Int)
                            · rw [if_pos c102] at H
                              have c102b0 : decide (0 < (x11_26.length : Int)) = true := decide_eq_true c102
                              have c102b1 : decide (0 < x11_26.length) = true := decide_eq_true (by omega)
                              clear c102
                              replace H := Option.bind_eq_some_iff.mp H
                              obtain ⟨t230, A1030, H⟩ := H
                              replace H : (if t230 = true then ((laws_living29.f kj79).bind fun t231 => (some t231)) else (some false)) = some r := H
                              have A103 := Aside0.mk A1030
                              clear A1030
                              by_cases c104 : t230 = true
                              · subst c104
                                have H1 : ((laws_living29.f kj79).bind fun t231 => (some t231)) = some r := by rw [if_pos rfl] at H; exact H
                                clear H
                                have H := H1
                                clear H1
                                replace H := Option.bind_eq_some_iff.mp H
                                obtain ⟨t231, A1050, H⟩ := H
                                replace H : (some t231) = some r := H
                                have A105 := Aside0.mk A1050
                                clear A1050
                                obtain rfl := Option.some.inj H
                                obtain ⟨Ao106, co106, eo106⟩ := Kd.N_slice HO_11.out
                                subst eo106
                                have p229 : 0 ≤ (0 : Int) := (by omega)
                                have q229 : 0 < (x11_26.length : Int) := of_decide_eq_true (by first | (with_reducible assumption) | assumption)
                                obtain ⟨ad229, A229_0, c229_0, e229, hx229_0, hl229_0, hi229_0⟩ := at_L5 (Kd.N_reads' HO_11.out).2.2 0 p229 q229
                                cases e229
                                obtain ⟨ce229, hce229, hMe229, hcc229⟩ := Kd.N_get HO_11.out [] 0 p229 (by first | exact q229 | exact of_decide_eq_true (by first | (with_reducible assumption) | assumption) | (have e_ := (Kd.N_reads' HO_11.out).1; omega))
                                obtain ⟨ua229_0, uc229_0, rfl, ul229_0, ge229_0⟩ := Kd.FK_slice_open hMe229
                                have hv229_0 := hcc229 0 _ rfl
                                rw [Nat.add_zero, show ((Kd.slice 3 (Kd.int .i64))).sz = 1 from rfl, Nat.mul_one] at hv229_0
                                replace hv229_0 := Option.some.inj (hv229_0.symm.trans hx229_0)
                                injection hv229_0 with hva_ hvn_ hvc_
                                rw [hva_] at ge229_0
                                rw [hvc_] at ul229_0
                                have HL229_0 := Aside0.mk (show Kd.V (Kd.int .i64) 3 _ w.heap.size _ _ (rd_L5 x11_26 0) from Kd.V_mk ul229_0 ge229_0)
                                clear hva_ hvn_ hvc_ ge229_0 ul229_0
                                clear hcc229 hce229
                                have qi229 : (0 < x11_26.length) = True := eq_true (by omega)
                                (try rw [show ((0 : Int)).toNat = 0 from rfl] at hx229_0)
                                (try rw [Addr.add_zero'] at hx229_0)
                                have HR229_0 := Aside0.mk hi229_0
                                have HC229_0 := Aside0.mk hl229_0
                                clear hi229_0 hl229_0
                                replace p229 := eq_true p229
                                replace q229 := eq_true q229
                                obtain ⟨Ao107, co107, eo107⟩ := Kd.R_slice HO_18.out
                                subst eo107
                                go_wp2_with (first | (go_at_call 22; (with_reducible refine (laws_path29.calls kj79 _ _ t223 _ _ (rd_L5 x11_26 0) true _ ?side1 ?side2 ?side3 ?side4 A103.out).mono ?_); (case side1 => repeat (first | exact (Kd.R_reads' HO_18.out).2.2 | (with_reducible refine Kd.C_alloc ?_ _) | (with_reducible refine Kd.C_drewN ?_ _) | (with_reducible refine Kd.C_drew ?_))); (case side2 => exact (Kd.R_reads' HO_18.out).2.1); (case side3 => repeat (first | exact (by repeat (first | (with_reducible exact HR229_0.out) | (with_reducible refine Kd.C_alloc ?_ _) | (with_reducible refine Kd.C_drewN ?_ _) | (with_reducible refine Kd.C_drew ?_) | exact HR229_0.out)) | (with_reducible refine Kd.C_alloc ?_ _) | (with_reducible refine Kd.C_drewN ?_ _) | (with_reducible refine Kd.C_drew ?_))); (case side4 => exact HC229_0.out); rintro e w' ⟨rfl, ⟨nd, rfl⟩⟩) | (go_at_call 23; (with_reducible refine (laws_living29.calls kj79  t231 _ A105.out).mono ?_); rintro e w108 ⟨rfl, hb⟩; have n0_ := Aside0.mk (Kd.N_below (by (with_reducible repeat (first | apply Kd.N_alloc | apply Kd.N_drewN | apply Kd.N_drew)); exact HO_11.out) hb); have n1_ := Aside0.mk (Kd.R_below (by (with_reducible repeat (first | apply Kd.R_alloc | apply Kd.R_drewN | apply Kd.R_drew)); exact HO_18.out) hb); have n2_ := Aside0.mk (Kd.V_below (by (with_reducible repeat (first | apply Kd.V_alloc | apply Kd.V_drewN | apply Kd.V_drew)); exact HO_186003.out) hb); have n3_ := Aside0.mk (Kd.V_below (by (with_reducible repeat (first | apply Kd.V_alloc | apply Kd.V_drewN | apply Kd.V_drew)); exact HO_186004.out) hb); have n4_ := Aside0.mk (Kd.V_below (by (with_reducible repeat (first | apply Kd.V_alloc | apply Kd.V_drewN | apply Kd.V_drew)); exact HL229_0.out) hb); have n5_ := Aside0.mk (blk_below (g := gb169) (o := .cells #[.int .i64 a0_0, .string a0_1, .string a0_2, .slice A0_3 l0_3.length c0_3, .slice A0_4 l0_4.length c0_4] 25 (0, 0)) (by (with_reducible repeat (first | refine blk_drewN ?_ _ | refine blk_drew ?_ | refine blk_alloc ?_ _)); exact BK169.out) hb); have n6_ := Aside0.mk (blk_below (g := gb185) (o := .cells #[.int .i64 t175, .string t176, .string t177, .slice Ao33 t178.length co33, .slice Ao34 t181.length co34] 25 (0, 0)) (by (with_reducible repeat (first | refine blk_drewN ?_ _ | refine blk_drew ?_ | refine blk_alloc ?_ _)); exact BK185.out) hb); have n7_ := Aside0.mk (Kd.C_below (by repeat (first | (with_reducible exact HR229_0.out) | (with_reducible refine Kd.C_alloc ?_ _) | (with_reducible refine Kd.C_drewN ?_ _) | (with_reducible refine Kd.C_drew ?_) | exact HR229_0.out)) hb); have n8_ := Aside0.mk (below_step (by repeat (first | (with_reducible first | exact HB.out | apply below_alloc | apply pw_below_drewN | apply below_drew1 | refine below_set ?_ GE169.out | refine below_set ?_ GE185.out) | exact HB.out)) hb); clear HO_11; clear HO_18; clear HO_186003; clear HO_186004; clear HL229_0; clear BK169; clear BK185; clear HR229_0; clear HB; have HO_11 := n0_; have HO_18 := n1_; have HO_186003 := n2_; have HO_186004 := n3_; have HL229_0 := n4_; have BK169 := n5_; have BK185 := n6_; have HR229_0 := n7_; have HB := n8_; clear n0_ n1_ n2_ n3_ n4_ n5_ n6_ n7_ n8_; (try clear hb); (try clear hb2); (try clear hk); (try clear hi)))
                                go_ret
                                exact ⟨by first | rfl | (simp [errW_none, errW_some] <;> rfl) | (simp [*, errW_none, errW_some] <;> rfl), by repeat (first | (with_reducible first | exact HB.out | apply below_alloc | apply pw_below_drewN | apply below_drew1 | refine below_set ?_ GE169.out | refine below_set ?_ GE185.out) | exact HB.out)⟩
                              · replace c104 := Bool.eq_false_iff.mpr c104
                                subst c104
                                have H1 : (some false) = some r := by rw [if_neg (show ¬ (false = true) by decide)] at H; exact H
                                clear H
                                have H := H1
                                clear H1
                                obtain rfl := Option.some.inj H
                                obtain ⟨Ao109, co109, eo109⟩ := Kd.N_slice HO_11.out
                                subst eo109
                                have p229 : 0 ≤ (0 : Int) := (by omega)
                                have q229 : 0 < (x11_26.length : Int) := of_decide_eq_true (by first | (with_reducible assumption) | assumption)
                                obtain ⟨ad229, A229_0, c229_0, e229, hx229_0, hl229_0, hi229_0⟩ := at_L5 (Kd.N_reads' HO_11.out).2.2 0 p229 q229
                                cases e229
                                obtain ⟨ce229, hce229, hMe229, hcc229⟩ := Kd.N_get HO_11.out [] 0 p229 (by first | exact q229 | exact of_decide_eq_true (by first | (with_reducible assumption) | assumption) | (have e_ := (Kd.N_reads' HO_11.out).1; omega))
                                obtain ⟨ua229_0, uc229_0, rfl, ul229_0, ge229_0⟩ := Kd.FK_slice_open hMe229
                                have hv229_0 := hcc229 0 _ rfl
                                rw [Nat.add_zero, show ((Kd.slice 3 (Kd.int .i64))).sz = 1 from rfl, Nat.mul_one] at hv229_0
                                replace hv229_0 := Option.some.inj (hv229_0.symm.trans hx229_0)
                                injection hv229_0 with hva_ hvn_ hvc_
                                rw [hva_] at ge229_0
                                rw [hvc_] at ul229_0
                                have HL229_0 := Aside0.mk (show Kd.V (Kd.int .i64) 3 _ w.heap.size _ _ (rd_L5 x11_26 0) from Kd.V_mk ul229_0 ge229_0)
                                clear hva_ hvn_ hvc_ ge229_0 ul229_0
                                clear hcc229 hce229
                                have qi229 : (0 < x11_26.length) = True := eq_true (by omega)
                                (try rw [show ((0 : Int)).toNat = 0 from rfl] at hx229_0)
                                (try rw [Addr.add_zero'] at hx229_0)
                                have HR229_0 := Aside0.mk hi229_0
                                have HC229_0 := Aside0.mk hl229_0
                                clear hi229_0 hl229_0
                                replace p229 := eq_true p229
                                replace q229 := eq_true q229
                                obtain ⟨Ao110, co110, eo110⟩ := Kd.R_slice HO_18.out
                                subst eo110
                                go_wp2_with (first | (go_at_call 22; (with_reducible refine (laws_path29.calls kj79 _ _ t223 _ _ (rd_L5 x11_26 0) false _ ?side1 ?side2 ?side3 ?side4 A103.out).mono ?_); (case side1 => repeat (first | exact (Kd.R_reads' HO_18.out).2.2 | (with_reducible refine Kd.C_alloc ?_ _) | (with_reducible refine Kd.C_drewN ?_ _) | (with_reducible refine Kd.C_drew ?_))); (case side2 => exact (Kd.R_reads' HO_18.out).2.1); (case side3 => repeat (first | exact (by repeat (first | (with_reducible exact HR229_0.out) | (with_reducible refine Kd.C_alloc ?_ _) | (with_reducible refine Kd.C_drewN ?_ _) | (with_reducible refine Kd.C_drew ?_) | exact HR229_0.out)) | (with_reducible refine Kd.C_alloc ?_ _) | (with_reducible refine Kd.C_drewN ?_ _) | (with_reducible refine Kd.C_drew ?_))); (case side4 => exact HC229_0.out); rintro e w' ⟨rfl, ⟨nd, rfl⟩⟩))
                                go_ret
                                exact ⟨by first | rfl | (simp [errW_none, errW_some] <;> rfl) | (simp [*, errW_none, errW_some] <;> rfl), by repeat (first | (with_reducible first | exact HB.out | apply below_alloc | apply pw_below_drewN | apply below_drew1 | refine below_set ?_ GE169.out | refine below_set ?_ GE185.out) | exact HB.out)⟩
                            · rw [if_neg c102] at H
                              exact absurd H (by simp)
                          · replace c101 := Bool.eq_false_iff.mpr c101
                            subst c101
                            have H1 : ((laws_living29.f kj79).bind fun t232 => (some t232)) = some r := by rw [if_neg (show ¬ (false = true) by decide)] at H; exact H
                            clear H
                            have H := H1
                            clear H1
                            replace H := Option.bind_eq_some_iff.mp H
                            obtain ⟨t232, A1110, H⟩ := H
                            replace H : (some t232) = some r := H
                            have A111 := Aside0.mk A1110
                            clear A1110
                            obtain rfl := Option.some.inj H
                            go_wp2_with (first | (go_at_call 23; (with_reducible refine (laws_living29.calls kj79  t232 _ A111.out).mono ?_); rintro e w112 ⟨rfl, hb⟩; have n0_ := Aside0.mk (Kd.N_below (by (with_reducible repeat (first | apply Kd.N_alloc | apply Kd.N_drewN | apply Kd.N_drew)); exact HO_11.out) hb); have n1_ := Aside0.mk (Kd.R_below (by (with_reducible repeat (first | apply Kd.R_alloc | apply Kd.R_drewN | apply Kd.R_drew)); exact HO_18.out) hb); have n2_ := Aside0.mk (Kd.V_below (by (with_reducible repeat (first | apply Kd.V_alloc | apply Kd.V_drewN | apply Kd.V_drew)); exact HO_186003.out) hb); have n3_ := Aside0.mk (Kd.V_below (by (with_reducible repeat (first | apply Kd.V_alloc | apply Kd.V_drewN | apply Kd.V_drew)); exact HO_186004.out) hb); have n4_ := Aside0.mk (blk_below (g := gb169) (o := .cells #[.int .i64 a0_0, .string a0_1, .string a0_2, .slice A0_3 l0_3.length c0_3, .slice A0_4 l0_4.length c0_4] 25 (0, 0)) (by (with_reducible repeat (first | refine blk_drewN ?_ _ | refine blk_drew ?_ | refine blk_alloc ?_ _)); exact BK169.out) hb); have n5_ := Aside0.mk (blk_below (g := gb185) (o := .cells #[.int .i64 t175, .string t176, .string t177, .slice Ao33 t178.length co33, .slice Ao34 t181.length co34] 25 (0, 0)) (by (with_reducible repeat (first | refine blk_drewN ?_ _ | refine blk_drew ?_ | refine blk_alloc ?_ _)); exact BK185.out) hb); have n6_ := Aside0.mk (below_step (by repeat (first | (with_reducible first | exact HB.out | apply below_alloc | apply pw_below_drewN | apply below_drew1 | refine below_set ?_ GE169.out | refine below_set ?_ GE185.out) | exact HB.out)) hb); clear HO_11; clear HO_18; clear HO_186003; clear HO_186004; clear BK169; clear BK185; clear HB; have HO_11 := n0_; have HO_18 := n1_; have HO_186003 := n2_; have HO_186004 := n3_; have BK169 := n4_; have BK185 := n5_; have HB := n6_; clear n0_ n1_ n2_ n3_ n4_ n5_ n6_; (try clear hb); (try clear hb2); (try clear hk); (try clear hi)))
                            go_ret
                            exact ⟨by first | rfl | (simp [errW_none, errW_some] <;> rfl) | (simp [*, errW_none, errW_some] <;> rfl), by repeat (first | (with_reducible first | exact HB.out | apply below_alloc | apply pw_below_drewN | apply below_drew1 | refine below_set ?_ GE169.out | refine below_set ?_ GE185.out) | exact HB.out)⟩
        · replace c18 := Bool.eq_false_iff.mpr c18
          subst c18
          have H1 : (some true) = some r := by rw [if_neg (show ¬ (false = true) by decide)] at H; exact H
          clear H
          have H := H1
          clear H1
          obtain rfl := Option.some.inj H
          have hcz113_0 : wc.cell? ⟨gb169, 0, none⟩ = some (.int .i64 a0_0) := (blk_cell BK169.out 0).trans rfl
          have hcz113_1 : wc.cell? ⟨gb169, 1, none⟩ = some (.string a0_1) := (blk_cell BK169.out 1).trans rfl
          have hcz113_2 : wc.cell? ⟨gb169, 2, none⟩ = some (.string a0_2) := (blk_cell BK169.out 2).trans rfl
          have hcz113_3 : wc.cell? ⟨gb169, 3, none⟩ = some (.slice A0_3 l0_3.length c0_3) := (blk_cell BK169.out 3).trans rfl
          have hcz113_4 : wc.cell? ⟨gb169, 4, none⟩ = some (.slice A0_4 l0_4.length c0_4) := (blk_cell BK169.out 4).trans rfl
          have hfz113_0 := blk_frozen BK169.out 0
          have hfz113_1 := blk_frozen BK169.out 1
          have hfz113_2 := blk_frozen BK169.out 2
          have hfz113_3 := blk_frozen BK169.out 3
          have hfz113_4 := blk_frozen BK169.out 4
          go_wp2_with (first | ((with_reducible refine gate_callee (f := 10) rfl ?_); refine goesL_ (some 34) rfl rfl Try.func10 (by kernel_rfl) rfl #[.agg #[.int .i64 a0_0, .string a0_1, .string a0_2, .slice A0_3 l0_3.length c0_3, .slice A0_4 l0_4.length c0_4]] rfl (by (try simp only [List.map_toArray, List.map_cons, List.map_nil]); first | done | rfl | (simp only [List.length_drop, List.length_take]; rfl)) ?_; (with_reducible refine (laws_tree29.calls kj3 a0_0 a0_1 a0_2 _ _ l0_3 _ _ l0_4 false _ ?side1 ?side2 ?side3 ?side4 A17.out).mono ?_); (case side1 => repeat (first | exact (Kd.C_below HR0_3.out HB.out) | (with_reducible refine Kd.C_alloc ?_ _) | (with_reducible refine Kd.C_drewN ?_ _) | (with_reducible refine Kd.C_drew ?_))); (case side2 => exact HC0_3.out); (case side3 => repeat (first | exact (Kd.C_below HR0_4.out HB.out) | (with_reducible refine Kd.C_alloc ?_ _) | (with_reducible refine Kd.C_drewN ?_ _) | (with_reducible refine Kd.C_drew ?_))); (case side4 => exact HC0_4.out); rintro e w114 ⟨rfl, hb⟩; refine ⟨_, rfl, ?_⟩; have n0_ := Aside0.mk (blk_below (g := gb169) (o := .cells #[.int .i64 a0_0, .string a0_1, .string a0_2, .slice A0_3 l0_3.length c0_3, .slice A0_4 l0_4.length c0_4] 25 (0, 0)) (by (with_reducible repeat (first | refine blk_drewN ?_ _ | refine blk_drew ?_ | refine blk_alloc ?_ _)); exact BK169.out) hb); have n1_ := Aside0.mk (below_step (by repeat (first | (with_reducible first | exact HB.out | apply below_alloc | apply pw_below_drewN | apply below_drew1 | refine below_set ?_ GE169.out) | exact HB.out)) hb); clear BK169; clear HB; have BK169 := n0_; have HB := n1_; clear n0_ n1_; (try clear hb); (try clear hb2); (try clear hk); (try clear hi)))
          go_ret
          exact ⟨by first | rfl | (simp [errW_none, errW_some] <;> rfl) | (simp [*, errW_none, errW_some] <;> rfl), by repeat (first | (with_reducible first | exact HB.out | apply below_alloc | apply pw_below_drewN | apply below_drew1 | refine below_set ?_ GE169.out) | exact HB.out)⟩
end Go.Proofs.Ytibfoaahdbdogaa.PDom

/- FnDomFind: the plain law, and the law's walk for trees that fit. -/
namespace Go.Proofs.Ytibfoaahdbdogaa.PDom
open Go.RowKit Go.Proofs.YtibfoaahdbdogaaW.PrintWords Go.Proofs.YtibfoaahdbdogaaW.PrintLast Go.Proofs.YtibfoaahdbdogaaW.PrintMore Go.Proofs.Ytibfoaahdbdogaa.Dom
set_option linter.unusedVariables false
set_option linter.unusedSimpArgs false

theorem find_j4 (W : List (List Int)) (hq : ∀ q ∈ W, q.length ≤ 4398046510976) : Ev (fun k => laws_FnDomFind.j4 k W (W.head?.getD []) W.head?.isSome false) true := by
  cases W with
  | nil =>
    refine Ev.step (f := fun k => (laws_living29.f k).bind fun t232 => some t232) (fun k => ?_) (Ev.bind living_ev (Ev.now _))
    simp only [laws_FnDomFind.j4]
    rw [if_neg (by simp), if_neg (by simp)]
  | cons q W =>
    refine Ev.step (f := fun k => (laws_path29.f k q q).bind fun t230 => (if t230 = true then ((laws_living29.f k).bind fun t231 => (some t231)) else (some false))) (fun k => ?_) ?_
    · simp only [laws_FnDomFind.j4]
      rw [if_neg (by simp), if_pos (by simp), if_pos (by simp)]
      rfl
    · refine Ev.bind (path_self q (hq q (List.mem_cons_self))) ?_
      simp only [if_true]
      exact Ev.bind living_ev (Ev.now _)
section
variable {t : T} (hf : Fit t) {K : Nat} (h : laws_tree29.f K t.f0 t.f1 t.f2 t.f3 t.f4 = some true) (path : List Int) (hp : path.length ≤ 4398046510976) (names : List ByteArray) (hl : names.length ≤ 4398046510976)
include hf h hp hl
theorem ffirst_ev : Ev (fun k => impl_FindFirst.f k t.f0 t.f1 t.f2 t.f3 t.f4 path names) ((foundT t path names).head?.getD [], (foundT t path names).head?.isSome) := by
  obtain ⟨K3, e3⟩ := fitB_ev t hf
  obtain ⟨K2, h2⟩ := Ev.of (fun k => laws_tree29.mono t.f0 t.f1 t.f2 t.f3 t.f4 k) h
  refine ⟨K2 + K3, fun k hk' => ?_⟩
  show impl_FindFirst.f k _ _ _ _ _ _ _ = _
  unfold impl_FindFirst.f
  rw [show laws_tree29.f k t.f0 t.f1 t.f2 t.f3 t.f4 = some true from h2 k (by omega), Option.bind_some, if_pos ⟨rfl, e3 k (by omega), hp, hl⟩]
  cases t
  rfl
theorem fall_ev : Ev (fun k => impl_FindAll.f k t.f0 t.f1 t.f2 t.f3 t.f4 path names) (foundT t path names, (atT t path).isSome) := by
  obtain ⟨K3, e3⟩ := fitB_ev t hf
  obtain ⟨K2, h2⟩ := Ev.of (fun k => laws_tree29.mono t.f0 t.f1 t.f2 t.f3 t.f4 k) h
  refine ⟨K2 + K3, fun k hk' => ?_⟩
  show impl_FindAll.f k _ _ _ _ _ _ _ = _
  unfold impl_FindAll.f
  rw [show laws_tree29.f k t.f0 t.f1 t.f2 t.f3 t.f4 = some true from h2 k (by omega), Option.bind_some, if_pos ⟨rfl, e3 k (by omega), hp, hl⟩]
  cases t
  rfl
theorem contains_ev : Ev (fun k => impl_Contains.f k t.f0 t.f1 t.f2 t.f3 t.f4 path names) (foundT t path names).head?.isSome := by
  obtain ⟨K3, e3⟩ := fitB_ev t hf
  obtain ⟨K2, h2⟩ := Ev.of (fun k => laws_tree29.mono t.f0 t.f1 t.f2 t.f3 t.f4 k) h
  refine ⟨K2 + K3, fun k hk' => ?_⟩
  show impl_Contains.f k _ _ _ _ _ _ _ = _
  unfold impl_Contains.f
  rw [show laws_tree29.f k t.f0 t.f1 t.f2 t.f3 t.f4 = some true from h2 k (by omega), Option.bind_some, if_pos ⟨rfl, e3 k (by omega), hp, hl⟩]
  cases t
  rfl
theorem find_j3 : Ev (fun k => laws_FnDomFind.j3 k path names (atT t path).isSome (foundT t path names) t.f0 t.f1 t.f2 t.f3 t.f4) true := by
  have hc := (tree_norm hf h).2.1
  have hW : ∀ q ∈ foundT t path names, q.length ≤ 4398046511977 := fun q hq => by have := found_small hq; omega
  have hW2 : path.length ≤ 4398046510000 → ∀ q ∈ foundT t path names, q.length ≤ 4398046510976 := fun h3 q hq => by have := found_small hq; omega
  have hW3 : ∀ q ∈ foundT t path names, q.length ≤ 4398046510976 := by
    by_cases h3 : path.length ≤ 4398046510000
    · exact hW2 h3
    · intro q hq
      cases hu : atT t path with
      | none => unfold foundT at hq; rw [hu] at hq; cases hq
      | some u =>
        have := (atT_small path t u hu).1
        omega
  refine Ev.step (fun k => by rw [laws_FnDomFind.j3]) ?_
  refine Ev.bind (fall_ev hf h path hp names hl) ?_
  refine Ev.bind (ffirst_ev hf h path hp names hl) ?_
  simp only [bne_self_eq_false, Bool.false_eq_true, if_false]
  refine Ev.bind (paths_self _ (by have := found_len (t := t) path names; omega) hW3) ?_
  simp only [if_true]
  have e : ((foundT t path names).head?.isSome != decide (((foundT t path names).length : Int) > 0)) = false := by
    cases foundT t path names with
    | nil => rfl
    | cons a l => simp
  rw [e]
  simp only [Bool.false_eq_true, if_false]
  refine Ev.bind (contains_ev hf h path hp names hl) ?_
  simp only [bne_self_eq_false]
  exact find_j4 _ hW3
end
theorem find_loop {t u : T} (hf : Fit t) {K : Nat} (h : laws_tree29.f K t.f0 t.f1 t.f2 t.f3 t.f4 = some true) (path : List Int) (hp : path.length ≤ 2147483647) (names : List ByteArray) (hl : names.length ≤ 4398046510976) (hs : ∀ s ∈ names, Named s) (hu : atT t path = some u) (L : List (List Int)) (hL : L.length ≤ 300) (hq : ∀ q ∈ L, q.length ≤ 1000) :
    ∀ (n j : Nat) (acc : List (List Int)), L.length = j + n → acc.length ≤ j → acc ++ ((L.drop j).filter fun q => matchO names (atT u q)).map (path ++ ·) = foundT t path names → Ev (fun k => laws_FnDomFind.l1 k path names true acc L (L.length : Int) (j : Int) t.f0 t.f1 t.f2 t.f3 t.f4 u.f0 u.f1 u.f2 u.f3 u.f4) true := by
  obtain ⟨hn, hc, _⟩ := tree_norm hf h
  have hfu := fit_at path t u hf hu
  obtain ⟨root', hnu⟩ := norm_at path true t u hn hu
  intro n
  induction n with
  | zero =>
    intro j acc hj ha he
    rw [List.drop_eq_nil_of_le (by omega)] at he
    have he2 : acc = foundT t path names := by simpa using he
    subst he2
    refine Ev.step (fun k => ?_) (f := fun k => laws_FnDomFind.j3 k path names true (foundT t path names) t.f0 t.f1 t.f2 t.f3 t.f4) ?_
    · simp only [laws_FnDomFind.l1]
      rw [if_neg (by omega)]
    · have := find_j3 hf h path (by omega) names hl
      rw [hu] at this
      exact this
  | succ n ih =>
    intro j acc hj ha he
    have hlt : j < L.length := by omega
    have hm := hq _ (List.getElem_mem hlt)
    rw [List.drop_eq_getElem_cons hlt, List.filter_cons] at he
    refine Ev.step (fun k => ?_) (f := fun k => (spec_At29.f k u.f0 u.f1 u.f2 u.f3 u.f4 L[j]).bind fun bt195 => ((laws_among29.f k bt195.1 bt195.2.1 bt195.2.2.1 bt195.2.2.2.1 bt195.2.2.2.2.1 names).bind fun t206 => (if t206 = true then (laws_FnDomFind.l1 k path names true (acc ++ [path ++ L[j]]) L (L.length : Int) ((j + 1 : Nat) : Int) t.f0 t.f1 t.f2 t.f3 t.f4 u.f0 u.f1 u.f2 u.f3 u.f4) else (laws_FnDomFind.l1 k path names true acc L (L.length : Int) ((j + 1 : Nat) : Int) t.f0 t.f1 t.f2 t.f3 t.f4 u.f0 u.f1 u.f2 u.f3 u.f4)))) ?_
    · simp only [laws_FnDomFind.l1]
      rw [if_pos (by omega), if_pos (by omega), if_pos (by omega), rdL5_nth hlt, succ_wrap j (by omega)]
      simp only [Option.bind_some, List.nil_append, List.length_nil]
      have e1 : 0 + path.length < 17592186044416 := by omega
      have e2 : path.length + L[j].length < 17592186044416 := by omega
      have e3 : acc.length < 5864062014805 := by omega
      simp only [if_pos e1, if_pos e2, if_pos e3]
    · refine Ev.bind (at29_ev L[j] (by omega) u hfu) ?_
      refine Ev.bind (matchO_ev hfu hnu hl hs L[j]) ?_
      cases hmo : matchO names (atT u L[j]) with
      | true =>
        rw [hmo] at he
        simp only [if_true]
        refine ih (j + 1) _ (by omega) (by rw [List.length_append, List.length_singleton]; omega) ?_
        rw [← he]
        simp
      | false =>
        rw [hmo] at he
        simp only [Bool.false_eq_true, if_false]
        refine ih (j + 1) _ (by omega) (by omega) ?_
        rw [← he]
        simp
theorem find_end {t : T} (hf : Fit t) {K : Nat} (h : laws_tree29.f K t.f0 t.f1 t.f2 t.f3 t.f4 = some true) (path : List Int) (hp : path.length ≤ 2147483647) (names : List ByteArray) (hl : names.length ≤ 4398046510976) (hs : ∀ s ∈ names, Named s) :
    Ev (fun k => (spec_At29.f k t.f0 t.f1 t.f2 t.f3 t.f4 path).bind fun bt175 => (if bt175.2.2.2.2.2 = true then ((spec_Walk29.f k bt175.1 bt175.2.1 bt175.2.2.1 bt175.2.2.2.1 bt175.2.2.2.2.1 ([] : List Int)).bind fun t186 => (if 1 ≤ (t186.length : Int) then ((some (t186.drop 1 : List (List Int))).bind fun y189 => (laws_FnDomFind.l1 k path names bt175.2.2.2.2.2 ([] : List (List Int)) y189 (y189.length : Int) 0 t.f0 t.f1 t.f2 t.f3 t.f4 bt175.1 bt175.2.1 bt175.2.2.1 bt175.2.2.2.1 bt175.2.2.2.2.1)) else (none))) else (laws_FnDomFind.j3 k path names bt175.2.2.2.2.2 ([] : List (List Int)) t.f0 t.f1 t.f2 t.f3 t.f4))) true := by
  obtain ⟨hn, hc, _⟩ := tree_norm hf h
  refine Ev.bind (at29_ev path (by omega) t hf) ?_
  cases hu : atT t path with
  | none =>
    simp only [atR, Bool.false_eq_true, if_false]
    have := find_j3 hf h path (by omega) names hl
    have e : foundT t path names = [] := by unfold foundT; rw [hu]
    rw [hu, e] at this
    exact this
  | some u =>
    simp only [atR, if_true]
    have hfu := fit_at path t u hf hu
    have hcu := count_at hu
    refine Ev.bind (walk_ev hfu [] (by simp; omega)) ?_
    have hlen := pathsT_len [] u
    have e0 : pathsT [] u = [] :: pathsTL [] 0 u.f4 := by rw [pathsT_eq]
    have h1 : (1 : Int) ≤ ((pathsT [] u).length : Int) := by rw [e0, List.length_cons]; omega
    simp only [if_pos h1, Option.bind_some]
    have e2 : (pathsT [] u).drop 1 = pathsTL [] 0 u.f4 := by rw [e0]; rfl
    have hlen2 : (pathsTL [] 0 u.f4).length ≤ 300 := by rw [e0] at hlen; simp at hlen; omega
    have hsm : ∀ q ∈ pathsTL [] 0 u.f4, q.length ≤ 1000 := fun q hq => by
      have := pathsTL_small [] 0 u.f4 q hq
      have h3 := countT_eq u
      simp at this
      omega
    simp only [e2]
    refine find_loop hf h path hp names hl hs hu _ hlen2 hsm (pathsTL [] 0 u.f4).length 0 [] (by omega) (by simp) ?_
    unfold foundT
    rw [hu]
    rfl
theorem find_pure {t : T} (ht : FitS t) (path : List Int) (names : List ByteArray) (hG : ∀ s ∈ names, s.size ≤ 140737488351232) : ∃ k, laws_FnDomFind.f k t.f0 t.f1 t.f2 t.f3 t.f4 path names = some true := by
  have hf := ht.fit
  obtain ⟨b1, e1⟩ := fits2_ev t hf
  obtain ⟨b2, e2⟩ := tree_ev t ht
  obtain ⟨b5, e5, e6⟩ := fits5_ev names
  refine Ev.rounds ?_
  refine Ev.congr (f := fun k => _) (fun k => by rw [laws_FnDomFind.f]) ?_
  refine Ev.bind e1 ?_
  have j0t : Ev (fun k => laws_FnDomFind.j0 k path names true t.f0 t.f1 t.f2 t.f3 t.f4) true := by
    refine Ev.step (f := fun _ => some true) (fun k => ?_) (Ev.now _)
    simp only [laws_FnDomFind.j0]
    rfl
  cases b1 with
  | false => simp only [Bool.false_eq_true, if_false]; exact j0t
  | true =>
    simp only [if_true]
    by_cases hlen : (path.length : Int) > 2147483647
    · simp only [if_pos hlen]
      exact j0t
    · simp only [if_neg hlen]
      refine Ev.bind e5 ?_
      cases b5 with
      | false => exact j0t
      | true =>
        have hnl : names.length ≤ 4398046510976 := by have := (e6 rfl).1; omega
        refine Ev.step (f := fun k => (laws_tree29.f k t.f0 t.f1 t.f2 t.f3 t.f4).bind fun t172 => (if t172 = true then (laws_FnDomFind.l0 k path names names (names.length : Int) 0 t.f0 t.f1 t.f2 t.f3 t.f4) else (some true))) (fun k => ?_) ?_
        · simp only [laws_FnDomFind.j0]
          rw [if_neg (by simp)]
        refine Ev.bind e2 ?_
        cases b2 with
        | false => exact Ev.now _
        | true =>
          obtain ⟨K2, h2⟩ := e2
          have hK : laws_tree29.f K2 t.f0 t.f1 t.f2 t.f3 t.f4 = some true := h2 K2 (Nat.le_refl _)
          simp only [if_true]
          have key : ∀ (n j : Nat), names.length = j + n → (∀ s ∈ names.take j, Named s) → Ev (fun k => laws_FnDomFind.l0 k path names names (names.length : Int) (j : Int) t.f0 t.f1 t.f2 t.f3 t.f4) true := by
            intro n
            induction n with
            | zero =>
              intro j hj hs
              rw [List.take_of_length_le (by omega)] at hs
              refine Ev.step (fun k => ?_) (find_end hf hK path (by omega) names hnl hs)
              simp only [laws_FnDomFind.l0]
              rw [if_neg (by omega)]
            | succ n ih =>
              intro j hj hs
              have hlt : j < names.length := by omega
              obtain ⟨b, h3, h4⟩ := named_ev names[j] (by have := hG _ (List.getElem_mem hlt); omega)
              refine Ev.step (fun k => ?_) (f := fun k => (laws_name29.f k names[j]).bind fun t174 => (if t174 = true then (laws_FnDomFind.l0 k path names names (names.length : Int) ((j + 1 : Nat) : Int) t.f0 t.f1 t.f2 t.f3 t.f4) else (some true))) ?_
              · simp only [laws_FnDomFind.l0]
                rw [if_pos (by omega), if_pos (by omega), if_pos (by omega), rdOf_nth hlt, succ_wrap j (by omega)]
              · refine Ev.bind h3 ?_
                cases b with
                | false => exact Ev.now _
                | true =>
                  simp only [if_true]
                  refine ih (j + 1) (by omega) (fun s hs' => ?_)
                  rw [List.take_add_one, List.getElem?_eq_getElem hlt] at hs'
                  rcases List.mem_append.1 hs' with hs' | hs'
                  · exact hs s hs'
                  · obtain rfl : s = names[j] := by simpa using hs'
                    exact h4 rfl
          exact key names.length 0 (by omega) (by simp)
theorem row_calls_find (t : T) (A3 : Option Addr) (c3 : Nat) (A4 : Option Addr) (c4 : Nat) (A1 : Option Addr) (c1 : Nat) (l1 : List Int) (A2 : Option Addr) (c2 : Nat) (l2 : List ByteArray) (w : World) (ht : FitS t) (h3 : Kd.C k78 w A3 t.f3.length t.f3) (l3 : t.f3.length ≤ c3) (h4 : Kd.C k25 w A4 t.f4.length t.f4) (l4 : t.f4.length ≤ c4)
    (hC : (Kd.int .i64).C w A1 l1.length l1) (hl : l1.length ≤ c1) (hB : l1.length * 8 ≤ 140737488351232) (hG : ∀ x ∈ l1, (Lit.int .i64 x).wf = true)
    (hC2 : Kd.string.C w A2 l2.length l2) (hl2 : l2.length ≤ c2) (hB2 : l2.length * 16 ≤ 140737488351232) (hG2 : ∀ x ∈ l2, x.size ≤ 140737488351232) :
    Calls Try.prog 5 #[.agg #[.int .i64 t.f0, .string t.f1, .string t.f2, .slice A3 t.f3.length c3, .slice A4 t.f4.length c4], .slice A1 l1.length c1, .slice A2 l2.length c2] w fun e w' => e = .returned (.bool true) ∧ Below w.heap.size w w' := by
  obtain ⟨k, h⟩ := find_pure ht l1 l2 hG2
  exact laws_FnDomFind.calls k t.f0 t.f1 t.f2 A3 c3 t.f3 A4 c4 t.f4 A1 c1 l1 A2 c2 l2 true w h3 l3 h4 l4 hC hl hC2 hl2 h
end Go.Proofs.Ytibfoaahdbdogaa.PDom
