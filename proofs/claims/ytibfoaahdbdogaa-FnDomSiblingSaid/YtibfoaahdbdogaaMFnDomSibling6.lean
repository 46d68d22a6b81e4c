/- A part of the proof of FnDomSibling: FDomSibling, PureSib, Open, OpenT, RowFnDomSibling, one behind the other. -/
import Derived.Test.YtibfoaahdbdogaaMFnDomSibling2
import Derived.Test.YtibfoaahdbdogaaMFnDomSibling5
import Derived.Test.YtibfoaahdbdogaaMFnDomSibling3
import Derived.Test.YtibfoaahdbdogaaMFnDomSibling4
import Derived.Test.YtibfoaahdbdogaaMFnDomSibling1
import Derived.ChangeArms
import Derived.ChangeSlices
import Derived.DataReads
import Derived.SizedLaws
import Derived.Test.YtibfoaahdbdogaaRows
import Derived.WalkKit
import Derived.ProofKit
import Derived.OpenShut
import Derived.ShutString
import Derived.ChangeOld
import Derived.Below
/- Printed by the program extprint.py of this session, out of the kit's print and contracts of this session's own; Lean checks it. -/
namespace Go.Proofs.Ytibfoaahdbdogaa.PDom
open Go.RowKit Go.Proofs.YtibfoaahdbdogaaW.PrintWords Go.Proofs.YtibfoaahdbdogaaW.PrintLast Go.Proofs.YtibfoaahdbdogaaW.PrintMore
attribute [local go_sem] max2_int min2_int max_two min_two max_three min_three max_four min_four   -- for this text's walks alone
set_option linter.unusedVariables false
set_option linter.unusedSimpArgs false

/-! ### laws_FnDomSibling: function 6 -/
mutual
def laws_FnDomSibling.j0 : Nat → List Int → Int → Bool → Int → ByteArray → ByteArray → List (S78) → List (S25) → Option (Bool)
  | 0, _, _, _, _, _, _, _, _ => none
  | k + 1, x1, x2, x20, x188000, x188001, x188002, x188003, x188004 => if x20 = true then (some true) else ((spec_At29.f k x188000 x188001 x188002 x188003 x188004 x1).bind fun bt189 => (if bt189.2.2.2.2.2 = true then ((laws_tree29.f k x188000 x188001 x188002 x188003 x188004).bind fun t200 => (laws_FnDomSibling.j1 k x1 x2 (!t200) x188000 x188001 x188002 x188003 x188004)) else (laws_FnDomSibling.j1 k x1 x2 true x188000 x188001 x188002 x188003 x188004)))
def laws_FnDomSibling.j1 : Nat → List Int → Int → Bool → Int → ByteArray → ByteArray → List (S78) → List (S25) → Option (Bool)
  | 0, _, _, _, _, _, _, _, _ => none
  | k + 1, x1, x2, x33, x188000, x188001, x188002, x188003, x188004 => if x33 = true then (some true) else (if x2 = 8 then (laws_FnDomSibling.j2 k x1 x2 x2 (x2 == 8) x188000 x188001 x188002 x188003 x188004) else (laws_FnDomSibling.j2 k x1 x2 x2 (x2 == 9) x188000 x188001 x188002 x188003 x188004))
def laws_FnDomSibling.j2 : Nat → List Int → Int → Int → Bool → Int → ByteArray → ByteArray → List (S78) → List (S25) → Option (Bool)
  | 0, _, _, _, _, _, _, _, _, _ => none
  | k + 1, x1, x2, x34, x35, x188000, x188001, x188002, x188003, x188004 => if x35 = true then ((spec_First29.f k x188000 x188001 x188002 x188003 x188004 x1 (x2 == 9)).bind fun bt201 => ((impl_Neighbor.f k x188000 x188001 x188002 x188003 x188004 x1 x2).bind fun bt205 => (if (bt205.2 == bt201.2) = true then (if bt205.2 = true then ((laws_path29.f k bt205.1 bt201.1).bind fun t209 => (if t209 = true then ((laws_living29.f k).bind fun t210 => (some t210)) else (some false))) else ((laws_living29.f k).bind fun t211 => (some t211))) else (some false)))) else (if x34 = 10 then (laws_FnDomSibling.j3 k x1 x2 x34 (x34 == 10) x188000 x188001 x188002 x188003 x188004) else (laws_FnDomSibling.j3 k x1 x2 x34 (x34 == 11) x188000 x188001 x188002 x188003 x188004))
def laws_FnDomSibling.j3 : Nat → List Int → Int → Int → Bool → Int → ByteArray → ByteArray → List (S78) → List (S25) → Option (Bool)
  | 0, _, _, _, _, _, _, _, _, _ => none
  | k + 1, x1, x2, x34, x46, x188000, x188001, x188002, x188003, x188004 => if x46 = true then ((spec_Beside29.f k x188000 x188001 x188002 x188003 x188004 x1 (-1) (x2 == 11)).bind fun bt212 => ((impl_Neighbor.f k x188000 x188001 x188002 x188003 x188004 x1 x2).bind fun bt216 => (if (bt216.2 == bt212.2) = true then (if bt216.2 = true then ((laws_path29.f k bt216.1 bt212.1).bind fun t220 => (if t220 = true then ((laws_living29.f k).bind fun t221 => (some t221)) else (some false))) else ((laws_living29.f k).bind fun t222 => (some t222))) else (some false)))) else (if x34 = 12 then (laws_FnDomSibling.j4 k x1 x2 (x34 == 12) x188000 x188001 x188002 x188003 x188004) else (laws_FnDomSibling.j4 k x1 x2 (x34 == 13) x188000 x188001 x188002 x188003 x188004))
def laws_FnDomSibling.j4 : Nat → List Int → Int → Bool → Int → ByteArray → ByteArray → List (S78) → List (S25) → Option (Bool)
  | 0, _, _, _, _, _, _, _, _ => none
  | k + 1, x1, x2, x57, x188000, x188001, x188002, x188003, x188004 => if x57 = true then ((spec_Beside29.f k x188000 x188001 x188002 x188003 x188004 x1 1 (x2 == 13)).bind fun bt223 => ((impl_Neighbor.f k x188000 x188001 x188002 x188003 x188004 x1 x2).bind fun bt227 => (if (bt227.2 == bt223.2) = true then (if bt227.2 = true then ((laws_path29.f k bt227.1 bt223.1).bind fun t231 => (if t231 = true then ((laws_living29.f k).bind fun t232 => (some t232)) else (some false))) else ((laws_living29.f k).bind fun t233 => (some t233))) else (some false)))) else (some true)
end
def laws_FnDomSibling.f (k : Nat) (a0_0 : Int) (a0_1 : ByteArray) (a0_2 : ByteArray) (l0_3 : List (S78)) (l0_4 : List (S25)) (l1 : List Int) (a2 : Int) : Option (Bool) := (laws_zzFits2.f k a0_0 a0_1 a0_2 l0_3 l0_4).bind fun t188 => (if t188 = true then (laws_FnDomSibling.j0 k l1 a2 (decide ((l1.length : Int) > 2147483647)) a0_0 a0_1 a0_2 l0_3 l0_4) else (laws_FnDomSibling.j0 k l1 a2 true a0_0 a0_1 a0_2 l0_3 l0_4))
theorem laws_FnDomSibling.mono_l : ∀ k, (∀ y0 y1 y2 y3 y4 y5 y6 y7, LeO (laws_FnDomSibling.j0 k y0 y1 y2 y3 y4 y5 y6 y7) (laws_FnDomSibling.j0 (k + 1) y0 y1 y2 y3 y4 y5 y6 y7)) ∧ (∀ y0 y1 y2 y3 y4 y5 y6 y7, LeO (laws_FnDomSibling.j1 k y0 y1 y2 y3 y4 y5 y6 y7) (laws_FnDomSibling.j1 (k + 1) y0 y1 y2 y3 y4 y5 y6 y7)) ∧ (∀ y0 y1 y2 y3 y4 y5 y6 y7 y8, LeO (laws_FnDomSibling.j2 k y0 y1 y2 y3 y4 y5 y6 y7 y8) (laws_FnDomSibling.j2 (k + 1) y0 y1 y2 y3 y4 y5 y6 y7 y8)) ∧ (∀ y0 y1 y2 y3 y4 y5 y6 y7 y8, LeO (laws_FnDomSibling.j3 k y0 y1 y2 y3 y4 y5 y6 y7 y8) (laws_FnDomSibling.j3 (k + 1) y0 y1 y2 y3 y4 y5 y6 y7 y8)) ∧ (∀ y0 y1 y2 y3 y4 y5 y6 y7, LeO (laws_FnDomSibling.j4 k y0 y1 y2 y3 y4 y5 y6 y7) (laws_FnDomSibling.j4 (k + 1) y0 y1 y2 y3 y4 y5 y6 y7))
  | 0 => ⟨fun _ _ _ _ _ _ _ _ r h => by simp [laws_FnDomSibling.j0] at h, fun _ _ _ _ _ _ _ _ r h => by simp [laws_FnDomSibling.j1] at h, fun _ _ _ _ _ _ _ _ _ r h => by simp [laws_FnDomSibling.j2] at h, fun _ _ _ _ _ _ _ _ _ r h => by simp [laws_FnDomSibling.j3] at h, fun _ _ _ _ _ _ _ _ r h => by simp [laws_FnDomSibling.j4] at h⟩
  | k + 1 => by
    obtain ⟨ih0, ih1, ih2, ih3, ih4⟩ := laws_FnDomSibling.mono_l k
    refine ⟨?_, ?_, ?_, ?_, ?_⟩
    · intro y0 y1 y2 y3 y4 y5 y6 y7
      unfold laws_FnDomSibling.j0
      repeat' first
      | (with_reducible exact ih0 _ _ _ _ _ _ _ _)
      | (with_reducible exact ih1 _ _ _ _ _ _ _ _)
      | (with_reducible exact ih2 _ _ _ _ _ _ _ _ _)
      | (with_reducible exact ih3 _ _ _ _ _ _ _ _ _)
      | (with_reducible exact ih4 _ _ _ _ _ _ _ _)
      | (with_reducible exact impl_Neighbor.mono _ _ _ _ _ _ _ _)
      | (with_reducible exact laws_living29.mono _)
      | (with_reducible exact laws_path29.mono _ _ _)
      | (with_reducible exact laws_tree29.mono _ _ _ _ _ _)
      | (with_reducible exact laws_zzFits2.mono _ _ _ _ _ _)
      | (with_reducible exact spec_At29.mono _ _ _ _ _ _ _)
      | (with_reducible exact spec_Beside29.mono _ _ _ _ _ _ _ _ _)
      | (with_reducible exact spec_First29.mono _ _ _ _ _ _ _ _)
      | (with_reducible exact LeO.refl _)
      | (with_reducible exact LeO.none _)
      | (with_reducible refine LeO.ite ?_ ?_)
      | (with_reducible refine LeO.bind ?_ (fun _ => ?_))
      | exact ih0 _ _ _ _ _ _ _ _
      | exact ih1 _ _ _ _ _ _ _ _
      | exact ih2 _ _ _ _ _ _ _ _ _
      | exact ih3 _ _ _ _ _ _ _ _ _
      | exact ih4 _ _ _ _ _ _ _ _
      | exact impl_Neighbor.mono _ _ _ _ _ _ _ _
      | exact laws_living29.mono _
      | exact laws_path29.mono _ _ _
      | exact laws_tree29.mono _ _ _ _ _ _
      | exact laws_zzFits2.mono _ _ _ _ _ _
      | exact spec_At29.mono _ _ _ _ _ _ _
      | exact spec_Beside29.mono _ _ _ _ _ _ _ _ _
      | exact spec_First29.mono _ _ _ _ _ _ _ _
      | exact LeO.none _
      | refine LeO.ite ?_ ?_
      | refine LeO.bind ?_ (fun _ => ?_)
    · intro y0 y1 y2 y3 y4 y5 y6 y7
      unfold laws_FnDomSibling.j1
      repeat' first
      | (with_reducible exact ih0 _ _ _ _ _ _ _ _)
      | (with_reducible exact ih1 _ _ _ _ _ _ _ _)
      | (with_reducible exact ih2 _ _ _ _ _ _ _ _ _)
      | (with_reducible exact ih3 _ _ _ _ _ _ _ _ _)
      | (with_reducible exact ih4 _ _ _ _ _ _ _ _)
      | (with_reducible exact impl_Neighbor.mono _ _ _ _ _ _ _ _)
      | (with_reducible exact laws_living29.mono _)
      | (with_reducible exact laws_path29.mono _ _ _)
      | (with_reducible exact laws_tree29.mono _ _ _ _ _ _)
      | (with_reducible exact laws_zzFits2.mono _ _ _ _ _ _)
      | (with_reducible exact spec_At29.mono _ _ _ _ _ _ _)
      | (with_reducible exact spec_Beside29.mono _ _ _ _ _ _ _ _ _)
      | (with_reducible exact spec_First29.mono _ _ _ _ _ _ _ _)
      | (with_reducible exact LeO.refl _)
      | (with_reducible exact LeO.none _)
      | (with_reducible refine LeO.ite ?_ ?_)
      | (with_reducible refine LeO.bind ?_ (fun _ => ?_))
      | exact ih0 _ _ _ _ _ _ _ _
      | exact ih1 _ _ _ _ _ _ _ _
      | exact ih2 _ _ _ _ _ _ _ _ _
      | exact ih3 _ _ _ _ _ _ _ _ _
      | exact ih4 _ _ _ _ _ _ _ _
      | exact impl_Neighbor.mono _ _ _ _ _ _ _ _
      | exact laws_living29.mono _
      | exact laws_path29.mono _ _ _
      | exact laws_tree29.mono _ _ _ _ _ _
      | exact laws_zzFits2.mono _ _ _ _ _ _
      | exact spec_At29.mono _ _ _ _ _ _ _
      | exact spec_Beside29.mono _ _ _ _ _ _ _ _ _
      | exact spec_First29.mono _ _ _ _ _ _ _ _
      | exact LeO.none _
      | refine LeO.ite ?_ ?_
      | refine LeO.bind ?_ (fun _ => ?_)
    · intro y0 y1 y2 y3 y4 y5 y6 y7 y8
      unfold laws_FnDomSibling.j2
      repeat' first
      | (with_reducible exact ih0 _ _ _ _ _ _ _ _)
      | (with_reducible exact ih1 _ _ _ _ _ _ _ _)
      | (with_reducible exact ih2 _ _ _ _ _ _ _ _ _)
      | (with_reducible exact ih3 _ _ _ _ _ _ _ _ _)
      | (with_reducible exact ih4 _ _ _ _ _ _ _ _)
      | (with_reducible exact impl_Neighbor.mono _ _ _ _ _ _ _ _)
      | (with_reducible exact laws_living29.mono _)
      | (with_reducible exact laws_path29.mono _ _ _)
      | (with_reducible exact laws_tree29.mono _ _ _ _ _ _)
      | (with_reducible exact laws_zzFits2.mono _ _ _ _ _ _)
      | (with_reducible exact spec_At29.mono _ _ _ _ _ _ _)
      | (with_reducible exact spec_Beside29.mono _ _ _ _ _ _ _ _ _)
      | (with_reducible exact spec_First29.mono _ _ _ _ _ _ _ _)
      | (with_reducible exact LeO.refl _)
      | (with_reducible exact LeO.none _)
      | (with_reducible refine LeO.ite ?_ ?_)
      | (with_reducible refine LeO.bind ?_ (fun _ => ?_))
      | exact ih0 _ _ _ _ _ _ _ _
      | exact ih1 _ _ _ _ _ _ _ _
      | exact ih2 _ _ _ _ _ _ _ _ _
      | exact ih3 _ _ _ _ _ _ _ _ _
      | exact ih4 _ _ _ _ _ _ _ _
      | exact impl_Neighbor.mono _ _ _ _ _ _ _ _
      | exact laws_living29.mono _
      | exact laws_path29.mono _ _ _
      | exact laws_tree29.mono _ _ _ _ _ _
      | exact laws_zzFits2.mono _ _ _ _ _ _
      | exact spec_At29.mono _ _ _ _ _ _ _
      | exact spec_Beside29.mono _ _ _ _ _ _ _ _ _
      | exact spec_First29.mono _ _ _ _ _ _ _ _
      | exact LeO.none _
      | refine LeO.ite ?_ ?_
      | refine LeO.bind ?_ (fun _ => ?_)
    · intro y0 y1 y2 y3 y4 y5 y6 y7 y8
      unfold laws_FnDomSibling.j3
      repeat' first
      | (with_reducible exact ih0 _ _ _ _ _ _ _ _)
      | (with_reducible exact ih1 _ _ _ _ _ _ _ _)
      | (with_reducible exact ih2 _ _ _ _ _ _ _ _ _)
      | (with_reducible exact ih3 _ _ _ _ _ _ _ _ _)
      | (with_reducible exact ih4 _ _ _ _ _ _ _ _)
      | (with_reducible exact impl_Neighbor.mono _ _ _ _ _ _ _ _)
      | (with_reducible exact laws_living29.mono _)
      | (with_reducible exact laws_path29.mono _ _ _)
      | (with_reducible exact laws_tree29.mono _ _ _ _ _ _)
      | (with_reducible exact laws_zzFits2.mono _ _ _ _ _ _)
      | (with_reducible exact spec_At29.mono _ _ _ _ _ _ _)
      | (with_reducible exact spec_Beside29.mono _ _ _ _ _ _ _ _ _)
      | (with_reducible exact spec_First29.mono _ _ _ _ _ _ _ _)
      | (with_reducible exact LeO.refl _)
      | (with_reducible exact LeO.none _)
      | (with_reducible refine LeO.ite ?_ ?_)
      | (with_reducible refine LeO.bind ?_ (fun _ => ?_))
      | exact ih0 _ _ _ _ _ _ _ _
      | exact ih1 _ _ _ _ _ _ _ _
      | exact ih2 _ _ _ _ _ _ _ _ _
      | exact ih3 _ _ _ _ _ _ _ _ _
      | exact ih4 _ _ _ _ _ _ _ _
      | exact impl_Neighbor.mono _ _ _ _ _ _ _ _
      | exact laws_living29.mono _
      | exact laws_path29.mono _ _ _
      | exact laws_tree29.mono _ _ _ _ _ _
      | exact laws_zzFits2.mono _ _ _ _ _ _
      | exact spec_At29.mono _ _ _ _ _ _ _
      | exact spec_Beside29.mono _ _ _ _ _ _ _ _ _
      | exact spec_First29.mono _ _ _ _ _ _ _ _
      | exact LeO.none _
      | refine LeO.ite ?_ ?_
      | refine LeO.bind ?_ (fun _ => ?_)
    · intro y0 y1 y2 y3 y4 y5 y6 y7
      unfold laws_FnDomSibling.j4
      repeat' first
      | (with_reducible exact ih0 _ _ _ _ _ _ _ _)
      | (with_reducible exact ih1 _ _ _ _ _ _ _ _)
      | (with_reducible exact ih2 _ _ _ _ _ _ _ _ _)
      | (with_reducible exact ih3 _ _ _ _ _ _ _ _ _)
      | (with_reducible exact ih4 _ _ _ _ _ _ _ _)
      | (with_reducible exact impl_Neighbor.mono _ _ _ _ _ _ _ _)
      | (with_reducible exact laws_living29.mono _)
      | (with_reducible exact laws_path29.mono _ _ _)
      | (with_reducible exact laws_tree29.mono _ _ _ _ _ _)
      | (with_reducible exact laws_zzFits2.mono _ _ _ _ _ _)
      | (with_reducible exact spec_At29.mono _ _ _ _ _ _ _)
      | (with_reducible exact spec_Beside29.mono _ _ _ _ _ _ _ _ _)
      | (with_reducible exact spec_First29.mono _ _ _ _ _ _ _ _)
      | (with_reducible exact LeO.refl _)
      | (with_reducible exact LeO.none _)
      | (with_reducible refine LeO.ite ?_ ?_)
      | (with_reducible refine LeO.bind ?_ (fun _ => ?_))
      | exact ih0 _ _ _ _ _ _ _ _
      | exact ih1 _ _ _ _ _ _ _ _
      | exact ih2 _ _ _ _ _ _ _ _ _
      | exact ih3 _ _ _ _ _ _ _ _ _
      | exact ih4 _ _ _ _ _ _ _ _
      | exact impl_Neighbor.mono _ _ _ _ _ _ _ _
      | exact laws_living29.mono _
      | exact laws_path29.mono _ _ _
      | exact laws_tree29.mono _ _ _ _ _ _
      | exact laws_zzFits2.mono _ _ _ _ _ _
      | exact spec_At29.mono _ _ _ _ _ _ _
      | exact spec_Beside29.mono _ _ _ _ _ _ _ _ _
      | exact spec_First29.mono _ _ _ _ _ _ _ _
      | exact LeO.none _
      | refine LeO.ite ?_ ?_
      | refine LeO.bind ?_ (fun _ => ?_)
theorem laws_FnDomSibling.mono : ∀ a0 a1 a2 a3 a4 a5 a6 k, LeO (laws_FnDomSibling.f k a0 a1 a2 a3 a4 a5 a6) (laws_FnDomSibling.f (k + 1) a0 a1 a2 a3 a4 a5 a6) := by
  intro a0 a1 a2 a3 a4 a5 a6 k
  obtain ⟨ih0, ih1, ih2, ih3, ih4⟩ := laws_FnDomSibling.mono_l k
  unfold laws_FnDomSibling.f
  repeat' first
      | (with_reducible exact ih0 _ _ _ _ _ _ _ _)
      | (with_reducible exact ih1 _ _ _ _ _ _ _ _)
      | (with_reducible exact ih2 _ _ _ _ _ _ _ _ _)
      | (with_reducible exact ih3 _ _ _ _ _ _ _ _ _)
      | (with_reducible exact ih4 _ _ _ _ _ _ _ _)
      | (with_reducible exact impl_Neighbor.mono _ _ _ _ _ _ _ _)
      | (with_reducible exact laws_living29.mono _)
      | (with_reducible exact laws_path29.mono _ _ _)
      | (with_reducible exact laws_tree29.mono _ _ _ _ _ _)
      | (with_reducible exact laws_zzFits2.mono _ _ _ _ _ _)
      | (with_reducible exact spec_At29.mono _ _ _ _ _ _ _)
      | (with_reducible exact spec_Beside29.mono _ _ _ _ _ _ _ _ _)
      | (with_reducible exact spec_First29.mono _ _ _ _ _ _ _ _)
      | (with_reducible exact LeO.refl _)
      | (with_reducible exact LeO.none _)
      | (with_reducible refine LeO.ite ?_ ?_)
      | (with_reducible refine LeO.bind ?_ (fun _ => ?_))
      | exact ih0 _ _ _ _ _ _ _ _
      | exact ih1 _ _ _ _ _ _ _ _
      | exact ih2 _ _ _ _ _ _ _ _ _
      | exact ih3 _ _ _ _ _ _ _ _ _
      | exact ih4 _ _ _ _ _ _ _ _
      | exact impl_Neighbor.mono _ _ _ _ _ _ _ _
      | exact laws_living29.mono _
      | exact laws_path29.mono _ _ _
      | exact laws_tree29.mono _ _ _ _ _ _
      | exact laws_zzFits2.mono _ _ _ _ _ _
      | exact spec_At29.mono _ _ _ _ _ _ _
      | exact spec_Beside29.mono _ _ _ _ _ _ _ _ _
      | exact spec_First29.mono _ _ _ _ _ _ _ _
      | exact LeO.none _
      | refine LeO.ite ?_ ?_
      | refine LeO.bind ?_ (fun _ => ?_)
set_option maxHeartbeats 8000000 in
set_option maxRecDepth 100000 in
theorem laws_FnDomSibling.calls (k : Nat) (a0_0 : Int) (a0_1 : ByteArray) (a0_2 : ByteArray) (A0_3 : Option Addr) (c0_3 : Nat) (l0_3 : List (S78)) (A0_4 : Option Addr) (c0_4 : Nat) (l0_4 : List (S25)) (A1 : Option Addr) (c1 : Nat) (l1 : List Int) (a2 : Int) (r : Bool) (w : World) (hr0_3 : Kd.C k78 w A0_3 l0_3.length l0_3) (hc0_3 : l0_3.length ≤ c0_3) (hr0_4 : Kd.C k25 w A0_4 l0_4.length l0_4) (hc0_4 : l0_4.length ≤ c0_4) (hr1 : Kd.C (Kd.int .i64) w A1 l1.length l1) (hc1 : l1.length ≤ c1) (h : laws_FnDomSibling.f k a0_0 a0_1 a0_2 l0_3 l0_4 l1 a2 = some r) :
    Calls Try.prog 6 #[.agg #[.int .i64 a0_0, .string a0_1, .string a0_2, .slice A0_3 l0_3.length c0_3, .slice A0_4 l0_4.length c0_4], .slice A1 l1.length c1, .int .i64 a2] w fun e w' => e = .returned (.bool r) ∧ Below w.heap.size w w' := by
  have hu25 := Try.underlying25
  have HR0_3 := Aside0.mk hr0_3
  have HC0_3 := Aside0.mk hc0_3
  clear hr0_3 hc0_3
  have HR0_4 := Aside0.mk hr0_4
  have HC0_4 := Aside0.mk hc0_4
  clear hr0_4 hc0_4
  have HR1 := Aside0.mk hr1
  have HC1 := Aside0.mk hc1
  clear hr1 hc1
  have HB := Aside0.mk (Below.refl w.heap.size w)
  have H : ((laws_zzFits2.f k a0_0 a0_1 a0_2 l0_3 l0_4).bind fun t188 => (if t188 = true then (laws_FnDomSibling.j0 k l1 a2 (decide ((l1.length : Int) > 2147483647)) a0_0 a0_1 a0_2 l0_3 l0_4) else (laws_FnDomSibling.j0 k l1 a2 true a0_0 a0_1 a0_2 l0_3 l0_4))) = some r := h
  clear h
  have HC4 := Aside0.mk H
  clear H
  go_enter Try.func6, Try.ntmps6
  go_upto_region 1 with (first | ((with_reducible refine gate_dst (N := 3) rfl ?_); (try (refine gate_guard (by rfl) ?_; dsimp only)); refine box_event ?hg (N := 3) ?hd (cs := #[.int .i64 a0_0, .string a0_1, .string a0_2, .slice A0_3 l0_3.length c0_3, .slice A0_4 l0_4.length c0_4]) (t := 25) ?hr ?_; (case hd => rfl); (case hg => rfl); (case hr => first | (go_simp; done) | (go_simp; rfl)); intro gb187 hg w5 hbox hb; have n0_ := Aside0.mk (below_step (by repeat (first | (with_reducible first | exact HB.out | apply below_alloc | apply pw_below_drewN | apply below_drew1) | exact HB.out)) hb); have n1_ := Aside0.mk (hbox); have n2_ := Aside0.mk ((by rw [hg]; exact (below_size (by repeat (first | (with_reducible first | exact HB.out | apply below_alloc | apply pw_below_drewN | apply below_drew1) | exact HB.out))) : w.heap.size ≤ gb187)); have n3_ := Aside0.mk ((by rw [hg]; exact (below_size (by repeat (first | (with_reducible first | exact HB.out | apply below_alloc | apply pw_below_drewN | apply below_drew1) | exact HB.out))) : w.heap.size ≤ gb187)); clear HB; have HB := n0_; have BK187 := n1_; have GW187 := n2_; have GE187 := n3_; clear n0_ n1_ n2_ n3_; clear hb hbox hg))
  (try simp only [Act.put, List.setIfInBounds_toArray, List.set_cons_zero, List.set_cons_succ])
  go_cut [20] (fun v20 wc => ∃ (kq : Nat) (x20_3 : Bool), v20 = .bool x20_3 ∧ Aside0 (laws_FnDomSibling.j0 kq l1 a2 x20_3 a0_0 a0_1 a0_2 l0_3 l0_4 = some r) ∧ Aside0 (kq ≤ k) ∧ Aside0 (wc.heap[gb187]? = some (.cells #[.int .i64 a0_0, .string a0_1, .string a0_2, (.slice A0_3 l0_3.length c0_3), (.slice A0_4 l0_4.length c0_4)] 25 (0, 0))) ∧ Aside0 (Below w.heap.size w wc))
  case first =>
    have H := HC4.out
    clear HC4
    replace H := Option.bind_eq_some_iff.mp H
    obtain ⟨t188, A60, H⟩ := H
    replace H : (if t188 = true then (laws_FnDomSibling.j0 k l1 a2 (decide ((l1.length : Int) > 2147483647)) a0_0 a0_1 a0_2 l0_3 l0_4) else (laws_FnDomSibling.j0 k l1 a2 true a0_0 a0_1 a0_2 l0_3 l0_4)) = some r := H
    have A6 := Aside0.mk A60
    clear A60
    by_cases c7 : t188 = true
    · subst c7
      have H1 : (laws_FnDomSibling.j0 k l1 a2 (decide ((l1.length : Int) > 2147483647)) a0_0 a0_1 a0_2 l0_3 l0_4) = some r := by rw [if_pos rfl] at H; exact H
      clear H
      have H := H1
      clear H1
      have H' := Aside0.mk H
      clear H
      have hcz8_0 : w5.cell? ⟨gb187, 0, none⟩ = some (.int .i64 a0_0) := (blk_cell BK187.out 0).trans rfl
      have hcz8_1 : w5.cell? ⟨gb187, 1, none⟩ = some (.string a0_1) := (blk_cell BK187.out 1).trans rfl
      have hcz8_2 : w5.cell? ⟨gb187, 2, none⟩ = some (.string a0_2) := (blk_cell BK187.out 2).trans rfl
      have hcz8_3 : w5.cell? ⟨gb187, 3, none⟩ = some (.slice A0_3 l0_3.length c0_3) := (blk_cell BK187.out 3).trans rfl
      have hcz8_4 : w5.cell? ⟨gb187, 4, none⟩ = some (.slice A0_4 l0_4.length c0_4) := (blk_cell BK187.out 4).trans rfl
      have hfz8_0 := blk_frozen BK187.out 0
      have hfz8_1 := blk_frozen BK187.out 1
      have hfz8_2 := blk_frozen BK187.out 2
      have hfz8_3 := blk_frozen BK187.out 3
      have hfz8_4 := blk_frozen BK187.out 4
      go_wp2_with (first | ((with_reducible refine gate_callee (f := 9) rfl ?_); refine goesL_ (some 14) rfl rfl Try.func9 (by kernel_rfl) rfl #[.agg #[.int .i64 a0_0, .string a0_1, .string a0_2, .slice A0_3 l0_3.length c0_3, .slice A0_4 l0_4.length c0_4]] rfl (by (try simp only [List.map_toArray, List.map_cons, List.map_nil]); first | done | rfl | (simp only [List.length_drop, List.length_take]; rfl)) ?_; (with_reducible refine (laws_zzFits2.calls k a0_0 a0_1 a0_2 _ _ l0_3 _ _ l0_4 true _ ?side1 ?side2 ?side3 ?side4 A6.out).mono ?_); (case side1 => repeat (first | exact (Kd.C_below HR0_3.out HB.out) | (with_reducible refine Kd.C_alloc ?_ _) | (with_reducible refine Kd.C_drewN ?_ _) | (with_reducible refine Kd.C_drew ?_))); (case side2 => exact HC0_3.out); (case side3 => repeat (first | exact (Kd.C_below HR0_4.out HB.out) | (with_reducible refine Kd.C_alloc ?_ _) | (with_reducible refine Kd.C_drewN ?_ _) | (with_reducible refine Kd.C_drew ?_))); (case side4 => exact HC0_4.out); rintro e w9 ⟨rfl, hb⟩; refine ⟨_, rfl, ?_⟩; have n0_ := Aside0.mk (blk_below (g := gb187) (o := .cells #[.int .i64 a0_0, .string a0_1, .string a0_2, .slice A0_3 l0_3.length c0_3, .slice A0_4 l0_4.length c0_4] 25 (0, 0)) (by (with_reducible repeat (first | refine blk_drewN ?_ _ | refine blk_drew ?_ | refine blk_alloc ?_ _)); exact BK187.out) hb); have n1_ := Aside0.mk (below_step (by repeat (first | (with_reducible first | exact HB.out | apply below_alloc | apply pw_below_drewN | apply below_drew1 | refine below_set ?_ GE187.out) | exact HB.out)) hb); clear BK187; clear HB; have BK187 := n0_; have HB := n1_; clear n0_ n1_; (try clear hb); (try clear hb2); (try clear hk); (try clear hi)))
      go_meet
      case rel => exact ⟨_, (decide ((l1.length : Int) > 2147483647)), (by first | rfl | (simp; done) | (simp [*]; done)), H', ⟨by first | omega | exact Nat.le_refl _⟩, ⟨by (with_reducible repeat (first | refine blk_drewN ?_ _ | refine blk_drew ?_ | refine blk_alloc ?_ _)); exact BK187.out⟩, ⟨by repeat (first | (with_reducible first | exact HB.out | apply below_alloc | apply pw_below_drewN | apply below_drew1 | refine below_set ?_ GE187.out) | exact HB.out)⟩⟩
    · replace c7 := Bool.eq_false_iff.mpr c7
      subst c7
      have H1 : (laws_FnDomSibling.j0 k l1 a2 true a0_0 a0_1 a0_2 l0_3 l0_4) = some r := by rw [if_neg (show ¬ (false = true) by decide)] at H; exact H
      clear H
      have H := H1
      clear H1
      have H' := Aside0.mk H
      clear H
      have hcz10_0 : w5.cell? ⟨gb187, 0, none⟩ = some (.int .i64 a0_0) := (blk_cell BK187.out 0).trans rfl
      have hcz10_1 : w5.cell? ⟨gb187, 1, none⟩ = some (.string a0_1) := (blk_cell BK187.out 1).trans rfl
      have hcz10_2 : w5.cell? ⟨gb187, 2, none⟩ = some (.string a0_2) := (blk_cell BK187.out 2).trans rfl
      have hcz10_3 : w5.cell? ⟨gb187, 3, none⟩ = some (.slice A0_3 l0_3.length c0_3) := (blk_cell BK187.out 3).trans rfl
      have hcz10_4 : w5.cell? ⟨gb187, 4, none⟩ = some (.slice A0_4 l0_4.length c0_4) := (blk_cell BK187.out 4).trans rfl
      have hfz10_0 := blk_frozen BK187.out 0
      have hfz10_1 := blk_frozen BK187.out 1
      have hfz10_2 := blk_frozen BK187.out 2
      have hfz10_3 := blk_frozen BK187.out 3
      have hfz10_4 := blk_frozen BK187.out 4
      go_wp2_with (first | ((with_reducible refine gate_callee (f := 9) rfl ?_); refine goesL_ (some 14) rfl rfl Try.func9 (by kernel_rfl) rfl #[.agg #[.int .i64 a0_0, .string a0_1, .string a0_2, .slice A0_3 l0_3.length c0_3, .slice A0_4 l0_4.length c0_4]] rfl (by (try simp only [List.map_toArray, List.map_cons, List.map_nil]); first | done | rfl | (simp only [List.length_drop, List.length_take]; rfl)) ?_; (with_reducible refine (laws_zzFits2.calls k a0_0 a0_1 a0_2 _ _ l0_3 _ _ l0_4 false _ ?side1 ?side2 ?side3 ?side4 A6.out).mono ?_); (case side1 => repeat (first | exact (Kd.C_below HR0_3.out HB.out) | (with_reducible refine Kd.C_alloc ?_ _) | (with_reducible refine Kd.C_drewN ?_ _) | (with_reducible refine Kd.C_drew ?_))); (case side2 => exact HC0_3.out); (case side3 => repeat (first | exact (Kd.C_below HR0_4.out HB.out) | (with_reducible refine Kd.C_alloc ?_ _) | (with_reducible refine Kd.C_drewN ?_ _) | (with_reducible refine Kd.C_drew ?_))); (case side4 => exact HC0_4.out); rintro e w11 ⟨rfl, hb⟩; refine ⟨_, rfl, ?_⟩; have n0_ := Aside0.mk (blk_below (g := gb187) (o := .cells #[.int .i64 a0_0, .string a0_1, .string a0_2, .slice A0_3 l0_3.length c0_3, .slice A0_4 l0_4.length c0_4] 25 (0, 0)) (by (with_reducible repeat (first | refine blk_drewN ?_ _ | refine blk_drew ?_ | refine blk_alloc ?_ _)); exact BK187.out) hb); have n1_ := Aside0.mk (below_step (by repeat (first | (with_reducible first | exact HB.out | apply below_alloc | apply pw_below_drewN | apply below_drew1 | refine below_set ?_ GE187.out) | exact HB.out)) hb); clear BK187; clear HB; have BK187 := n0_; have HB := n1_; clear n0_ n1_; (try clear hb); (try clear hb2); (try clear hk); (try clear hi)))
      go_meet
      case rel => exact ⟨_, (true), (by first | rfl | (simp; done) | (simp [*]; done)), H', ⟨by first | omega | exact Nat.le_refl _⟩, ⟨by (with_reducible repeat (first | refine blk_drewN ?_ _ | refine blk_drew ?_ | refine blk_alloc ?_ _)); exact BK187.out⟩, ⟨by repeat (first | (with_reducible first | exact HB.out | apply below_alloc | apply pw_below_drewN | apply below_drew1 | refine below_set ?_ GE187.out) | exact HB.out)⟩⟩
  case rest =>
    clear HC4
    try clear c1
    try clear p2
    try clear c6
    try clear c7
    try clear c9
    try clear hcz10_0
    try clear hcz10_1
    try clear hcz10_2
    try clear hcz10_3
    try clear hcz10_4
    try clear hcz8_0
    try clear hcz8_1
    try clear hcz8_2
    try clear hcz8_3
    try clear hcz8_4
    try clear hfz10_0
    try clear hfz10_1
    try clear hfz10_2
    try clear hfz10_3
    try clear hfz10_4
    try clear hfz8_0
    try clear hfz8_1
    try clear hfz8_2
    try clear hfz8_3
    try clear hfz8_4
    obtain ⟨kq, x20_3, rfl, HA, HJ3, BK187, HB⟩ := hcut
    cases kq with
    | zero => exact absurd HA.out (by simp [laws_FnDomSibling.j0])
    | succ kj3 =>
      have H := HA.out
      clear HA
      simp only [laws_FnDomSibling.j0] at H
      by_cases c12 : x20_3 = true
      · subst c12
        have H1 : (some true) = some r := by rw [if_pos rfl] at H; exact H
        clear H
        have H := H1
        clear H1
        obtain rfl := Option.some.inj H
        go_wp2
        go_ret
        exact ⟨by first | rfl | (simp [errW_none, errW_some] <;> rfl) | (simp [*, errW_none, errW_some] <;> rfl), by repeat (first | (with_reducible first | exact HB.out | apply below_alloc | apply pw_below_drewN | apply below_drew1 | refine below_set ?_ GE187.out) | exact HB.out)⟩
      · replace c12 := Bool.eq_false_iff.mpr c12
        subst c12
        have H1 : ((spec_At29.f kj3 a0_0 a0_1 a0_2 l0_3 l0_4 l1).bind fun bt189 => (if bt189.2.2.2.2.2 = true then ((laws_tree29.f kj3 a0_0 a0_1 a0_2 l0_3 l0_4).bind fun t200 => (laws_FnDomSibling.j1 kj3 l1 a2 (!t200) a0_0 a0_1 a0_2 l0_3 l0_4)) else (laws_FnDomSibling.j1 kj3 l1 a2 true a0_0 a0_1 a0_2 l0_3 l0_4))) = some r := by rw [if_neg (show ¬ (false = true) by decide)] at H; exact H
        clear H
        have H := H1
        clear H1
        replace H := Option.bind_eq_some_iff.mp H
        obtain ⟨⟨t189, t190, t191, t192, t195, t198⟩, A130, H⟩ := H
        replace H : (if t198 = true then ((laws_tree29.f kj3 a0_0 a0_1 a0_2 l0_3 l0_4).bind fun t200 => (laws_FnDomSibling.j1 kj3 l1 a2 (!t200) a0_0 a0_1 a0_2 l0_3 l0_4)) else (laws_FnDomSibling.j1 kj3 l1 a2 true a0_0 a0_1 a0_2 l0_3 l0_4)) = some r := H
        have A13 := Aside0.mk A130
        clear A130
        have HC14 := Aside0.mk H
        clear H
        have hcz15_0 : wc.cell? ⟨gb187, 0, none⟩ = some (.int .i64 a0_0) := (blk_cell BK187.out 0).trans rfl
        have hcz15_1 : wc.cell? ⟨gb187, 1, none⟩ = some (.string a0_1) := (blk_cell BK187.out 1).trans rfl
        have hcz15_2 : wc.cell? ⟨gb187, 2, none⟩ = some (.string a0_2) := (blk_cell BK187.out 2).trans rfl
        have hcz15_3 : wc.cell? ⟨gb187, 3, none⟩ = some (.slice A0_3 l0_3.length c0_3) := (blk_cell BK187.out 3).trans rfl
        have hcz15_4 : wc.cell? ⟨gb187, 4, none⟩ = some (.slice A0_4 l0_4.length c0_4) := (blk_cell BK187.out 4).trans rfl
        have hfz15_0 := blk_frozen BK187.out 0
        have hfz15_1 := blk_frozen BK187.out 1
        have hfz15_2 := blk_frozen BK187.out 2
        have hfz15_3 := blk_frozen BK187.out 3
        have hfz15_4 := blk_frozen BK187.out 4
        go_upto_region 4 with (first | ((with_reducible refine gate_callee (f := 17) rfl ?_); refine goesL_ (some 24) rfl rfl Try.func17 (by kernel_rfl) rfl #[.agg #[.int .i64 a0_0, .string a0_1, .string a0_2, .slice A0_3 l0_3.length c0_3, .slice A0_4 l0_4.length c0_4], .slice A1 l1.length c1] rfl (by (try simp only [List.map_toArray, List.map_cons, List.map_nil]); first | done | rfl | (simp only [List.length_drop, List.length_take]; rfl)) ?_; (with_reducible refine (spec_At29.calls kj3 a0_0 a0_1 a0_2 (fun k_ => k_ < w.heap.size) _ _ l0_3 (fun k_ => k_ < w.heap.size) _ _ l0_4 _ _ l1 t189 t190 t191 t192 t195 t198 _ ?side1 ?side2 ?side3 ?side4 A13.out).mono ?_); (case side1 => exact Kd.V_mk HC0_3.out (Kd.F_below (Kd.C_F k78_heap HR0_3.out) (by repeat (first | (with_reducible first | exact HB.out | apply below_alloc | apply pw_below_drewN | apply below_drew1 | refine below_set ?_ GE187.out) | exact HB.out)))); (case side2 => exact Kd.V_mk HC0_4.out (Kd.F_below (Kd.C_F k25_heap HR0_4.out) (by repeat (first | (with_reducible first | exact HB.out | apply below_alloc | apply pw_below_drewN | apply below_drew1 | refine below_set ?_ GE187.out) | exact HB.out)))); (case side3 => repeat (first | exact (Kd.C_below HR1.out HB.out) | (with_reducible refine Kd.C_alloc ?_ _) | (with_reducible refine Kd.C_drewN ?_ _) | (with_reducible refine Kd.C_drew ?_))); (case side4 => exact HC1.out); rintro e w16 ⟨v193, v196, rfl, ho0, ho1, hb⟩; refine ⟨_, rfl, ?_⟩; have n0_ := Aside0.mk (Kd.V_lower (Kd.V_mono (ok' := fun k_ => k_ ≠ gb187) ho0 (fun k_ hk_ => Or.elim hk_ (fun hs_ => Or.elim hs_ (fun hs_ => fun e_ => Nat.not_le.2 hs_ (by rw [e_]; exact GW187.out)) (fun hs_ => fun e_ => Nat.not_le.2 hs_ (by rw [e_]; exact GW187.out))) (fun hn_ => (Kd.freshB (g := gb187) (o := .cells #[.int .i64 a0_0, .string a0_1, .string a0_2, .slice A0_3 l0_3.length c0_3, .slice A0_4 l0_4.length c0_4] 25 (0, 0)) (by (with_reducible repeat (first | refine blk_drewN ?_ _ | refine blk_drew ?_ | refine blk_alloc ?_ _)); exact BK187.out) k_ hn_)))) (below_size (by repeat (first | (with_reducible first | exact HB.out | apply below_alloc | apply pw_below_drewN | apply below_drew1 | refine below_set ?_ GE187.out) | exact HB.out)))); have n1_ := Aside0.mk (Kd.V_lower (Kd.V_mono (ok' := fun k_ => k_ ≠ gb187) ho1 (fun k_ hk_ => Or.elim hk_ (fun hs_ => Or.elim hs_ (fun hs_ => fun e_ => Nat.not_le.2 hs_ (by rw [e_]; exact GW187.out)) (fun hs_ => fun e_ => Nat.not_le.2 hs_ (by rw [e_]; exact GW187.out))) (fun hn_ => (Kd.freshB (g := gb187) (o := .cells #[.int .i64 a0_0, .string a0_1, .string a0_2, .slice A0_3 l0_3.length c0_3, .slice A0_4 l0_4.length c0_4] 25 (0, 0)) (by (with_reducible repeat (first | refine blk_drewN ?_ _ | refine blk_drew ?_ | refine blk_alloc ?_ _)); exact BK187.out) k_ hn_)))) (below_size (by repeat (first | (with_reducible first | exact HB.out | apply below_alloc | apply pw_below_drewN | apply below_drew1 | refine below_set ?_ GE187.out) | exact HB.out)))); have n2_ := Aside0.mk (blk_below (g := gb187) (o := .cells #[.int .i64 a0_0, .string a0_1, .string a0_2, .slice A0_3 l0_3.length c0_3, .slice A0_4 l0_4.length c0_4] 25 (0, 0)) (by (with_reducible repeat (first | refine blk_drewN ?_ _ | refine blk_drew ?_ | refine blk_alloc ?_ _)); exact BK187.out) hb); have n3_ := Aside0.mk (below_step (by repeat (first | (with_reducible first | exact HB.out | apply below_alloc | apply pw_below_drewN | apply below_drew1 | refine below_set ?_ GE187.out) | exact HB.out)) hb); clear BK187; clear HB; have HO194 := n0_; have HO197 := n1_; have BK187 := n2_; have HB := n3_; clear n0_ n1_ n2_ n3_; (try clear hb); (try clear hb2); (try clear hk); (try clear hi); (try clear ho0); (try clear ho1)) | ((with_reducible refine gate_dst (N := 7) rfl ?_); (try (refine gate_guard (by rfl) ?_; dsimp only)); refine box_event ?hg (N := 7) ?hd (cs := #[.int .i64 0, .string (⟨#[]⟩ : ByteArray), .string (⟨#[]⟩ : ByteArray), .slice none 0 0, .slice none 0 0]) (t := 25) ?hr ?_; (case hd => rfl); (case hg => rfl); (case hr => first | (go_simp; done) | (go_simp; rfl)); intro gb199 hg w17 hbox hb; have n0_ := Aside0.mk (Kd.V_below (Kd.V_elderB (by (with_reducible repeat (first | apply Kd.V_alloc | apply Kd.V_drewN | apply Kd.V_drew)); exact HO194.out) gb199 (Nat.le_of_eq hg.symm)) hb); have n1_ := Aside0.mk (Kd.V_below (Kd.V_elderB (by (with_reducible repeat (first | apply Kd.V_alloc | apply Kd.V_drewN | apply Kd.V_drew)); exact HO197.out) gb199 (Nat.le_of_eq hg.symm)) hb); have n2_ := Aside0.mk (blk_below (g := gb187) (o := .cells #[.int .i64 a0_0, .string a0_1, .string a0_2, .slice A0_3 l0_3.length c0_3, .slice A0_4 l0_4.length c0_4] 25 (0, 0)) (by (with_reducible repeat (first | refine blk_drewN ?_ _ | refine blk_drew ?_ | refine blk_alloc ?_ _)); exact BK187.out) hb); have n3_ := Aside0.mk (below_step (by repeat (first | (with_reducible first | exact HB.out | apply below_alloc | apply pw_below_drewN | apply below_drew1 | refine below_set ?_ GE187.out) | exact HB.out)) hb); have n4_ := Aside0.mk (hbox); have n5_ := Aside0.mk ((by rw [hg]; exact (below_size (by repeat (first | (with_reducible first | exact HB.out | apply below_alloc | apply pw_below_drewN | apply below_drew1 | refine below_set ?_ GE187.out) | exact HB.out))) : w.heap.size ≤ gb199)); have n6_ := Aside0.mk ((by rw [hg]; exact (below_size (by repeat (first | (with_reducible first | exact HB.out | apply below_alloc | apply pw_below_drewN | apply below_drew1 | refine below_set ?_ GE187.out) | exact HB.out))) : w.heap.size ≤ gb199)); have n7_ := Aside0.mk ((by rw [hg]; exact Nat.ne_of_lt (blk_lt (g := gb187) (o := .cells #[.int .i64 a0_0, .string a0_1, .string a0_2, .slice A0_3 l0_3.length c0_3, .slice A0_4 l0_4.length c0_4] 25 (0, 0)) (by (with_reducible repeat (first | refine blk_drewN ?_ _ | refine blk_drew ?_ | refine blk_alloc ?_ _)); exact BK187.out)) : gb187 ≠ gb199)); have n8_ := Aside0.mk ((by rw [hg]; exact Nat.ne_of_gt (blk_lt (g := gb187) (o := .cells #[.int .i64 a0_0, .string a0_1, .string a0_2, .slice A0_3 l0_3.length c0_3, .slice A0_4 l0_4.length c0_4] 25 (0, 0)) (by (with_reducible repeat (first | refine blk_drewN ?_ _ | refine blk_drew ?_ | refine blk_alloc ?_ _)); exact BK187.out)) : gb199 ≠ gb187)); clear HO194; clear HO197; clear BK187; clear HB; have HO194 := n0_; have HO197 := n1_; have BK187 := n2_; have HB := n3_; have BK199 := n4_; have GW199 := n5_; have GE199 := n6_; have NB187_199 := n7_; have NB199_187 := n8_; clear n0_ n1_ n2_ n3_ n4_ n5_ n6_ n7_ n8_; clear hb hbox hg; have hnb18 := NB199_187.out; have hnc18 := NB187_199.out; have hcz19_0 : w17.cell? ⟨gb199, 0, none⟩ = some (.int .i64 0) := (blk_cell BK199.out 0).trans rfl; have hcz19_1 : w17.cell? ⟨gb199, 1, none⟩ = some (.string (⟨#[]⟩ : ByteArray)) := (blk_cell BK199.out 1).trans rfl; have hcz19_2 : w17.cell? ⟨gb199, 2, none⟩ = some (.string (⟨#[]⟩ : ByteArray)) := (blk_cell BK199.out 2).trans rfl; have hcz19_3 : w17.cell? ⟨gb199, 3, none⟩ = some (.slice none 0 0) := (blk_cell BK199.out 3).trans rfl; have hcz19_4 : w17.cell? ⟨gb199, 4, none⟩ = some (.slice none 0 0) := (blk_cell BK199.out 4).trans rfl; have hfz19_0 := blk_frozen BK199.out 0; have hfz19_1 := blk_frozen BK199.out 1; have hfz19_2 := blk_frozen BK199.out 2; have hfz19_3 := blk_frozen BK199.out 3; have hfz19_4 := blk_frozen BK199.out 4; obtain ⟨Ao20, co20, eo20⟩ := Kd.V_slice HO194.out; subst eo20; obtain ⟨Ao21, co21, eo21⟩ := Kd.V_slice HO197.out; subst eo21))
        (try simp only [Act.put, List.setIfInBounds_toArray, List.set_cons_zero, List.set_cons_succ])
        go_cut [33] (fun v33 wc => ∃ (kq : Nat) (x33_13 : Bool), v33 = .bool x33_13 ∧ Aside0 (laws_FnDomSibling.j1 kq l1 a2 x33_13 a0_0 a0_1 a0_2 l0_3 l0_4 = some r) ∧ Aside0 (kq ≤ kj3) ∧ Aside0 (Kd.V k78 78 wc w.heap.size (fun k_ => k_ ≠ gb187 ∧ k_ ≠ gb199) (.slice Ao20 t192.length co20) t192) ∧ Aside0 (Kd.V k25 25 wc w.heap.size (fun k_ => k_ ≠ gb187 ∧ k_ ≠ gb199) (.slice Ao21 t195.length co21) t195) ∧ Aside0 (wc.heap[gb187]? = some (.cells #[.int .i64 a0_0, .string a0_1, .string a0_2, (.slice A0_3 l0_3.length c0_3), (.slice A0_4 l0_4.length c0_4)] 25 (0, 0))) ∧ Aside0 (wc.heap[gb199]? = some (.cells #[.int .i64 t189, .string t190, .string t191, (.slice Ao20 t192.length co20), (.slice Ao21 t195.length co21)] 25 (0, 0))) ∧ Aside0 (Below w.heap.size w wc))
        case first =>
          have H := HC14.out
          clear HC14
          by_cases c22 : t198 = true
          · subst c22
            have H1 : ((laws_tree29.f kj3 a0_0 a0_1 a0_2 l0_3 l0_4).bind fun t200 => (laws_FnDomSibling.j1 kj3 l1 a2 (!t200) a0_0 a0_1 a0_2 l0_3 l0_4)) = some r := by rw [if_pos rfl] at H; exact H
            clear H
            have H := H1
            clear H1
            replace H := Option.bind_eq_some_iff.mp H
            obtain ⟨t200, A230, H⟩ := H
            replace H : (laws_FnDomSibling.j1 kj3 l1 a2 (!t200) a0_0 a0_1 a0_2 l0_3 l0_4) = some r := H
            have A23 := Aside0.mk A230
            clear A230
            have H' := Aside0.mk H
            clear H
            have hnb24 := NB187_199.out
            have hnc24 := NB199_187.out
            have hcz25_0 : w17.cell? ⟨gb187, 0, none⟩ = some (.int .i64 a0_0) := (blk_cell BK187.out 0).trans rfl
            have hcz25_1 : w17.cell? ⟨gb187, 1, none⟩ = some (.string a0_1) := (blk_cell BK187.out 1).trans rfl
            have hcz25_2 : w17.cell? ⟨gb187, 2, none⟩ = some (.string a0_2) := (blk_cell BK187.out 2).trans rfl
            have hcz25_3 : w17.cell? ⟨gb187, 3, none⟩ = some (.slice A0_3 l0_3.length c0_3) := (blk_cell BK187.out 3).trans rfl
            have hcz25_4 : w17.cell? ⟨gb187, 4, none⟩ = some (.slice A0_4 l0_4.length c0_4) := (blk_cell BK187.out 4).trans rfl
            have hfz25_0 := blk_frozen BK187.out 0
            have hfz25_1 := blk_frozen BK187.out 1
            have hfz25_2 := blk_frozen BK187.out 2
            have hfz25_3 := blk_frozen BK187.out 3
            have hfz25_4 := blk_frozen BK187.out 4
            go_wp2_with (first | (go_at_call 10; (with_reducible refine (laws_tree29.calls kj3 a0_0 a0_1 a0_2 _ _ l0_3 _ _ l0_4 t200 _ ?side1 ?side2 ?side3 ?side4 A23.out).mono ?_); (case side1 => exact Kd.C_below HR0_3.out (by repeat (first | (with_reducible first | exact HB.out | apply below_alloc | apply pw_below_drewN | apply below_drew1 | refine below_set ?_ GE187.out | refine below_set ?_ GE199.out) | exact HB.out))); (case side2 => exact HC0_3.out); (case side3 => exact Kd.C_below HR0_4.out (by repeat (first | (with_reducible first | exact HB.out | apply below_alloc | apply pw_below_drewN | apply below_drew1 | refine below_set ?_ GE187.out | refine below_set ?_ GE199.out) | exact HB.out))); (case side4 => exact HC0_4.out); rintro e w26 ⟨rfl, hb⟩; have n0_ := Aside0.mk (Kd.V_below (by (with_reducible repeat (first | apply Kd.V_alloc | apply Kd.V_drewN | apply Kd.V_drew)); exact (Kd.V_mono (Kd.V_far (p := ⟨gb199, 4, none⟩) (Kd.V_far (p := ⟨gb199, 3, none⟩) (Kd.V_far (p := ⟨gb199, 2, none⟩) (Kd.V_far (p := ⟨gb199, 1, none⟩) (Kd.V_far (p := ⟨gb199, 0, none⟩) (Kd.V_mono HO194.out (fun k_ hk => (⟨hk, hk.2⟩ : _ ∧ k_ ≠ gb199))) (fun _ hk => hk.2) (.int .i64 t189)) (fun _ hk => hk.2) (.string t190)) (fun _ hk => hk.2) (.string t191)) (fun _ hk => hk.2) (.slice Ao20 t192.length co20)) (fun _ hk => hk.2) (.slice Ao21 t195.length co21)) (fun _ h_ => h_.1))) hb); have n1_ := Aside0.mk (Kd.V_below (by (with_reducible repeat (first | apply Kd.V_alloc | apply Kd.V_drewN | apply Kd.V_drew)); exact (Kd.V_mono (Kd.V_far (p := ⟨gb199, 4, none⟩) (Kd.V_far (p := ⟨gb199, 3, none⟩) (Kd.V_far (p := ⟨gb199, 2, none⟩) (Kd.V_far (p := ⟨gb199, 1, none⟩) (Kd.V_far (p := ⟨gb199, 0, none⟩) (Kd.V_mono HO197.out (fun k_ hk => (⟨hk, hk.2⟩ : _ ∧ k_ ≠ gb199))) (fun _ hk => hk.2) (.int .i64 t189)) (fun _ hk => hk.2) (.string t190)) (fun _ hk => hk.2) (.string t191)) (fun _ hk => hk.2) (.slice Ao20 t192.length co20)) (fun _ hk => hk.2) (.slice Ao21 t195.length co21)) (fun _ h_ => h_.1))) hb); have n2_ := Aside0.mk (blk_below (g := gb187) (o := .cells #[.int .i64 a0_0, .string a0_1, .string a0_2, .slice A0_3 l0_3.length c0_3, .slice A0_4 l0_4.length c0_4] 25 (0, 0)) (by (with_reducible repeat (first | refine blk_drewN ?_ _ | refine blk_drew ?_ | refine blk_alloc ?_ _)); refine blk_far ?_ NB187_199.out _; (with_reducible repeat (first | refine blk_drewN ?_ _ | refine blk_drew ?_ | refine blk_alloc ?_ _)); refine blk_far ?_ NB187_199.out _; (with_reducible repeat (first | refine blk_drewN ?_ _ | refine blk_drew ?_ | refine blk_alloc ?_ _)); refine blk_far ?_ NB187_199.out _; (with_reducible repeat (first | refine blk_drewN ?_ _ | refine blk_drew ?_ | refine blk_alloc ?_ _)); refine blk_far ?_ NB187_199.out _; (with_reducible repeat (first | refine blk_drewN ?_ _ | refine blk_drew ?_ | refine blk_alloc ?_ _)); refine blk_far ?_ NB187_199.out _; (with_reducible repeat (first | refine blk_drewN ?_ _ | refine blk_drew ?_ | refine blk_alloc ?_ _)); exact BK187.out) hb); have n3_ := Aside0.mk (blk_below (g := gb199) (o := .cells #[.int .i64 t189, .string t190, .string t191, .slice Ao20 t192.length co20, .slice Ao21 t195.length co21] 25 (0, 0)) (by (with_reducible repeat (first | refine blk_drewN ?_ _ | refine blk_drew ?_ | refine blk_alloc ?_ _)); refine blk_put (cs := #[.int .i64 t189, .string t190, .string t191, .slice Ao20 t192.length co20, .slice none 0 0]) ?_ 4 _ rfl; (with_reducible repeat (first | refine blk_drewN ?_ _ | refine blk_drew ?_ | refine blk_alloc ?_ _)); refine blk_put (cs := #[.int .i64 t189, .string t190, .string t191, .slice none 0 0, .slice none 0 0]) ?_ 3 _ rfl; (with_reducible repeat (first | refine blk_drewN ?_ _ | refine blk_drew ?_ | refine blk_alloc ?_ _)); refine blk_put (cs := #[.int .i64 t189, .string t190, .string (⟨#[]⟩ : ByteArray), .slice none 0 0, .slice none 0 0]) ?_ 2 _ rfl; (with_reducible repeat (first | refine blk_drewN ?_ _ | refine blk_drew ?_ | refine blk_alloc ?_ _)); refine blk_put (cs := #[.int .i64 t189, .string (⟨#[]⟩ : ByteArray), .string (⟨#[]⟩ : ByteArray), .slice none 0 0, .slice none 0 0]) ?_ 1 _ rfl; (with_reducible repeat (first | refine blk_drewN ?_ _ | refine blk_drew ?_ | refine blk_alloc ?_ _)); refine blk_put (cs := #[.int .i64 0, .string (⟨#[]⟩ : ByteArray), .string (⟨#[]⟩ : ByteArray), .slice none 0 0, .slice none 0 0]) ?_ 0 _ rfl; (with_reducible repeat (first | refine blk_drewN ?_ _ | refine blk_drew ?_ | refine blk_alloc ?_ _)); exact BK199.out) hb); have n4_ := Aside0.mk (below_step (by repeat (first | (with_reducible first | exact HB.out | apply below_alloc | apply pw_below_drewN | apply below_drew1 | refine below_set ?_ GE187.out | refine below_set ?_ GE199.out) | exact HB.out)) hb); clear HO194; clear HO197; clear BK187; clear BK199; clear HB; have HO194 := n0_; have HO197 := n1_; have BK187 := n2_; have BK199 := n3_; have HB := n4_; clear n0_ n1_ n2_ n3_ n4_; (try clear hb); (try clear hb2); (try clear hk); (try clear hi)))
            go_meet
            case rel => exact ⟨_, (!t200), (by first | rfl | (simp; done) | (simp [*]; done)), H', ⟨by have := HJ3.out; first | omega | exact Nat.le_refl _⟩, ⟨by (with_reducible repeat (first | apply Kd.V_alloc | apply Kd.V_drewN | apply Kd.V_drew)); exact HO194.out⟩, ⟨by (with_reducible repeat (first | apply Kd.V_alloc | apply Kd.V_drewN | apply Kd.V_drew)); exact HO197.out⟩, ⟨by (with_reducible repeat (first | refine blk_drewN ?_ _ | refine blk_drew ?_ | refine blk_alloc ?_ _)); exact BK187.out⟩, ⟨by (with_reducible repeat (first | refine blk_drewN ?_ _ | refine blk_drew ?_ | refine blk_alloc ?_ _)); exact BK199.out⟩, ⟨by repeat (first | (with_reducible first | exact HB.out | apply below_alloc | apply pw_below_drewN | apply below_drew1 | refine below_set ?_ GE187.out | refine below_set ?_ GE199.out) | exact HB.out)⟩⟩
          · replace c22 := Bool.eq_false_iff.mpr c22
            subst c22
            have H1 : (laws_FnDomSibling.j1 kj3 l1 a2 true a0_0 a0_1 a0_2 l0_3 l0_4) = some r := by rw [if_neg (show ¬ (false = true) by decide)] at H; exact H
            clear H
            have H := H1
            clear H1
            have H' := Aside0.mk H
            clear H
            go_wp2
            go_meet
            case rel => exact ⟨_, (true), (by first | rfl | (simp; done) | (simp [*]; done)), H', ⟨by have := HJ3.out; first | omega | exact Nat.le_refl _⟩, ⟨by (with_reducible repeat (first | apply Kd.V_alloc | apply Kd.V_drewN | apply Kd.V_drew)); exact Kd.V_mono (Kd.V_far (p := ⟨gb199, 4, none⟩) (Kd.V_far (p := ⟨gb199, 3, none⟩) (Kd.V_far (p := ⟨gb199, 2, none⟩) (Kd.V_far (p := ⟨gb199, 1, none⟩) (Kd.V_far (p := ⟨gb199, 0, none⟩) (Kd.V_mono HO194.out (fun k_ hk => (⟨hk, hk.2⟩ : _ ∧ k_ ≠ gb199))) (fun _ hk => hk.2) (.int .i64 t189)) (fun _ hk => hk.2) (.string t190)) (fun _ hk => hk.2) (.string t191)) (fun _ hk => hk.2) (.slice Ao20 t192.length co20)) (fun _ hk => hk.2) (.slice Ao21 t195.length co21)) (fun _ hk => ⟨hk.1.1, hk.1.2⟩)⟩, ⟨by (with_reducible repeat (first | apply Kd.V_alloc | apply Kd.V_drewN | apply Kd.V_drew)); exact Kd.V_mono (Kd.V_far (p := ⟨gb199, 4, none⟩) (Kd.V_far (p := ⟨gb199, 3, none⟩) (Kd.V_far (p := ⟨gb199, 2, none⟩) (Kd.V_far (p := ⟨gb199, 1, none⟩) (Kd.V_far (p := ⟨gb199, 0, none⟩) (Kd.V_mono HO197.out (fun k_ hk => (⟨hk, hk.2⟩ : _ ∧ k_ ≠ gb199))) (fun _ hk => hk.2) (.int .i64 t189)) (fun _ hk => hk.2) (.string t190)) (fun _ hk => hk.2) (.string t191)) (fun _ hk => hk.2) (.slice Ao20 t192.length co20)) (fun _ hk => hk.2) (.slice Ao21 t195.length co21)) (fun _ hk => ⟨hk.1.1, hk.1.2⟩)⟩, ⟨by (with_reducible repeat (first | refine blk_drewN ?_ _ | refine blk_drew ?_ | refine blk_alloc ?_ _)); refine blk_far ?_ NB187_199.out _; (with_reducible repeat (first | refine blk_drewN ?_ _ | refine blk_drew ?_ | refine blk_alloc ?_ _)); refine blk_far ?_ NB187_199.out _; (with_reducible repeat (first | refine blk_drewN ?_ _ | refine blk_drew ?_ | refine blk_alloc ?_ _)); refine blk_far ?_ NB187_199.out _; (with_reducible repeat (first | refine blk_drewN ?_ _ | refine blk_drew ?_ | refine blk_alloc ?_ _)); refine blk_far ?_ NB187_199.out _; (with_reducible repeat (first | refine blk_drewN ?_ _ | refine blk_drew ?_ | refine blk_alloc ?_ _)); refine blk_far ?_ NB187_199.out _; (with_reducible repeat (first | refine blk_drewN ?_ _ | refine blk_drew ?_ | refine blk_alloc ?_ _)); exact BK187.out⟩, ⟨by (with_reducible repeat (first | refine blk_drewN ?_ _ | refine blk_drew ?_ | refine blk_alloc ?_ _)); refine blk_put (cs := #[.int .i64 t189, .string t190, .string t191, .slice Ao20 t192.length co20, .slice none 0 0]) ?_ 4 _ rfl; (with_reducible repeat (first | refine blk_drewN ?_ _ | refine blk_drew ?_ | refine blk_alloc ?_ _)); refine blk_put (cs := #[.int .i64 t189, .string t190, .string t191, .slice none 0 0, .slice none 0 0]) ?_ 3 _ rfl; (with_reducible repeat (first | refine blk_drewN ?_ _ | refine blk_drew ?_ | refine blk_alloc ?_ _)); refine blk_put (cs := #[.int .i64 t189, .string t190, .string (⟨#[]⟩ : ByteArray), .slice none 0 0, .slice none 0 0]) ?_ 2 _ rfl; (with_reducible repeat (first | refine blk_drewN ?_ _ | refine blk_drew ?_ | refine blk_alloc ?_ _)); refine blk_put (cs := #[.int .i64 t189, .string (⟨#[]⟩ : ByteArray), .string (⟨#[]⟩ : ByteArray), .slice none 0 0, .slice none 0 0]) ?_ 1 _ rfl; (with_reducible repeat (first | refine blk_drewN ?_ _ | refine blk_drew ?_ | refine blk_alloc ?_ _)); refine blk_put (cs := #[.int .i64 0, .string (⟨#[]⟩ : ByteArray), .string (⟨#[]⟩ : ByteArray), .slice none 0 0, .slice none 0 0]) ?_ 0 _ rfl; (with_reducible repeat (first | refine blk_drewN ?_ _ | refine blk_drew ?_ | refine blk_alloc ?_ _)); exact BK199.out⟩, ⟨by repeat (first | (with_reducible first | exact HB.out | apply below_alloc | apply pw_below_drewN | apply below_drew1 | refine below_set ?_ GE187.out | refine below_set ?_ GE199.out) | exact HB.out)⟩⟩
        case rest =>
          clear HC14
          try clear c1
          try clear c2
          try clear p2
          try clear c6
          try clear c7
          try clear c9
          try clear c12
          try clear c17
          try clear c18
          try clear c22
          try clear c24
          try clear hcz10_0
          try clear hcz10_1
          try clear hcz10_2
          try clear hcz10_3
          try clear hcz10_4
          try clear hcz15_0
          try clear hcz15_1
          try clear hcz15_2
          try clear hcz15_3
          try clear hcz15_4
          try clear hcz19_0
          try clear hcz19_1
          try clear hcz19_2
          try clear hcz19_3
          try clear hcz19_4
          try clear hcz25_0
          try clear hcz25_1
          try clear hcz25_2
          try clear hcz25_3
          try clear hcz25_4
          try clear hcz8_0
          try clear hcz8_1
          try clear hcz8_2
          try clear hcz8_3
          try clear hcz8_4
          try clear hfz10_0
          try clear hfz10_1
          try clear hfz10_2
          try clear hfz10_3
          try clear hfz10_4
          try clear hfz15_0
          try clear hfz15_1
          try clear hfz15_2
          try clear hfz15_3
          try clear hfz15_4
          try clear hfz19_0
          try clear hfz19_1
          try clear hfz19_2
          try clear hfz19_3
          try clear hfz19_4
          try clear hfz25_0
          try clear hfz25_1
          try clear hfz25_2
          try clear hfz25_3
          try clear hfz25_4
          try clear hfz8_0
          try clear hfz8_1
          try clear hfz8_2
          try clear hfz8_3
          try clear hfz8_4
          try clear p2
          obtain ⟨kq, x33_13, rfl, HA, HJ13, HO_200003, HO_200004, BK187, BK199, HB⟩ := hcut
          cases kq with
          | zero => exact absurd HA.out (by simp [laws_FnDomSibling.j1])
          | succ kj13 =>
            have H := HA.out
            clear HA
            simp only [laws_FnDomSibling.j1] at H
            by_cases c27 : x33_13 = true
            · subst c27
              have H1 : (some true) = some r := by rw [if_pos rfl] at H; exact H
              clear H
              have H := H1
              clear H1
              obtain rfl := Option.some.inj H
              go_wp2
              go_ret
              exact ⟨by first | rfl | (simp [errW_none, errW_some] <;> rfl) | (simp [*, errW_none, errW_some] <;> rfl), by repeat (first | (with_reducible first | exact HB.out | apply below_alloc | apply pw_below_drewN | apply below_drew1 | refine below_set ?_ GE187.out | refine below_set ?_ GE199.out) | exact HB.out)⟩
            · replace c27 := Bool.eq_false_iff.mpr c27
              subst c27
              have H1 : (if a2 = 8 then (laws_FnDomSibling.j2 kj13 l1 a2 a2 (a2 == 8) a0_0 a0_1 a0_2 l0_3 l0_4) else (laws_FnDomSibling.j2 kj13 l1 a2 a2 (a2 == 9) a0_0 a0_1 a0_2 l0_3 l0_4)) = some r := by rw [if_neg (show ¬ (false = true) by decide)] at H; exact H
              clear H
              have H := H1
              clear H1
              have HC28 := Aside0.mk H
              clear H
              go_upto_if 35 with (fail)
              go_cut [35] (fun v35 wc => ∃ (kq : Nat) (x35_27 : Bool), v35 = .bool x35_27 ∧ Aside0 (laws_FnDomSibling.j2 kq l1 a2 a2 x35_27 a0_0 a0_1 a0_2 l0_3 l0_4 = some r) ∧ Aside0 (kq ≤ kj13) ∧ Aside0 (Kd.V k78 78 wc w.heap.size (fun k_ => k_ ≠ gb187 ∧ k_ ≠ gb199) (.slice Ao20 t192.length co20) t192) ∧ Aside0 (Kd.V k25 25 wc w.heap.size (fun k_ => k_ ≠ gb187 ∧ k_ ≠ gb199) (.slice Ao21 t195.length co21) t195) ∧ Aside0 (wc.heap[gb187]? = some (.cells #[.int .i64 a0_0, .string a0_1, .string a0_2, (.slice A0_3 l0_3.length c0_3), (.slice A0_4 l0_4.length c0_4)] 25 (0, 0))) ∧ Aside0 (wc.heap[gb199]? = some (.cells #[.int .i64 t189, .string t190, .string t191, (.slice Ao20 t192.length co20), (.slice Ao21 t195.length co21)] 25 (0, 0))) ∧ Aside0 (Below w.heap.size w wc))
              case first =>
                have H := HC28.out
                clear HC28
                by_cases c29 : a2 = 8
                · rw [if_pos c29] at H
                  have c29b0 : (a2 == 8) = true := beq_iff_eq.mpr c29
                  have c29b1 : (a2 != 8) = false := bne_eq_false_iff_eq.mpr c29
                  clear c29
                  (first | rw [c29b0] | (simp only [i64_w, i32_w]; rw [c29b0]) | skip)
                  have H' := Aside0.mk H
                  clear H
                  go_wp2
                  go_meet
                  case rel => exact ⟨_, ((a2 == 8)), (by first | rfl | (simp; done) | (simp [*]; done)), H', ⟨by have := HJ3.out; have := HJ13.out; first | omega | exact Nat.le_refl _⟩, ⟨by (with_reducible repeat (first | apply Kd.V_alloc | apply Kd.V_drewN | apply Kd.V_drew)); exact HO_200003.out⟩, ⟨by (with_reducible repeat (first | apply Kd.V_alloc | apply Kd.V_drewN | apply Kd.V_drew)); exact HO_200004.out⟩, ⟨by (with_reducible repeat (first | refine blk_drewN ?_ _ | refine blk_drew ?_ | refine blk_alloc ?_ _)); exact BK187.out⟩, ⟨by (with_reducible repeat (first | refine blk_drewN ?_ _ | refine blk_drew ?_ | refine blk_alloc ?_ _)); exact BK199.out⟩, ⟨by repeat (first | (with_reducible first | exact HB.out | apply below_alloc | apply pw_below_drewN | apply below_drew1 | refine below_set ?_ GE187.out | refine below_set ?_ GE199.out) | exact HB.out)⟩⟩
                · rw [if_neg c29] at H
                  have c29b0 : (a2 == 8) = false := beq_eq_false_iff_ne.mpr c29
                  have c29b1 : (a2 != 8) = true := bne_iff_ne.mpr c29
                  (first | rw [c29b0] | (simp only [i64_w, i32_w]; rw [c29b0]) | skip)
                  have H' := Aside0.mk H
                  clear H
                  go_wp2
                  go_meet
                  case rel => exact ⟨_, ((a2 == 9)), (by first | rfl | (simp; done) | (simp [*]; done)), H', ⟨by have := HJ3.out; have := HJ13.out; first | omega | exact Nat.le_refl _⟩, ⟨by (with_reducible repeat (first | apply Kd.V_alloc | apply Kd.V_drewN | apply Kd.V_drew)); exact HO_200003.out⟩, ⟨by (with_reducible repeat (first | apply Kd.V_alloc | apply Kd.V_drewN | apply Kd.V_drew)); exact HO_200004.out⟩, ⟨by (with_reducible repeat (first | refine blk_drewN ?_ _ | refine blk_drew ?_ | refine blk_alloc ?_ _)); exact BK187.out⟩, ⟨by (with_reducible repeat (first | refine blk_drewN ?_ _ | refine blk_drew ?_ | refine blk_alloc ?_ _)); exact BK199.out⟩, ⟨by repeat (first | (with_reducible first | exact HB.out | apply below_alloc | apply pw_below_drewN | apply below_drew1 | refine below_set ?_ GE187.out | refine below_set ?_ GE199.out) | exact HB.out)⟩⟩
              case rest =>
                clear HC28
                try clear c1
                try clear c2
                try clear p2
                try clear c6
                try clear c7
                try clear c9
                try clear c12
                try clear c17
                try clear c18
                try clear c22
                try clear c24
                try clear c27
                try clear c29
                try clear c29b0
                try clear c29b1
                try clear hcz10_0
                try clear hcz10_1
                try clear hcz10_2
                try clear hcz10_3
                try clear hcz10_4
                try clear hcz15_0
                try clear hcz15_1
                try clear hcz15_2
                try clear hcz15_3
                try clear hcz15_4
                try clear hcz19_0
                try clear hcz19_1
                try clear hcz19_2
                try clear hcz19_3
                try clear hcz19_4
                try clear hcz25_0
                try clear hcz25_1
                try clear hcz25_2
                try clear hcz25_3
                try clear hcz25_4
                try clear hcz8_0
                try clear hcz8_1
                try clear hcz8_2
                try clear hcz8_3
                try clear hcz8_4
                try clear hfz10_0
                try clear hfz10_1
                try clear hfz10_2
                try clear hfz10_3
                try clear hfz10_4
                try clear hfz15_0
                try clear hfz15_1
                try clear hfz15_2
                try clear hfz15_3
                try clear hfz15_4
                try clear hfz19_0
                try clear hfz19_1
                try clear hfz19_2
                try clear hfz19_3
                try clear hfz19_4
                try clear hfz25_0
                try clear hfz25_1
                try clear hfz25_2
                try clear hfz25_3
                try clear hfz25_4
                try clear hfz8_0
                try clear hfz8_1
                try clear hfz8_2
                try clear hfz8_3
                try clear hfz8_4
                try clear p2
                obtain ⟨kq, x35_27, rfl, HA, HJ27, HO_200003, HO_200004, BK187, BK199, HB⟩ := hcut
                cases kq with
                | zero => exact absurd HA.out (by simp [laws_FnDomSibling.j2])
                | succ kj27 =>
                  have H := HA.out
                  clear HA
                  simp only [laws_FnDomSibling.j2] at H
                  by_cases c30 : x35_27 = true
                  · subst c30
                    have H1 : ((spec_First29.f kj27 a0_0 a0_1 a0_2 l0_3 l0_4 l1 (a2 == 9)).bind fun bt201 => ((impl_Neighbor.f kj27 a0_0 a0_1 a0_2 l0_3 l0_4 l1 a2).bind fun bt205 => (if (bt205.2 == bt201.2) = true then (if bt205.2 = true then ((laws_path29.f kj27 bt205.1 bt201.1).bind fun t209 => (if t209 = true then ((laws_living29.f kj27).bind fun t210 => (some t210)) else (some false))) else ((laws_living29.f kj27).bind fun t211 => (some t211))) else (some false)))) = some r := by rw [if_pos rfl] at H; exact H
                    clear H
                    have H := H1
                    clear H1
                    replace H := Option.bind_eq_some_iff.mp H
                    obtain ⟨⟨t201, t204⟩, A310, H⟩ := H
                    replace H : ((impl_Neighbor.f kj27 a0_0 a0_1 a0_2 l0_3 l0_4 l1 a2).bind fun bt205 => (if (bt205.2 == t204) = true then (if bt205.2 = true then ((laws_path29.f kj27 bt205.1 t201).bind fun t209 => (if t209 = true then ((laws_living29.f kj27).bind fun t210 => (some t210)) else (some false))) else ((laws_living29.f kj27).bind fun t211 => (some t211))) else (some false))) = some r := H
                    have A31 := Aside0.mk A310
                    clear A310
                    replace H := Option.bind_eq_some_iff.mp H
                    obtain ⟨⟨t205, t208⟩, A320, H⟩ := H
                    replace H : (if (t208 == t204) = true then (if t208 = true then ((laws_path29.f kj27 t205 t201).bind fun t209 => (if t209 = true then ((laws_living29.f kj27).bind fun t210 => (some t210)) else (some false))) else ((laws_living29.f kj27).bind fun t211 => (some t211))) else (some false)) = some r := H
                    have A32 := Aside0.mk A320
                    clear A320
                    by_cases c33 : (t208 == t204) = true
                    · rw [if_pos c33] at H
                      have c33b0 : (t208 == t204) = true := c33
                      (try (have c33b1 : decide (t208 = t204) = true := by simpa using c33))
                      (try (have c33b2 : (t208 == t204) = true := by simpa using c33))
                      clear c33
                      by_cases c34 : t208 = true
                      · subst c34
                        have H1 : ((laws_path29.f kj27 t205 t201).bind fun t209 => (if t209 = true then ((laws_living29.f kj27).bind fun t210 => (some t210)) else (some false))) = some r := by rw [if_pos rfl] at H; exact H
                        clear H
                        have H := H1
                        clear H1
                        replace H := Option.bind_eq_some_iff.mp H
                        obtain ⟨t209, A350, H⟩ := H
                        replace H : (if t209 = true then ((laws_living29.f kj27).bind fun t210 => (some t210)) else (some false)) = some r := H
                        have A35 := Aside0.mk A350
                        clear A350
                        by_cases c36 : t209 = true
                        · subst c36
                          have H1 : ((laws_living29.f kj27).bind fun t210 => (some t210)) = some r := by rw [if_pos rfl] at H; exact H
                          clear H
                          have H := H1
                          clear H1
                          replace H := Option.bind_eq_some_iff.mp H
                          obtain ⟨t210, A370, H⟩ := H
                          replace H : (some t210) = some r := H
                          have A37 := Aside0.mk A370
                          clear A370
                          obtain rfl := Option.some.inj H
                          have hnb38 := NB187_199.out
                          have hnc38 := NB199_187.out
                          have hcz39_0 : wc.cell? ⟨gb187, 0, none⟩ = some (.int .i64 a0_0) := (blk_cell BK187.out 0).trans rfl
                          have hcz39_1 : wc.cell? ⟨gb187, 1, none⟩ = some (.string a0_1) := (blk_cell BK187.out 1).trans rfl
                          have hcz39_2 : wc.cell? ⟨gb187, 2, none⟩ = some (.string a0_2) := (blk_cell BK187.out 2).trans rfl
                          have hcz39_3 : wc.cell? ⟨gb187, 3, none⟩ = some (.slice A0_3 l0_3.length c0_3) := (blk_cell BK187.out 3).trans rfl
                          have hcz39_4 : wc.cell? ⟨gb187, 4, none⟩ = some (.slice A0_4 l0_4.length c0_4) := (blk_cell BK187.out 4).trans rfl
                          have hfz39_0 := blk_frozen BK187.out 0
                          have hfz39_1 := blk_frozen BK187.out 1
                          have hfz39_2 := blk_frozen BK187.out 2
                          have hfz39_3 := blk_frozen BK187.out 3
                          have hfz39_4 := blk_frozen BK187.out 4
                          go_wp2_with (first | ((with_reducible refine gate_callee (f := 24) rfl ?_); refine goesL_ (some 43) rfl rfl Try.func24 (by kernel_rfl) rfl #[.agg #[.int .i64 a0_0, .string a0_1, .string a0_2, .slice A0_3 l0_3.length c0_3, .slice A0_4 l0_4.length c0_4], .slice A1 l1.length c1, .bool (a2 == 9)] rfl (by (try simp only [List.map_toArray, List.map_cons, List.map_nil]); first | done | rfl | (simp only [List.length_drop, List.length_take]; rfl)) ?_; (with_reducible refine (spec_First29.calls kj27 a0_0 a0_1 a0_2 _ _ l0_3 _ _ l0_4 _ _ l1 (a2 == 9) t201 t204 _ ?side1 ?side2 ?side3 ?side4 ?side5 ?side6 A31.out).mono ?_); (case side1 => repeat (first | exact (Kd.C_below HR0_3.out HB.out) | (with_reducible refine Kd.C_alloc ?_ _) | (with_reducible refine Kd.C_drewN ?_ _) | (with_reducible refine Kd.C_drew ?_))); (case side2 => exact HC0_3.out); (case side3 => repeat (first | exact (Kd.C_below HR0_4.out HB.out) | (with_reducible refine Kd.C_alloc ?_ _) | (with_reducible refine Kd.C_drewN ?_ _) | (with_reducible refine Kd.C_drew ?_))); (case side4 => exact HC0_4.out); (case side5 => repeat (first | exact (Kd.C_below HR1.out HB.out) | (with_reducible refine Kd.C_alloc ?_ _) | (with_reducible refine Kd.C_drewN ?_ _) | (with_reducible refine Kd.C_drew ?_))); (case side6 => exact HC1.out); rintro e w40 ⟨v202, rfl, ho0, hb⟩; refine ⟨_, rfl, ?_⟩; have n0_ := Aside0.mk (Kd.V_elder' (by (with_reducible repeat (first | apply Kd.V_alloc | apply Kd.V_drewN | apply Kd.V_drew)); exact HO_200003.out) (Kd.R_base ho0) hb); have n1_ := Aside0.mk (Kd.V_elder' (by (with_reducible repeat (first | apply Kd.V_alloc | apply Kd.V_drewN | apply Kd.V_drew)); exact HO_200004.out) (Kd.R_base ho0) hb); have n2_ := Aside0.mk (Kd.R_lower ho0 (below_size (by repeat (first | (with_reducible first | exact HB.out | apply below_alloc | apply pw_below_drewN | apply below_drew1 | refine below_set ?_ GE187.out | refine below_set ?_ GE199.out) | exact HB.out)))); have n3_ := Aside0.mk (blk_below (g := gb187) (o := .cells #[.int .i64 a0_0, .string a0_1, .string a0_2, .slice A0_3 l0_3.length c0_3, .slice A0_4 l0_4.length c0_4] 25 (0, 0)) (by (with_reducible repeat (first | refine blk_drewN ?_ _ | refine blk_drew ?_ | refine blk_alloc ?_ _)); exact BK187.out) hb); have n4_ := Aside0.mk (blk_below (g := gb199) (o := .cells #[.int .i64 t189, .string t190, .string t191, .slice Ao20 t192.length co20, .slice Ao21 t195.length co21] 25 (0, 0)) (by (with_reducible repeat (first | refine blk_drewN ?_ _ | refine blk_drew ?_ | refine blk_alloc ?_ _)); exact BK199.out) hb); have n5_ := Aside0.mk (below_step (by repeat (first | (with_reducible first | exact HB.out | apply below_alloc | apply pw_below_drewN | apply below_drew1 | refine below_set ?_ GE187.out | refine below_set ?_ GE199.out) | exact HB.out)) hb); clear HO_200003; clear HO_200004; clear BK187; clear BK199; clear HB; have HO_200003 := n0_; have HO_200004 := n1_; have HO203 := n2_; have BK187 := n3_; have BK199 := n4_; have HB := n5_; clear n0_ n1_ n2_ n3_ n4_ n5_; (try clear hb); (try clear hb2); (try clear hk); (try clear hi); (try clear ho0); have hcz41_0 : w40.cell? ⟨gb187, 0, none⟩ = some (.int .i64 a0_0) := (blk_cell BK187.out 0).trans rfl; have hcz41_1 : w40.cell? ⟨gb187, 1, none⟩ = some (.string a0_1) := (blk_cell BK187.out 1).trans rfl; have hcz41_2 : w40.cell? ⟨gb187, 2, none⟩ = some (.string a0_2) := (blk_cell BK187.out 2).trans rfl; have hcz41_3 : w40.cell? ⟨gb187, 3, none⟩ = some (.slice A0_3 l0_3.length c0_3) := (blk_cell BK187.out 3).trans rfl; have hcz41_4 : w40.cell? ⟨gb187, 4, none⟩ = some (.slice A0_4 l0_4.length c0_4) := (blk_cell BK187.out 4).trans rfl; have hfz41_0 := blk_frozen BK187.out 0; have hfz41_1 := blk_frozen BK187.out 1; have hfz41_2 := blk_frozen BK187.out 2; have hfz41_3 := blk_frozen BK187.out 3; have hfz41_4 := blk_frozen BK187.out 4) | ((with_reducible refine gate_callee (f := 26) rfl ?_); refine goesL_ (some 72) rfl rfl Try.func26 (by kernel_rfl) rfl #[.agg #[.int .i64 a0_0, .string a0_1, .string a0_2, .slice A0_3 l0_3.length c0_3, .slice A0_4 l0_4.length c0_4], .slice A1 l1.length c1, .int .i64 a2] rfl (by (try simp only [List.map_toArray, List.map_cons, List.map_nil]); first | done | rfl | (simp only [List.length_drop, List.length_take]; rfl)) ?_; (with_reducible refine (impl_Neighbor.calls kj27 a0_0 a0_1 a0_2 _ _ l0_3 _ _ l0_4 _ _ l1 a2 t205 true _ ?side1 ?side2 ?side3 ?side4 ?side5 ?side6 A32.out).mono ?_); (case side1 => repeat (first | exact (Kd.C_below HR0_3.out HB.out) | (with_reducible refine Kd.C_alloc ?_ _) | (with_reducible refine Kd.C_drewN ?_ _) | (with_reducible refine Kd.C_drew ?_))); (case side2 => exact HC0_3.out); (case side3 => repeat (first | exact (Kd.C_below HR0_4.out HB.out) | (with_reducible refine Kd.C_alloc ?_ _) | (with_reducible refine Kd.C_drewN ?_ _) | (with_reducible refine Kd.C_drew ?_))); (case side4 => exact HC0_4.out); (case side5 => repeat (first | exact (Kd.C_below HR1.out HB.out) | (with_reducible refine Kd.C_alloc ?_ _) | (with_reducible refine Kd.C_drewN ?_ _) | (with_reducible refine Kd.C_drew ?_))); (case side6 => exact HC1.out); rintro e w42 ⟨v206, rfl, ho0, hb⟩; refine ⟨_, rfl, ?_⟩; have n0_ := Aside0.mk (Kd.V_elder' (by (with_reducible repeat (first | apply Kd.V_alloc | apply Kd.V_drewN | apply Kd.V_drew)); exact HO_200003.out) (Kd.R_base ho0) hb); have n1_ := Aside0.mk (Kd.V_elder' (by (with_reducible repeat (first | apply Kd.V_alloc | apply Kd.V_drewN | apply Kd.V_drew)); exact HO_200004.out) (Kd.R_base ho0) hb); have n2_ := Aside0.mk (Kd.R_elder' (by (with_reducible repeat (first | apply Kd.R_alloc | apply Kd.R_drewN | apply Kd.R_drew)); exact HO203.out) (Kd.R_base ho0) hb); have n3_ := Aside0.mk (Kd.R_lower (Kd.R_new' ho0 (Kd.R_lt (by (with_reducible repeat (first | apply Kd.R_alloc | apply Kd.R_drewN | apply Kd.R_drew)); exact HO203.out))) (below_size (by repeat (first | (with_reducible first | exact HB.out | apply below_alloc | apply pw_below_drewN | apply below_drew1 | refine below_set ?_ GE187.out | refine below_set ?_ GE199.out) | exact HB.out)))); have n4_ := Aside0.mk (blk_below (g := gb187) (o := .cells #[.int .i64 a0_0, .string a0_1, .string a0_2, .slice A0_3 l0_3.length c0_3, .slice A0_4 l0_4.length c0_4] 25 (0, 0)) (by (with_reducible repeat (first | refine blk_drewN ?_ _ | refine blk_drew ?_ | refine blk_alloc ?_ _)); exact BK187.out) hb); have n5_ := Aside0.mk (blk_below (g := gb199) (o := .cells #[.int .i64 t189, .string t190, .string t191, .slice Ao20 t192.length co20, .slice Ao21 t195.length co21] 25 (0, 0)) (by (with_reducible repeat (first | refine blk_drewN ?_ _ | refine blk_drew ?_ | refine blk_alloc ?_ _)); exact BK199.out) hb); have n6_ := Aside0.mk (below_step (by repeat (first | (with_reducible first | exact HB.out | apply below_alloc | apply pw_below_drewN | apply below_drew1 | refine below_set ?_ GE187.out | refine below_set ?_ GE199.out) | exact HB.out)) hb); clear HO_200003; clear HO_200004; clear HO203; clear BK187; clear BK199; clear HB; have HO_200003 := n0_; have HO_200004 := n1_; have HO203 := n2_; have HO207 := n3_; have BK187 := n4_; have BK199 := n5_; have HB := n6_; clear n0_ n1_ n2_ n3_ n4_ n5_ n6_; (try clear hb); (try clear hb2); (try clear hk); (try clear hi); (try clear ho0); obtain ⟨Ao43, co43, eo43⟩ := Kd.R_slice HO207.out; subst eo43; obtain ⟨Ao44, co44, eo44⟩ := Kd.R_slice HO203.out; subst eo44) | (go_at_call 22; (with_reducible refine (laws_path29.calls kj27 _ _ t205 _ _ t201 true _ ?side1 ?side2 ?side3 ?side4 A35.out).mono ?_); (case side1 => repeat (first | exact (Kd.R_reads' HO207.out).2.2 | (with_reducible refine Kd.C_alloc ?_ _) | (with_reducible refine Kd.C_drewN ?_ _) | (with_reducible refine Kd.C_drew ?_))); (case side2 => exact (Kd.R_reads' HO207.out).2.1); (case side3 => repeat (first | exact (Kd.R_reads' HO203.out).2.2 | (with_reducible refine Kd.C_alloc ?_ _) | (with_reducible refine Kd.C_drewN ?_ _) | (with_reducible refine Kd.C_drew ?_))); (case side4 => exact (Kd.R_reads' HO203.out).2.1); rintro e w' ⟨rfl, ⟨nd, rfl⟩⟩) | (go_at_call 23; (with_reducible refine (laws_living29.calls kj27  t210 _ A37.out).mono ?_); rintro e w45 ⟨rfl, hb⟩; have n0_ := Aside0.mk (Kd.V_below (by (with_reducible repeat (first | apply Kd.V_alloc | apply Kd.V_drewN | apply Kd.V_drew)); exact HO_200003.out) hb); have n1_ := Aside0.mk (Kd.V_below (by (with_reducible repeat (first | apply Kd.V_alloc | apply Kd.V_drewN | apply Kd.V_drew)); exact HO_200004.out) hb); have n2_ := Aside0.mk (Kd.R_below (by (with_reducible repeat (first | apply Kd.R_alloc | apply Kd.R_drewN | apply Kd.R_drew)); exact HO203.out) hb); have n3_ := Aside0.mk (Kd.R_below (by (with_reducible repeat (first | apply Kd.R_alloc | apply Kd.R_drewN | apply Kd.R_drew)); exact HO207.out) hb); have n4_ := Aside0.mk (blk_below (g := gb187) (o := .cells #[.int .i64 a0_0, .string a0_1, .string a0_2, .slice A0_3 l0_3.length c0_3, .slice A0_4 l0_4.length c0_4] 25 (0, 0)) (by (with_reducible repeat (first | refine blk_drewN ?_ _ | refine blk_drew ?_ | refine blk_alloc ?_ _)); exact BK187.out) hb); have n5_ := Aside0.mk (blk_below (g := gb199) (o := .cells #[.int .i64 t189, .string t190, .string t191, .slice Ao20 t192.length co20, .slice Ao21 t195.length co21] 25 (0, 0)) (by (with_reducible repeat (first | refine blk_drewN ?_ _ | refine blk_drew ?_ | refine blk_alloc ?_ _)); exact BK199.out) hb); have n6_ := Aside0.mk (below_step (by repeat (first | (with_reducible first | exact HB.out | apply below_alloc | apply pw_below_drewN | apply below_drew1 | refine below_set ?_ GE187.out | refine below_set ?_ GE199.out) | exact HB.out)) hb); clear HO_200003; clear HO_200004; clear HO203; clear HO207; clear BK187; clear BK199; clear HB; have HO_200003 := n0_; have HO_200004 := n1_; have HO203 := n2_; have HO207 := n3_; have BK187 := n4_; have BK199 := n5_; have HB := n6_; clear n0_ n1_ n2_ n3_ n4_ n5_ n6_; (try clear hb); (try clear hb2); (try clear hk); (try clear hi)))
                          go_ret
                          exact ⟨by first | rfl | (simp [errW_none, errW_some] <;> rfl) | (simp [*, errW_none, errW_some] <;> rfl), by repeat (first | (with_reducible first | exact HB.out | apply below_alloc | apply pw_below_drewN | apply below_drew1 | refine below_set ?_ GE187.out | refine below_set ?_ GE199.out) | exact HB.out)⟩
                        · replace c36 := Bool.eq_false_iff.mpr c36
                          subst c36
                          have H1 : (some false) = some r := by rw [if_neg (show ¬ (false = true) by decide)] at H; exact H
                          clear H
                          have H := H1
                          clear H1
                          obtain rfl := Option.some.inj H
                          have hnb46 := NB187_199.out
                          have hnc46 := NB199_187.out
                          have hcz47_0 : wc.cell? ⟨gb187, 0, none⟩ = some (.int .i64 a0_0) := (blk_cell BK187.out 0).trans rfl
                          have hcz47_1 : wc.cell? ⟨gb187, 1, none⟩ = some (.string a0_1) := (blk_cell BK187.out 1).trans rfl
                          have hcz47_2 : wc.cell? ⟨gb187, 2, none⟩ = some (.string a0_2) := (blk_cell BK187.out 2).trans rfl
                          have hcz47_3 : wc.cell? ⟨gb187, 3, none⟩ = some (.slice A0_3 l0_3.length c0_3) := (blk_cell BK187.out 3).trans rfl
                          have hcz47_4 : wc.cell? ⟨gb187, 4, none⟩ = some (.slice A0_4 l0_4.length c0_4) := (blk_cell BK187.out 4).trans rfl
                          have hfz47_0 := blk_frozen BK187.out 0
                          have hfz47_1 := blk_frozen BK187.out 1
                          have hfz47_2 := blk_frozen BK187.out 2
                          have hfz47_3 := blk_frozen BK187.out 3
                          have hfz47_4 := blk_frozen BK187.out 4
                          go_wp2_with (first | ((with_reducible refine gate_callee (f := 24) rfl ?_); refine goesL_ (some 43) rfl rfl Try.func24 (by kernel_rfl) rfl #[.agg #[.int .i64 a0_0, .string a0_1, .string a0_2, .slice A0_3 l0_3.length c0_3, .slice A0_4 l0_4.length c0_4], .slice A1 l1.length c1, .bool (a2 == 9)] rfl (by (try simp only [List.map_toArray, List.map_cons, List.map_nil]); first | done | rfl | (simp only [List.length_drop, List.length_take]; rfl)) ?_; (with_reducible refine (spec_First29.calls kj27 a0_0 a0_1 a0_2 _ _ l0_3 _ _ l0_4 _ _ l1 (a2 == 9) t201 t204 _ ?side1 ?side2 ?side3 ?side4 ?side5 ?side6 A31.out).mono ?_); (case side1 => repeat (first | exact (Kd.C_below HR0_3.out HB.out) | (with_reducible refine Kd.C_alloc ?_ _) | (with_reducible refine Kd.C_drewN ?_ _) | (with_reducible refine Kd.C_drew ?_))); (case side2 => exact HC0_3.out); (case side3 => repeat (first | exact (Kd.C_below HR0_4.out HB.out) | (with_reducible refine Kd.C_alloc ?_ _) | (with_reducible refine Kd.C_drewN ?_ _) | (with_reducible refine Kd.C_drew ?_))); (case side4 => exact HC0_4.out); (case side5 => repeat (first | exact (Kd.C_below HR1.out HB.out) | (with_reducible refine Kd.C_alloc ?_ _) | (with_reducible refine Kd.C_drewN ?_ _) | (with_reducible refine Kd.C_drew ?_))); (case side6 => exact HC1.out); rintro e w48 ⟨v202, rfl, ho0, hb⟩; refine ⟨_, rfl, ?_⟩; have n0_ := Aside0.mk (Kd.V_elder' (by (with_reducible repeat (first | apply Kd.V_alloc | apply Kd.V_drewN | apply Kd.V_drew)); exact HO_200003.out) (Kd.R_base ho0) hb); have n1_ := Aside0.mk (Kd.V_elder' (by (with_reducible repeat (first | apply Kd.V_alloc | apply Kd.V_drewN | apply Kd.V_drew)); exact HO_200004.out) (Kd.R_base ho0) hb); have n2_ := Aside0.mk (Kd.R_lower ho0 (below_size (by repeat (first | (with_reducible first | exact HB.out | apply below_alloc | apply pw_below_drewN | apply below_drew1 | refine below_set ?_ GE187.out | refine below_set ?_ GE199.out) | exact HB.out)))); have n3_ := Aside0.mk (blk_below (g := gb187) (o := .cells #[.int .i64 a0_0, .string a0_1, .string a0_2, .slice A0_3 l0_3.length c0_3, .slice A0_4 l0_4.length c0_4] 25 (0, 0)) (by (with_reducible repeat (first | refine blk_drewN ?_ _ | refine blk_drew ?_ | refine blk_alloc ?_ _)); exact BK187.out) hb); have n4_ := Aside0.mk (blk_below (g := gb199) (o := .cells #[.int .i64 t189, .string t190, .string t191, .slice Ao20 t192.length co20, .slice Ao21 t195.length co21] 25 (0, 0)) (by (with_reducible repeat (first | refine blk_drewN ?_ _ | refine blk_drew ?_ | refine blk_alloc ?_ _)); exact BK199.out) hb); have n5_ := Aside0.mk (below_step (by repeat (first | (with_reducible first | exact HB.out | apply below_alloc | apply pw_below_drewN | apply below_drew1 | refine below_set ?_ GE187.out | refine below_set ?_ GE199.out) | exact HB.out)) hb); clear HO_200003; clear HO_200004; clear BK187; clear BK199; clear HB; have HO_200003 := n0_; have HO_200004 := n1_; have HO203 := n2_; have BK187 := n3_; have BK199 := n4_; have HB := n5_; clear n0_ n1_ n2_ n3_ n4_ n5_; (try clear hb); (try clear hb2); (try clear hk); (try clear hi); (try clear ho0); have hcz49_0 : w48.cell? ⟨gb187, 0, none⟩ = some (.int .i64 a0_0) := (blk_cell BK187.out 0).trans rfl; have hcz49_1 : w48.cell? ⟨gb187, 1, none⟩ = some (.string a0_1) := (blk_cell BK187.out 1).trans rfl; have hcz49_2 : w48.cell? ⟨gb187, 2, none⟩ = some (.string a0_2) := (blk_cell BK187.out 2).trans rfl; have hcz49_3 : w48.cell? ⟨gb187, 3, none⟩ = some (.slice A0_3 l0_3.length c0_3) := (blk_cell BK187.out 3).trans rfl; have hcz49_4 : w48.cell? ⟨gb187, 4, none⟩ = some (.slice A0_4 l0_4.length c0_4) := (blk_cell BK187.out 4).trans rfl; have hfz49_0 := blk_frozen BK187.out 0; have hfz49_1 := blk_frozen BK187.out 1; have hfz49_2 := blk_frozen BK187.out 2; have hfz49_3 := blk_frozen BK187.out 3; have hfz49_4 := blk_frozen BK187.out 4) | ((with_reducible refine gate_callee (f := 26) rfl ?_); refine goesL_ (some 72) rfl rfl Try.func26 (by kernel_rfl) rfl #[.agg #[.int .i64 a0_0, .string a0_1, .string a0_2, .slice A0_3 l0_3.length c0_3, .slice A0_4 l0_4.length c0_4], .slice A1 l1.length c1, .int .i64 a2] rfl (by (try simp only [List.map_toArray, List.map_cons, List.map_nil]); first | done | rfl | (simp only [List.length_drop, List.length_take]; rfl)) ?_; (with_reducible refine (impl_Neighbor.calls kj27 a0_0 a0_1 a0_2 _ _ l0_3 _ _ l0_4 _ _ l1 a2 t205 true _ ?side1 ?side2 ?side3 ?side4 ?side5 ?side6 A32.out).mono ?_); (case side1 => repeat (first | exact (Kd.C_below HR0_3.out HB.out) | (with_reducible refine Kd.C_alloc ?_ _) | (with_reducible refine Kd.C_drewN ?_ _) | (with_reducible refine Kd.C_drew ?_))); (case side2 => exact HC0_3.out); (case side3 => repeat (first | exact (Kd.C_below HR0_4.out HB.out) | (with_reducible refine Kd.C_alloc ?_ _) | (with_reducible refine Kd.C_drewN ?_ _) | (with_reducible refine Kd.C_drew ?_))); (case side4 => exact HC0_4.out); (case side5 => repeat (first | exact (Kd.C_below HR1.out HB.out) | (with_reducible refine Kd.C_alloc ?_ _) | (with_reducible refine Kd.C_drewN ?_ _) | (with_reducible refine Kd.C_drew ?_))); (case side6 => exact HC1.out); rintro e w50 ⟨v206, rfl, ho0, hb⟩; refine ⟨_, rfl, ?_⟩; have n0_ := Aside0.mk (Kd.V_elder' (by (with_reducible repeat (first | apply Kd.V_alloc | apply Kd.V_drewN | apply Kd.V_drew)); exact HO_200003.out) (Kd.R_base ho0) hb); have n1_ := Aside0.mk (Kd.V_elder' (by (with_reducible repeat (first | apply Kd.V_alloc | apply Kd.V_drewN | apply Kd.V_drew)); exact HO_200004.out) (Kd.R_base ho0) hb); have n2_ := Aside0.mk (Kd.R_elder' (by (with_reducible repeat (first | apply Kd.R_alloc | apply Kd.R_drewN | apply Kd.R_drew)); exact HO203.out) (Kd.R_base ho0) hb); have n3_ := Aside0.mk (Kd.R_lower (Kd.R_new' ho0 (Kd.R_lt (by (with_reducible repeat (first | apply Kd.R_alloc | apply Kd.R_drewN | apply Kd.R_drew)); exact HO203.out))) (below_size (by repeat (first | (with_reducible first | exact HB.out | apply below_alloc | apply pw_below_drewN | apply below_drew1 | refine below_set ?_ GE187.out | refine below_set ?_ GE199.out) | exact HB.out)))); have n4_ := Aside0.mk (blk_below (g := gb187) (o := .cells #[.int .i64 a0_0, .string a0_1, .string a0_2, .slice A0_3 l0_3.length c0_3, .slice A0_4 l0_4.length c0_4] 25 (0, 0)) (by (with_reducible repeat (first | refine blk_drewN ?_ _ | refine blk_drew ?_ | refine blk_alloc ?_ _)); exact BK187.out) hb); have n5_ := Aside0.mk (blk_below (g := gb199) (o := .cells #[.int .i64 t189, .string t190, .string t191, .slice Ao20 t192.length co20, .slice Ao21 t195.length co21] 25 (0, 0)) (by (with_reducible repeat (first | refine blk_drewN ?_ _ | refine blk_drew ?_ | refine blk_alloc ?_ _)); exact BK199.out) hb); have n6_ := Aside0.mk (below_step (by repeat (first | (with_reducible first | exact HB.out | apply below_alloc | apply pw_below_drewN | apply below_drew1 | refine below_set ?_ GE187.out | refine below_set ?_ GE199.out) | exact HB.out)) hb); clear HO_200003; clear HO_200004; clear HO203; clear BK187; clear BK199; clear HB; have HO_200003 := n0_; have HO_200004 := n1_; have HO203 := n2_; have HO207 := n3_; have BK187 := n4_; have BK199 := n5_; have HB := n6_; clear n0_ n1_ n2_ n3_ n4_ n5_ n6_; (try clear hb); (try clear hb2); (try clear hk); (try clear hi); (try clear ho0); obtain ⟨Ao51, co51, eo51⟩ := Kd.R_slice HO207.out; subst eo51; obtain ⟨Ao52, co52, eo52⟩ := Kd.R_slice HO203.out; subst eo52) | (go_at_call 22; (with_reducible refine (laws_path29.calls kj27 _ _ t205 _ _ t201 false _ ?side1 ?side2 ?side3 ?side4 A35.out).mono ?_); (case side1 => repeat (first | exact (Kd.R_reads' HO207.out).2.2 | (with_reducible refine Kd.C_alloc ?_ _) | (with_reducible refine Kd.C_drewN ?_ _) | (with_reducible refine Kd.C_drew ?_))); (case side2 => exact (Kd.R_reads' HO207.out).2.1); (case side3 => repeat (first | exact (Kd.R_reads' HO203.out).2.2 | (with_reducible refine Kd.C_alloc ?_ _) | (with_reducible refine Kd.C_drewN ?_ _) | (with_reducible refine Kd.C_drew ?_))); (case side4 => exact (Kd.R_reads' HO203.out).2.1); rintro e w' ⟨rfl, ⟨nd, rfl⟩⟩))
                          go_ret
                          exact ⟨by first | rfl | (simp [errW_none, errW_some] <;> rfl) | (simp [*, errW_none, errW_some] <;> rfl), by repeat (first | (with_reducible first | exact HB.out | apply below_alloc | apply pw_below_drewN | apply below_drew1 | refine below_set ?_ GE187.out | refine below_set ?_ GE199.out) | exact HB.out)⟩
                      · replace c34 := Bool.eq_false_iff.mpr c34
                        subst c34
                        have H1 : ((laws_living29.f kj27).bind fun t211 => (some t211)) = some r := by rw [if_neg (show ¬ (false = true) by decide)] at H; exact H
                        clear H
                        have H := H1
                        clear H1
                        replace H := Option.bind_eq_some_iff.mp H
                        obtain ⟨t211, A530, H⟩ := H
                        replace H : (some t211) = some r := H
                        have A53 := Aside0.mk A530
                        clear A530
                        obtain rfl := Option.some.inj H
                        have hnb54 := NB187_199.out
                        have hnc54 := NB199_187.out
                        have hcz55_0 : wc.cell? ⟨gb187, 0, none⟩ = some (.int .i64 a0_0) := (blk_cell BK187.out 0).trans rfl
                        have hcz55_1 : wc.cell? ⟨gb187, 1, none⟩ = some (.string a0_1) := (blk_cell BK187.out 1).trans rfl
                        have hcz55_2 : wc.cell? ⟨gb187, 2, none⟩ = some (.string a0_2) := (blk_cell BK187.out 2).trans rfl
                        have hcz55_3 : wc.cell? ⟨gb187, 3, none⟩ = some (.slice A0_3 l0_3.length c0_3) := (blk_cell BK187.out 3).trans rfl
                        have hcz55_4 : wc.cell? ⟨gb187, 4, none⟩ = some (.slice A0_4 l0_4.length c0_4) := (blk_cell BK187.out 4).trans rfl
                        have hfz55_0 := blk_frozen BK187.out 0
                        have hfz55_1 := blk_frozen BK187.out 1
                        have hfz55_2 := blk_frozen BK187.out 2
                        have hfz55_3 := blk_frozen BK187.out 3
                        have hfz55_4 := blk_frozen BK187.out 4
                        go_wp2_with (first | ((with_reducible refine gate_callee (f := 24) rfl ?_); refine goesL_ (some 43) rfl rfl Try.func24 (by kernel_rfl) rfl #[.agg #[.int .i64 a0_0, .string a0_1, .string a0_2, .slice A0_3 l0_3.length c0_3, .slice A0_4 l0_4.length c0_4], .slice A1 l1.length c1, .bool (a2 == 9)] rfl (by (try simp only [List.map_toArray, List.map_cons, List.map_nil]); first | done | rfl | (simp only [List.length_drop, List.length_take]; rfl)) ?_; (with_reducible refine (spec_First29.calls kj27 a0_0 a0_1 a0_2 _ _ l0_3 _ _ l0_4 _ _ l1 (a2 == 9) t201 t204 _ ?side1 ?side2 ?side3 ?side4 ?side5 ?side6 A31.out).mono ?_); (case side1 => repeat (first | exact (Kd.C_below HR0_3.out HB.out) | (with_reducible refine Kd.C_alloc ?_ _) | (with_reducible refine Kd.C_drewN ?_ _) | (with_reducible refine Kd.C_drew ?_))); (case side2 => exact HC0_3.out); (case side3 => repeat (first | exact (Kd.C_below HR0_4.out HB.out) | (with_reducible refine Kd.C_alloc ?_ _) | (with_reducible refine Kd.C_drewN ?_ _) | (with_reducible refine Kd.C_drew ?_))); (case side4 => exact HC0_4.out); (case side5 => repeat (first | exact (Kd.C_below HR1.out HB.out) | (with_reducible refine Kd.C_alloc ?_ _) | (with_reducible refine Kd.C_drewN ?_ _) | (with_reducible refine Kd.C_drew ?_))); (case side6 => exact HC1.out); rintro e w56 ⟨v202, rfl, ho0, hb⟩; refine ⟨_, rfl, ?_⟩; have n0_ := Aside0.mk (Kd.V_elder' (by (with_reducible repeat (first | apply Kd.V_alloc | apply Kd.V_drewN | apply Kd.V_drew)); exact HO_200003.out) (Kd.R_base ho0) hb); have n1_ := Aside0.mk (Kd.V_elder' (by (with_reducible repeat (first | apply Kd.V_alloc | apply Kd.V_drewN | apply Kd.V_drew)); exact HO_200004.out) (Kd.R_base ho0) hb); have n2_ := Aside0.mk (Kd.R_lower ho0 (below_size (by repeat (first | (with_reducible first | exact HB.out | apply below_alloc | apply pw_below_drewN | apply below_drew1 | refine below_set ?_ GE187.out | refine below_set ?_ GE199.out) | exact HB.out)))); have n3_ := Aside0.mk (blk_below (g := gb187) (o := .cells #[.int .i64 a0_0, .string a0_1, .string a0_2, .slice A0_3 l0_3.length c0_3, .slice A0_4 l0_4.length c0_4] 25 (0, 0)) (by (with_reducible repeat (first | refine blk_drewN ?_ _ | refine blk_drew ?_ | refine blk_alloc ?_ _)); exact BK187.out) hb); have n4_ := Aside0.mk (blk_below (g := gb199) (o := .cells #[.int .i64 t189, .string t190, .string t191, .slice Ao20 t192.length co20, .slice Ao21 t195.length co21] 25 (0, 0)) (by (with_reducible repeat (first | refine blk_drewN ?_ _ | refine blk_drew ?_ | refine blk_alloc ?_ _)); exact BK199.out) hb); have n5_ := Aside0.mk (below_step (by repeat (first | (with_reducible first | exact HB.out | apply below_alloc | apply pw_below_drewN | apply below_drew1 | refine below_set ?_ GE187.out | refine below_set ?_ GE199.out) | exact HB.out)) hb); clear HO_200003; clear HO_200004; clear BK187; clear BK199; clear HB; have HO_200003 := n0_; have HO_200004 := n1_; have HO203 := n2_; have BK187 := n3_; have BK199 := n4_; have HB := n5_; clear n0_ n1_ n2_ n3_ n4_ n5_; (try clear hb); (try clear hb2); (try clear hk); (try clear hi); (try clear ho0); have hcz57_0 : w56.cell? ⟨gb187, 0, none⟩ = some (.int .i64 a0_0) := (blk_cell BK187.out 0).trans rfl; have hcz57_1 : w56.cell? ⟨gb187, 1, none⟩ = some (.string a0_1) := (blk_cell BK187.out 1).trans rfl; have hcz57_2 : w56.cell? ⟨gb187, 2, none⟩ = some (.string a0_2) := (blk_cell BK187.out 2).trans rfl; have hcz57_3 : w56.cell? ⟨gb187, 3, none⟩ = some (.slice A0_3 l0_3.length c0_3) := (blk_cell BK187.out 3).trans rfl; have hcz57_4 : w56.cell? ⟨gb187, 4, none⟩ = some (.slice A0_4 l0_4.length c0_4) := (blk_cell BK187.out 4).trans rfl; have hfz57_0 := blk_frozen BK187.out 0; have hfz57_1 := blk_frozen BK187.out 1; have hfz57_2 := blk_frozen BK187.out 2; have hfz57_3 := blk_frozen BK187.out 3; have hfz57_4 := blk_frozen BK187.out 4) | ((with_reducible refine gate_callee (f := 26) rfl ?_); refine goesL_ (some 72) rfl rfl Try.func26 (by kernel_rfl) rfl #[.agg #[.int .i64 a0_0, .string a0_1, .string a0_2, .slice A0_3 l0_3.length c0_3, .slice A0_4 l0_4.length c0_4], .slice A1 l1.length c1, .int .i64 a2] rfl (by (try simp only [List.map_toArray, List.map_cons, List.map_nil]); first | done | rfl | (simp only [List.length_drop, List.length_take]; rfl)) ?_; (with_reducible refine (impl_Neighbor.calls kj27 a0_0 a0_1 a0_2 _ _ l0_3 _ _ l0_4 _ _ l1 a2 t205 false _ ?side1 ?side2 ?side3 ?side4 ?side5 ?side6 A32.out).mono ?_); (case side1 => repeat (first | exact (Kd.C_below HR0_3.out HB.out) | (with_reducible refine Kd.C_alloc ?_ _) | (with_reducible refine Kd.C_drewN ?_ _) | (with_reducible refine Kd.C_drew ?_))); (case side2 => exact HC0_3.out); (case side3 => repeat (first | exact (Kd.C_below HR0_4.out HB.out) | (with_reducible refine Kd.C_alloc ?_ _) | (with_reducible refine Kd.C_drewN ?_ _) | (with_reducible refine Kd.C_drew ?_))); (case side4 => exact HC0_4.out); (case side5 => repeat (first | exact (Kd.C_below HR1.out HB.out) | (with_reducible refine Kd.C_alloc ?_ _) | (with_reducible refine Kd.C_drewN ?_ _) | (with_reducible refine Kd.C_drew ?_))); (case side6 => exact HC1.out); rintro e w58 ⟨v206, rfl, ho0, hb⟩; refine ⟨_, rfl, ?_⟩; have n0_ := Aside0.mk (Kd.V_elder' (by (with_reducible repeat (first | apply Kd.V_alloc | apply Kd.V_drewN | apply Kd.V_drew)); exact HO_200003.out) (Kd.R_base ho0) hb); have n1_ := Aside0.mk (Kd.V_elder' (by (with_reducible repeat (first | apply Kd.V_alloc | apply Kd.V_drewN | apply Kd.V_drew)); exact HO_200004.out) (Kd.R_base ho0) hb); have n2_ := Aside0.mk (Kd.R_elder' (by (with_reducible repeat (first | apply Kd.R_alloc | apply Kd.R_drewN | apply Kd.R_drew)); exact HO203.out) (Kd.R_base ho0) hb); have n3_ := Aside0.mk (Kd.R_lower (Kd.R_new' ho0 (Kd.R_lt (by (with_reducible repeat (first | apply Kd.R_alloc | apply Kd.R_drewN | apply Kd.R_drew)); exact HO203.out))) (below_size (by repeat (first | (with_reducible first | exact HB.out | apply below_alloc | apply pw_below_drewN | apply below_drew1 | refine below_set ?_ GE187.out | refine below_set ?_ GE199.out) | exact HB.out)))); have n4_ := Aside0.mk (blk_below (g := gb187) (o := .cells #[.int .i64 a0_0, .string a0_1, .string a0_2, .slice A0_3 l0_3.length c0_3, .slice A0_4 l0_4.length c0_4] 25 (0, 0)) (by (with_reducible repeat (first | refine blk_drewN ?_ _ | refine blk_drew ?_ | refine blk_alloc ?_ _)); exact BK187.out) hb); have n5_ := Aside0.mk (blk_below (g := gb199) (o := .cells #[.int .i64 t189, .string t190, .string t191, .slice Ao20 t192.length co20, .slice Ao21 t195.length co21] 25 (0, 0)) (by (with_reducible repeat (first | refine blk_drewN ?_ _ | refine blk_drew ?_ | refine blk_alloc ?_ _)); exact BK199.out) hb); have n6_ := Aside0.mk (below_step (by repeat (first | (with_reducible first | exact HB.out | apply below_alloc | apply pw_below_drewN | apply below_drew1 | refine below_set ?_ GE187.out | refine below_set ?_ GE199.out) | exact HB.out)) hb); clear HO_200003; clear HO_200004; clear HO203; clear BK187; clear BK199; clear HB; have HO_200003 := n0_; have HO_200004 := n1_; have HO203 := n2_; have HO207 := n3_; have BK187 := n4_; have BK199 := n5_; have HB := n6_; clear n0_ n1_ n2_ n3_ n4_ n5_ n6_; (try clear hb); (try clear hb2); (try clear hk); (try clear hi); (try clear ho0)) | (go_at_call 23; (with_reducible refine (laws_living29.calls kj27  t211 _ A53.out).mono ?_); rintro e w59 ⟨rfl, hb⟩; have n0_ := Aside0.mk (Kd.V_below (by (with_reducible repeat (first | apply Kd.V_alloc | apply Kd.V_drewN | apply Kd.V_drew)); exact HO_200003.out) hb); have n1_ := Aside0.mk (Kd.V_below (by (with_reducible repeat (first | apply Kd.V_alloc | apply Kd.V_drewN | apply Kd.V_drew)); exact HO_200004.out) hb); have n2_ := Aside0.mk (Kd.R_below (by (with_reducible repeat (first | apply Kd.R_alloc | apply Kd.R_drewN | apply Kd.R_drew)); exact HO203.out) hb); have n3_ := Aside0.mk (Kd.R_below (by (with_reducible repeat (first | apply Kd.R_alloc | apply Kd.R_drewN | apply Kd.R_drew)); exact HO207.out) hb); have n4_ := Aside0.mk (blk_below (g := gb187) (o := .cells #[.int .i64 a0_0, .string a0_1, .string a0_2, .slice A0_3 l0_3.length c0_3, .slice A0_4 l0_4.length c0_4] 25 (0, 0)) (by (with_reducible repeat (first | refine blk_drewN ?_ _ | refine blk_drew ?_ | refine blk_alloc ?_ _)); exact BK187.out) hb); have n5_ := Aside0.mk (blk_below (g := gb199) (o := .cells #[.int .i64 t189, .string t190, .string t191, .slice Ao20 t192.length co20, .slice Ao21 t195.length co21] 25 (0, 0)) (by (with_reducible repeat (first | refine blk_drewN ?_ _ | refine blk_drew ?_ | refine blk_alloc ?_ _)); exact BK199.out) hb); have n6_ := Aside0.mk (below_step (by repeat (first | (with_reducible first | exact HB.out | apply below_alloc | apply pw_below_drewN | apply below_drew1 | refine below_set ?_ GE187.out | refine below_set ?_ GE199.out) | exact HB.out)) hb); clear HO_200003; clear HO_200004; clear HO203; clear HO207; clear BK187; clear BK199; clear HB; have HO_200003 := n0_; have HO_200004 := n1_; have HO203 := n2_; have HO207 := n3_; have BK187 := n4_; have BK199 := n5_; have HB := n6_; clear n0_ n1_ n2_ n3_ n4_ n5_ n6_; (try clear hb); (try clear hb2); (try clear hk); (try clear hi)))
                        go_ret
                        exact ⟨by first | rfl | (simp [errW_none, errW_some] <;> rfl) | (simp [*, errW_none, errW_some] <;> rfl), by repeat (first | (with_reducible first | exact HB.out | apply below_alloc | apply pw_below_drewN | apply below_drew1 | refine below_set ?_ GE187.out | refine below_set ?_ GE199.out) | exact HB.out)⟩
                    · rw [if_neg c33] at H
                      have c33b0 : (t208 == t204) = false := by simpa using c33
                      (try (have c33b1 : decide (t208 = t204) = false := by simpa using c33))
                      (try (have c33b2 : (t208 == t204) = false := by simpa using c33))
                      (try (have c33b3 : ¬ (t208 = t204) := by simpa using c33))
                      clear c33
                      obtain rfl := Option.some.inj H
                      have hnb60 := NB187_199.out
                      have hnc60 := NB199_187.out
                      have hcz61_0 : wc.cell? ⟨gb187, 0, none⟩ = some (.int .i64 a0_0) := (blk_cell BK187.out 0).trans rfl
                      have hcz61_1 : wc.cell? ⟨gb187, 1, none⟩ = some (.string a0_1) := (blk_cell BK187.out 1).trans rfl
                      have hcz61_2 : wc.cell? ⟨gb187, 2, none⟩ = some (.string a0_2) := (blk_cell BK187.out 2).trans rfl
                      have hcz61_3 : wc.cell? ⟨gb187, 3, none⟩ = some (.slice A0_3 l0_3.length c0_3) := (blk_cell BK187.out 3).trans rfl
                      have hcz61_4 : wc.cell? ⟨gb187, 4, none⟩ = some (.slice A0_4 l0_4.length c0_4) := (blk_cell BK187.out 4).trans rfl
                      have hfz61_0 := blk_frozen BK187.out 0
                      have hfz61_1 := blk_frozen BK187.out 1
                      have hfz61_2 := blk_frozen BK187.out 2
                      have hfz61_3 := blk_frozen BK187.out 3
                      have hfz61_4 := blk_frozen BK187.out 4
                      go_wp2_with (first | ((with_reducible refine gate_callee (f := 24) rfl ?_); refine goesL_ (some 43) rfl rfl Try.func24 (by kernel_rfl) rfl #[.agg #[.int .i64 a0_0, .string a0_1, .string a0_2, .slice A0_3 l0_3.length c0_3, .slice A0_4 l0_4.length c0_4], .slice A1 l1.length c1, .bool (a2 == 9)] rfl (by (try simp only [List.map_toArray, List.map_cons, List.map_nil]); first | done | rfl | (simp only [List.length_drop, List.length_take]; rfl)) ?_; (with_reducible refine (spec_First29.calls kj27 a0_0 a0_1 a0_2 _ _ l0_3 _ _ l0_4 _ _ l1 (a2 == 9) t201 t204 _ ?side1 ?side2 ?side3 ?side4 ?side5 ?side6 A31.out).mono ?_); (case side1 => repeat (first | exact (Kd.C_below HR0_3.out HB.out) | (with_reducible refine Kd.C_alloc ?_ _) | (with_reducible refine Kd.C_drewN ?_ _) | (with_reducible refine Kd.C_drew ?_))); (case side2 => exact HC0_3.out); (case side3 => repeat (first | exact (Kd.C_below HR0_4.out HB.out) | (with_reducible refine Kd.C_alloc ?_ _) | (with_reducible refine Kd.C_drewN ?_ _) | (with_reducible refine Kd.C_drew ?_))); (case side4 => exact HC0_4.out); (case side5 => repeat (first | exact (Kd.C_below HR1.out HB.out) | (with_reducible refine Kd.C_alloc ?_ _) | (with_reducible refine Kd.C_drewN ?_ _) | (with_reducible refine Kd.C_drew ?_))); (case side6 => exact HC1.out); rintro e w62 ⟨v202, rfl, ho0, hb⟩; refine ⟨_, rfl, ?_⟩; have n0_ := Aside0.mk (Kd.V_elder' (by (with_reducible repeat (first | apply Kd.V_alloc | apply Kd.V_drewN | apply Kd.V_drew)); exact HO_200003.out) (Kd.R_base ho0) hb); have n1_ := Aside0.mk (Kd.V_elder' (by (with_reducible repeat (first | apply Kd.V_alloc | apply Kd.V_drewN | apply Kd.V_drew)); exact HO_200004.out) (Kd.R_base ho0) hb); have n2_ := Aside0.mk (Kd.R_lower ho0 (below_size (by repeat (first | (with_reducible first | exact HB.out | apply below_alloc | apply pw_below_drewN | apply below_drew1 | refine below_set ?_ GE187.out | refine below_set ?_ GE199.out) | exact HB.out)))); have n3_ := Aside0.mk (blk_below (g := gb187) (o := .cells #[.int .i64 a0_0, .string a0_1, .string a0_2, .slice A0_3 l0_3.length c0_3, .slice A0_4 l0_4.length c0_4] 25 (0, 0)) (by (with_reducible repeat (first | refine blk_drewN ?_ _ | refine blk_drew ?_ | refine blk_alloc ?_ _)); exact BK187.out) hb); have n4_ := Aside0.mk (blk_below (g := gb199) (o := .cells #[.int .i64 t189, .string t190, .string t191, .slice Ao20 t192.length co20, .slice Ao21 t195.length co21] 25 (0, 0)) (by (with_reducible repeat (first | refine blk_drewN ?_ _ | refine blk_drew ?_ | refine blk_alloc ?_ _)); exact BK199.out) hb); have n5_ := Aside0.mk (below_step (by repeat (first | (with_reducible first | exact HB.out | apply below_alloc | apply pw_below_drewN | apply below_drew1 | refine below_set ?_ GE187.out | refine below_set ?_ GE199.out) | exact HB.out)) hb); clear HO_200003; clear HO_200004; clear BK187; clear BK199; clear HB; have HO_200003 := n0_; have HO_200004 := n1_; have HO203 := n2_; have BK187 := n3_; have BK199 := n4_; have HB := n5_; clear n0_ n1_ n2_ n3_ n4_ n5_; (try clear hb); (try clear hb2); (try clear hk); (try clear hi); (try clear ho0); have hcz63_0 : w62.cell? ⟨gb187, 0, none⟩ = some (.int .i64 a0_0) := (blk_cell BK187.out 0).trans rfl; have hcz63_1 : w62.cell? ⟨gb187, 1, none⟩ = some (.string a0_1) := (blk_cell BK187.out 1).trans rfl; have hcz63_2 : w62.cell? ⟨gb187, 2, none⟩ = some (.string a0_2) := (blk_cell BK187.out 2).trans rfl; have hcz63_3 : w62.cell? ⟨gb187, 3, none⟩ = some (.slice A0_3 l0_3.length c0_3) := (blk_cell BK187.out 3).trans rfl; have hcz63_4 : w62.cell? ⟨gb187, 4, none⟩ = some (.slice A0_4 l0_4.length c0_4) := (blk_cell BK187.out 4).trans rfl; have hfz63_0 := blk_frozen BK187.out 0; have hfz63_1 := blk_frozen BK187.out 1; have hfz63_2 := blk_frozen BK187.out 2; have hfz63_3 := blk_frozen BK187.out 3; have hfz63_4 := blk_frozen BK187.out 4) | ((with_reducible refine gate_callee (f := 26) rfl ?_); refine goesL_ (some 72) rfl rfl Try.func26 (by kernel_rfl) rfl #[.agg #[.int .i64 a0_0, .string a0_1, .string a0_2, .slice A0_3 l0_3.length c0_3, .slice A0_4 l0_4.length c0_4], .slice A1 l1.length c1, .int .i64 a2] rfl (by (try simp only [List.map_toArray, List.map_cons, List.map_nil]); first | done | rfl | (simp only [List.length_drop, List.length_take]; rfl)) ?_; (with_reducible refine (impl_Neighbor.calls kj27 a0_0 a0_1 a0_2 _ _ l0_3 _ _ l0_4 _ _ l1 a2 t205 t208 _ ?side1 ?side2 ?side3 ?side4 ?side5 ?side6 A32.out).mono ?_); (case side1 => repeat (first | exact (Kd.C_below HR0_3.out HB.out) | (with_reducible refine Kd.C_alloc ?_ _) | (with_reducible refine Kd.C_drewN ?_ _) | (with_reducible refine Kd.C_drew ?_))); (case side2 => exact HC0_3.out); (case side3 => repeat (first | exact (Kd.C_below HR0_4.out HB.out) | (with_reducible refine Kd.C_alloc ?_ _) | (with_reducible refine Kd.C_drewN ?_ _) | (with_reducible refine Kd.C_drew ?_))); (case side4 => exact HC0_4.out); (case side5 => repeat (first | exact (Kd.C_below HR1.out HB.out) | (with_reducible refine Kd.C_alloc ?_ _) | (with_reducible refine Kd.C_drewN ?_ _) | (with_reducible refine Kd.C_drew ?_))); (case side6 => exact HC1.out); rintro e w64 ⟨v206, rfl, ho0, hb⟩; refine ⟨_, rfl, ?_⟩; have n0_ := Aside0.mk (Kd.V_elder' (by (with_reducible repeat (first | apply Kd.V_alloc | apply Kd.V_drewN | apply Kd.V_drew)); exact HO_200003.out) (Kd.R_base ho0) hb); have n1_ := Aside0.mk (Kd.V_elder' (by (with_reducible repeat (first | apply Kd.V_alloc | apply Kd.V_drewN | apply Kd.V_drew)); exact HO_200004.out) (Kd.R_base ho0) hb); have n2_ := Aside0.mk (Kd.R_elder' (by (with_reducible repeat (first | apply Kd.R_alloc | apply Kd.R_drewN | apply Kd.R_drew)); exact HO203.out) (Kd.R_base ho0) hb); have n3_ := Aside0.mk (Kd.R_lower (Kd.R_new' ho0 (Kd.R_lt (by (with_reducible repeat (first | apply Kd.R_alloc | apply Kd.R_drewN | apply Kd.R_drew)); exact HO203.out))) (below_size (by repeat (first | (with_reducible first | exact HB.out | apply below_alloc | apply pw_below_drewN | apply below_drew1 | refine below_set ?_ GE187.out | refine below_set ?_ GE199.out) | exact HB.out)))); have n4_ := Aside0.mk (blk_below (g := gb187) (o := .cells #[.int .i64 a0_0, .string a0_1, .string a0_2, .slice A0_3 l0_3.length c0_3, .slice A0_4 l0_4.length c0_4] 25 (0, 0)) (by (with_reducible repeat (first | refine blk_drewN ?_ _ | refine blk_drew ?_ | refine blk_alloc ?_ _)); exact BK187.out) hb); have n5_ := Aside0.mk (blk_below (g := gb199) (o := .cells #[.int .i64 t189, .string t190, .string t191, .slice Ao20 t192.length co20, .slice Ao21 t195.length co21] 25 (0, 0)) (by (with_reducible repeat (first | refine blk_drewN ?_ _ | refine blk_drew ?_ | refine blk_alloc ?_ _)); exact BK199.out) hb); have n6_ := Aside0.mk (below_step (by repeat (first | (with_reducible first | exact HB.out | apply below_alloc | apply pw_below_drewN | apply below_drew1 | refine below_set ?_ GE187.out | refine below_set ?_ GE199.out) | exact HB.out)) hb); clear HO_200003; clear HO_200004; clear HO203; clear BK187; clear BK199; clear HB; have HO_200003 := n0_; have HO_200004 := n1_; have HO203 := n2_; have HO207 := n3_; have BK187 := n4_; have BK199 := n5_; have HB := n6_; clear n0_ n1_ n2_ n3_ n4_ n5_ n6_; (try clear hb); (try clear hb2); (try clear hk); (try clear hi); (try clear ho0)))
                      go_ret
                      exact ⟨by first | rfl | (simp [errW_none, errW_some] <;> rfl) | (simp [*, errW_none, errW_some] <;> rfl), by repeat (first | (with_reducible first | exact HB.out | apply below_alloc | apply pw_below_drewN | apply below_drew1 | refine below_set ?_ GE187.out | refine below_set ?_ GE199.out) | exact HB.out)⟩
                  · replace c30 := Bool.eq_false_iff.mpr c30
                    subst c30
                    have H1 : (if a2 = 10 then (laws_FnDomSibling.j3 kj27 l1 a2 a2 (a2 == 10) a0_0 a0_1 a0_2 l0_3 l0_4) else (laws_FnDomSibling.j3 kj27 l1 a2 a2 (a2 == 11) a0_0 a0_1 a0_2 l0_3 l0_4)) = some r := by rw [if_neg (show ¬ (false = true) by decide)] at H; exact H
                    clear H
                    have H := H1
                    clear H1
                    have HC65 := Aside0.mk H
                    clear H
                    go_upto_if 46 with (fail)
                    go_cut [46] (fun v46 wc => ∃ (kq : Nat) (x46_64 : Bool), v46 = .bool x46_64 ∧ Aside0 (laws_FnDomSibling.j3 kq l1 a2 a2 x46_64 a0_0 a0_1 a0_2 l0_3 l0_4 = some r) ∧ Aside0 (kq ≤ kj27) ∧ Aside0 (Kd.V k78 78 wc w.heap.size (fun k_ => k_ ≠ gb187 ∧ k_ ≠ gb199) (.slice Ao20 t192.length co20) t192) ∧ Aside0 (Kd.V k25 25 wc w.heap.size (fun k_ => k_ ≠ gb187 ∧ k_ ≠ gb199) (.slice Ao21 t195.length co21) t195) ∧ Aside0 (wc.heap[gb187]? = some (.cells #[.int .i64 a0_0, .string a0_1, .string a0_2, (.slice A0_3 l0_3.length c0_3), (.slice A0_4 l0_4.length c0_4)] 25 (0, 0))) ∧ Aside0 (wc.heap[gb199]? = some (.cells #[.int .i64 t189, .string t190, .string t191, (.slice Ao20 t192.length co20), (.slice Ao21 t195.length co21)] 25 (0, 0))) ∧ Aside0 (Below w.heap.size w wc))
                    case first =>
                      have H := HC65.out
                      clear HC65
                      by_cases c66 : a2 = 10
                      · rw [if_pos c66] at H
                        have c66b0 : (a2 == 10) = true := beq_iff_eq.mpr c66
                        have c66b1 : (a2 != 10) = false := bne_eq_false_iff_eq.mpr c66
                        clear c66
                        (first | rw [c66b0] | (simp only [i64_w, i32_w]; rw [c66b0]) | skip)
                        have H' := Aside0.mk H
                        clear H
                        go_wp2
                        go_meet
                        case rel => exact ⟨_, ((a2 == 10)), (by first | rfl | (simp; done) | (simp [*]; done)), H', ⟨by have := HJ3.out; have := HJ13.out; have := HJ27.out; first | omega | exact Nat.le_refl _⟩, ⟨by (with_reducible repeat (first | apply Kd.V_alloc | apply Kd.V_drewN | apply Kd.V_drew)); exact HO_200003.out⟩, ⟨by (with_reducible repeat (first | apply Kd.V_alloc | apply Kd.V_drewN | apply Kd.V_drew)); exact HO_200004.out⟩, ⟨by (with_reducible repeat (first | refine blk_drewN ?_ _ | refine blk_drew ?_ | refine blk_alloc ?_ _)); exact BK187.out⟩, ⟨by (with_reducible repeat (first | refine blk_drewN ?_ _ | refine blk_drew ?_ | refine blk_alloc ?_ _)); exact BK199.out⟩, ⟨by repeat (first | (with_reducible first | exact HB.out | apply below_alloc | apply pw_below_drewN | apply below_drew1 | refine below_set ?_ GE187.out | refine below_set ?_ GE199.out) | exact HB.out)⟩⟩
                      · rw [if_neg c66] at H
                        have c66b0 : (a2 == 10) = false := beq_eq_false_iff_ne.mpr c66
                        have c66b1 : (a2 != 10) = true := bne_iff_ne.mpr c66
                        (first | rw [c66b0] | (simp only [i64_w, i32_w]; rw [c66b0]) | skip)
                        have H' := Aside0.mk H
                        clear H
                        go_wp2
                        go_meet
                        case rel => exact ⟨_, ((a2 == 11)), (by first | rfl | (simp; done) | (simp [*]; done)), H', ⟨by have := HJ3.out; have := HJ13.out; have := HJ27.out; first | omega | exact Nat.le_refl _⟩, ⟨by (with_reducible repeat (first | apply Kd.V_alloc | apply Kd.V_drewN | apply Kd.V_drew)); exact HO_200003.out⟩, ⟨by (with_reducible repeat (first | apply Kd.V_alloc | apply Kd.V_drewN | apply Kd.V_drew)); exact HO_200004.out⟩, ⟨by (with_reducible repeat (first | refine blk_drewN ?_ _ | refine blk_drew ?_ | refine blk_alloc ?_ _)); exact BK187.out⟩, ⟨by (with_reducible repeat (first | refine blk_drewN ?_ _ | refine blk_drew ?_ | refine blk_alloc ?_ _)); exact BK199.out⟩, ⟨by repeat (first | (with_reducible first | exact HB.out | apply below_alloc | apply pw_below_drewN | apply below_drew1 | refine below_set ?_ GE187.out | refine below_set ?_ GE199.out) | exact HB.out)⟩⟩
                    case rest =>
                      clear HC65
                      try clear c1
                      try clear c2
                      try clear p2
                      try clear c3
                      try clear c4
                      try clear c5
                      try clear c6
                      try clear c7
                      try clear c9
                      try clear c12
                      try clear c17
                      try clear c18
                      try clear c22
                      try clear c24
                      try clear c26
                      try clear c27
                      try clear c29
                      try clear c29b0
                      try clear c29b1
                      try clear c30
                      try clear c33
                      try clear c33b0
                      try clear c33b1
                      try clear c33b2
                      try clear c34
                      try clear c36
                      try clear c38
                      try clear c46
                      try clear c54
                      try clear c60
                      try clear c66
                      try clear c66b0
                      try clear c66b1
                      try clear hcz10_0
                      try clear hcz10_1
                      try clear hcz10_2
                      try clear hcz10_3
                      try clear hcz10_4
                      try clear hcz15_0
                      try clear hcz15_1
                      try clear hcz15_2
                      try clear hcz15_3
                      try clear hcz15_4
                      try clear hcz19_0
                      try clear hcz19_1
                      try clear hcz19_2
                      try clear hcz19_3
                      try clear hcz19_4
                      try clear hcz25_0
                      try clear hcz25_1
                      try clear hcz25_2
                      try clear hcz25_3
                      try clear hcz25_4
                      try clear hcz39_0
                      try clear hcz39_1
                      try clear hcz39_2
                      try clear hcz39_3
                      try clear hcz39_4
                      try clear hcz41_0
                      try clear hcz41_1
                      try clear hcz41_2
                      try clear hcz41_3
                      try clear hcz41_4
                      try clear hcz47_0
                      try clear hcz47_1
                      try clear hcz47_2
                      try clear hcz47_3
                      try clear hcz47_4
                      try clear hcz49_0
                      try clear hcz49_1
                      try clear hcz49_2
                      try clear hcz49_3
                      try clear hcz49_4
                      try clear hcz55_0
                      try clear hcz55_1
                      try clear hcz55_2
                      try clear hcz55_3
                      try clear hcz55_4
                      try clear hcz57_0
                      try clear hcz57_1
                      try clear hcz57_2
                      try clear hcz57_3
                      try clear hcz57_4
                      try clear hcz61_0
                      try clear hcz61_1
                      try clear hcz61_2
                      try clear hcz61_3
                      try clear hcz61_4
                      try clear hcz63_0
                      try clear hcz63_1
                      try clear hcz63_2
                      try clear hcz63_3
                      try clear hcz63_4
                      try clear hcz8_0
                      try clear hcz8_1
                      try clear hcz8_2
                      try clear hcz8_3
                      try clear hcz8_4
                      try clear hfz10_0
                      try clear hfz10_1
                      try clear hfz10_2
                      try clear hfz10_3
                      try clear hfz10_4
                      try clear hfz15_0
                      try clear hfz15_1
                      try clear hfz15_2
                      try clear hfz15_3
                      try clear hfz15_4
                      try clear hfz19_0
                      try clear hfz19_1
                      try clear hfz19_2
                      try clear hfz19_3
                      try clear hfz19_4
                      try clear hfz25_0
                      try clear hfz25_1
                      try clear hfz25_2
                      try clear hfz25_3
                      try clear hfz25_4
                      try clear hfz39_0
                      try clear hfz39_1
                      try clear hfz39_2
                      try clear hfz39_3
                      try clear hfz39_4
                      try clear hfz41_0
                      try clear hfz41_1
                      try clear hfz41_2
                      try clear hfz41_3
                      try clear hfz41_4
                      try clear hfz47_0
                      try clear hfz47_1
                      try clear hfz47_2
                      try clear hfz47_3
                      try clear hfz47_4
                      try clear hfz49_0
                      try clear hfz49_1
                      try clear hfz49_2
                      try clear hfz49_3
                      try clear hfz49_4
                      try clear hfz55_0
                      try clear hfz55_1
                      try clear hfz55_2
                      try clear hfz55_3
                      try clear hfz55_4
                      try clear hfz57_0
                      try clear hfz57_1
                      try clear hfz57_2
                      try clear hfz57_3
                      try clear hfz57_4
                      try clear hfz61_0
                      try clear hfz61_1
                      try clear hfz61_2
                      try clear hfz61_3
                      try clear hfz61_4
                      try clear hfz63_0
                      try clear hfz63_1
                      try clear hfz63_2
                      try clear hfz63_3
                      try clear hfz63_4
                      try clear hfz8_0
                      try clear hfz8_1
                      try clear hfz8_2
                      try clear hfz8_3
                      try clear hfz8_4
                      try clear p2
                      obtain ⟨kq, x46_64, rfl, HA, HJ64, HO_200003, HO_200004, BK187, BK199, HB⟩ := hcut
                      cases kq with
                      | zero => exact absurd HA.out (by simp [laws_FnDomSibling.j3])
                      | succ kj64 =>
                        have H := HA.out
                        clear HA
                        simp only [laws_FnDomSibling.j3] at H
                        by_cases c67 : x46_64 = true
                        · subst c67
                          have H1 : ((spec_Beside29.f kj64 a0_0 a0_1 a0_2 l0_3 l0_4 l1 (-1) (a2 == 11)).bind fun bt212 => ((impl_Neighbor.f kj64 a0_0 a0_1 a0_2 l0_3 l0_4 l1 a2).bind fun bt216 => (if (bt216.2 == bt212.2) = true then (if bt216.2 = true then ((laws_path29.f kj64 bt216.1 bt212.1).bind fun t220 => (if t220 = true then ((laws_living29.f kj64).bind fun t221 => (some t221)) else (some false))) else ((laws_living29.f kj64).bind fun t222 => (some t222))) else (some false)))) = some r := by rw [if_pos rfl] at H; exact H
                          clear H
                          have H := H1
                          clear H1
                          replace H := Option.bind_eq_some_iff.mp H
                          obtain ⟨⟨t212, t215⟩, A680, H⟩ := H
                          replace H : ((impl_Neighbor.f kj64 a0_0 a0_1 a0_2 l0_3 l0_4 l1 a2).bind fun bt216 => (if (bt216.2 == t215) = true then (if bt216.2 = true then ((laws_path29.f kj64 bt216.1 t212).bind fun t220 => (if t220 = true then ((laws_living29.f kj64).bind fun t221 => (some t221)) else (some false))) else ((laws_living29.f kj64).bind fun t222 => (some t222))) else (some false))) = some r := H
                          have A68 := Aside0.mk A680
                          clear A680
                          replace H := Option.bind_eq_some_iff.mp H
                          obtain ⟨⟨t216, t219⟩, A690, H⟩ := H
                          replace H : (if (t219 == t215) = true then (if t219 = true then ((laws_path29.f kj64 t216 t212).bind fun t220 => (if t220 = true then ((laws_living29.f kj64).bind fun t221 => (some t221)) else (some false))) else ((laws_living29.f kj64).bind fun t222 => (some t222))) else (some false)) = some r := H
                          have A69 := Aside0.mk A690
                          clear A690
                          by_cases c70 : (t219 == t215) = true
                          · rw [if_pos c70] at H
                            have c70b0 : (t219 == t215) = true := c70
                            (try (have c70b1 : decide (t219 = t215) = true := by simpa using c70))
                            (try (have c70b2 : (t219 == t215) = true := by simpa using c70))
                            clear c70
                            by_cases c71 : t219 = true
                            · subst c71
                              have H1 : ((laws_path29.f kj64 t216 t212).bind fun t220 => (if t220 = true then ((laws_living29.f kj64).bind fun t221 => (some t221)) else (some false))) = some r := by rw [if_pos rfl] at H; exact H
                              clear H
                              have H := H1
                              clear H1
                              replace H := Option.bind_eq_some_iff.mp H
                              obtain ⟨t220, A720, H⟩ := H
                              replace H : (if t220 = true then ((laws_living29.f kj64).bind fun t221 => (some t221)) else (some false)) = some r := H
                              have A72 := Aside0.mk A720
                              clear A720
                              by_cases c73 : t220 = true
                              · subst c73
                                have H1 : ((laws_living29.f kj64).bind fun t221 => (some t221)) = some r := by rw [if_pos rfl] at H; exact H
                                clear H
                                have H := H1
                                clear H1
                                replace H := Option.bind_eq_some_iff.mp H
                                obtain ⟨t221, A740, H⟩ := H
                                replace H : (some t221) = some r := H
                                have A74 := Aside0.mk A740
                                clear A740
                                obtain rfl := Option.some.inj H
                                have hnb75 := NB187_199.out
                                have hnc75 := NB199_187.out
                                have hcz76_0 : wc.cell? ⟨gb187, 0, none⟩ = some (.int .i64 a0_0) := (blk_cell BK187.out 0).trans rfl
                                have hcz76_1 : wc.cell? ⟨gb187, 1, none⟩ = some (.string a0_1) := (blk_cell BK187.out 1).trans rfl
                                have hcz76_2 : wc.cell? ⟨gb187, 2, none⟩ = some (.string a0_2) := (blk_cell BK187.out 2).trans rfl
                                have hcz76_3 : wc.cell? ⟨gb187, 3, none⟩ = some (.slice A0_3 l0_3.length c0_3) := (blk_cell BK187.out 3).trans rfl
                                have hcz76_4 : wc.cell? ⟨gb187, 4, none⟩ = some (.slice A0_4 l0_4.length c0_4) := (blk_cell BK187.out 4).trans rfl
                                have hfz76_0 := blk_frozen BK187.out 0
                                have hfz76_1 := blk_frozen BK187.out 1
                                have hfz76_2 := blk_frozen BK187.out 2
                                have hfz76_3 := blk_frozen BK187.out 3
                                have hfz76_4 := blk_frozen BK187.out 4
                                go_wp2_with (first | ((with_reducible refine gate_callee (f := 25) rfl ?_); refine goesL_ (some 54) rfl rfl Try.func25 (by kernel_rfl) rfl #[.agg #[.int .i64 a0_0, .string a0_1, .string a0_2, .slice A0_3 l0_3.length c0_3, .slice A0_4 l0_4.length c0_4], .slice A1 l1.length c1, .int .i64 (-1), .bool (a2 == 11)] rfl (by (try simp only [List.map_toArray, List.map_cons, List.map_nil]); first | done | rfl | (simp only [List.length_drop, List.length_take]; rfl)) ?_; (with_reducible refine (spec_Beside29.calls kj64 a0_0 a0_1 a0_2 _ _ l0_3 _ _ l0_4 _ _ l1 (-1) (a2 == 11) t212 t215 _ ?side1 ?side2 ?side3 ?side4 ?side5 ?side6 A68.out).mono ?_); (case side1 => repeat (first | exact (Kd.C_below HR0_3.out HB.out) | (with_reducible refine Kd.C_alloc ?_ _) | (with_reducible refine Kd.C_drewN ?_ _) | (with_reducible refine Kd.C_drew ?_))); (case side2 => exact HC0_3.out); (case side3 => repeat (first | exact (Kd.C_below HR0_4.out HB.out) | (with_reducible refine Kd.C_alloc ?_ _) | (with_reducible refine Kd.C_drewN ?_ _) | (with_reducible refine Kd.C_drew ?_))); (case side4 => exact HC0_4.out); (case side5 => repeat (first | exact (Kd.C_below HR1.out HB.out) | (with_reducible refine Kd.C_alloc ?_ _) | (with_reducible refine Kd.C_drewN ?_ _) | (with_reducible refine Kd.C_drew ?_))); (case side6 => exact HC1.out); rintro e w77 ⟨v213, rfl, ho0, hb⟩; refine ⟨_, rfl, ?_⟩; have n0_ := Aside0.mk (Kd.V_elder' (by (with_reducible repeat (first | apply Kd.V_alloc | apply Kd.V_drewN | apply Kd.V_drew)); exact HO_200003.out) (Kd.R_base ho0) hb); have n1_ := Aside0.mk (Kd.V_elder' (by (with_reducible repeat (first | apply Kd.V_alloc | apply Kd.V_drewN | apply Kd.V_drew)); exact HO_200004.out) (Kd.R_base ho0) hb); have n2_ := Aside0.mk (Kd.R_lower ho0 (below_size (by repeat (first | (with_reducible first | exact HB.out | apply below_alloc | apply pw_below_drewN | apply below_drew1 | refine below_set ?_ GE187.out | refine below_set ?_ GE199.out) | exact HB.out)))); have n3_ := Aside0.mk (blk_below (g := gb187) (o := .cells #[.int .i64 a0_0, .string a0_1, .string a0_2, .slice A0_3 l0_3.length c0_3, .slice A0_4 l0_4.length c0_4] 25 (0, 0)) (by (with_reducible repeat (first | refine blk_drewN ?_ _ | refine blk_drew ?_ | refine blk_alloc ?_ _)); exact BK187.out) hb); have n4_ := Aside0.mk (blk_below (g := gb199) (o := .cells #[.int .i64 t189, .string t190, .string t191, .slice Ao20 t192.length co20, .slice Ao21 t195.length co21] 25 (0, 0)) (by (with_reducible repeat (first | refine blk_drewN ?_ _ | refine blk_drew ?_ | refine blk_alloc ?_ _)); exact BK199.out) hb); have n5_ := Aside0.mk (below_step (by repeat (first | (with_reducible first | exact HB.out | apply below_alloc | apply pw_below_drewN | apply below_drew1 | refine below_set ?_ GE187.out | refine below_set ?_ GE199.out) | exact HB.out)) hb); clear HO_200003; clear HO_200004; clear BK187; clear BK199; clear HB; have HO_200003 := n0_; have HO_200004 := n1_; have HO214 := n2_; have BK187 := n3_; have BK199 := n4_; have HB := n5_; clear n0_ n1_ n2_ n3_ n4_ n5_; (try clear hb); (try clear hb2); (try clear hk); (try clear hi); (try clear ho0); have hcz78_0 : w77.cell? ⟨gb187, 0, none⟩ = some (.int .i64 a0_0) := (blk_cell BK187.out 0).trans rfl; have hcz78_1 : w77.cell? ⟨gb187, 1, none⟩ = some (.string a0_1) := (blk_cell BK187.out 1).trans rfl; have hcz78_2 : w77.cell? ⟨gb187, 2, none⟩ = some (.string a0_2) := (blk_cell BK187.out 2).trans rfl; have hcz78_3 : w77.cell? ⟨gb187, 3, none⟩ = some (.slice A0_3 l0_3.length c0_3) := (blk_cell BK187.out 3).trans rfl; have hcz78_4 : w77.cell? ⟨gb187, 4, none⟩ = some (.slice A0_4 l0_4.length c0_4) := (blk_cell BK187.out 4).trans rfl; have hfz78_0 := blk_frozen BK187.out 0; have hfz78_1 := blk_frozen BK187.out 1; have hfz78_2 := blk_frozen BK187.out 2; have hfz78_3 := blk_frozen BK187.out 3; have hfz78_4 := blk_frozen BK187.out 4) | ((with_reducible refine gate_callee (f := 26) rfl ?_); refine goesL_ (some 72) rfl rfl Try.func26 (by kernel_rfl) rfl #[.agg #[.int .i64 a0_0, .string a0_1, .string a0_2, .slice A0_3 l0_3.length c0_3, .slice A0_4 l0_4.length c0_4], .slice A1 l1.length c1, .int .i64 a2] rfl (by (try simp only [List.map_toArray, List.map_cons, List.map_nil]); first | done | rfl | (simp only [List.length_drop, List.length_take]; rfl)) ?_; (with_reducible refine (impl_Neighbor.calls kj64 a0_0 a0_1 a0_2 _ _ l0_3 _ _ l0_4 _ _ l1 a2 t216 true _ ?side1 ?side2 ?side3 ?side4 ?side5 ?side6 A69.out).mono ?_); (case side1 => repeat (first | exact (Kd.C_below HR0_3.out HB.out) | (with_reducible refine Kd.C_alloc ?_ _) | (with_reducible refine Kd.C_drewN ?_ _) | (with_reducible refine Kd.C_drew ?_))); (case side2 => exact HC0_3.out); (case side3 => repeat (first | exact (Kd.C_below HR0_4.out HB.out) | (with_reducible refine Kd.C_alloc ?_ _) | (with_reducible refine Kd.C_drewN ?_ _) | (with_reducible refine Kd.C_drew ?_))); (case side4 => exact HC0_4.out); (case side5 => repeat (first | exact (Kd.C_below HR1.out HB.out) | (with_reducible refine Kd.C_alloc ?_ _) | (with_reducible refine Kd.C_drewN ?_ _) | (with_reducible refine Kd.C_drew ?_))); (case side6 => exact HC1.out); rintro e w79 ⟨v217, rfl, ho0, hb⟩; refine ⟨_, rfl, ?_⟩; have n0_ := Aside0.mk (Kd.V_elder' (by (with_reducible repeat (first | apply Kd.V_alloc | apply Kd.V_drewN | apply Kd.V_drew)); exact HO_200003.out) (Kd.R_base ho0) hb); have n1_ := Aside0.mk (Kd.V_elder' (by (with_reducible repeat (first | apply Kd.V_alloc | apply Kd.V_drewN | apply Kd.V_drew)); exact HO_200004.out) (Kd.R_base ho0) hb); have n2_ := Aside0.mk (Kd.R_elder' (by (with_reducible repeat (first | apply Kd.R_alloc | apply Kd.R_drewN | apply Kd.R_drew)); exact HO214.out) (Kd.R_base ho0) hb); have n3_ := Aside0.mk (Kd.R_lower (Kd.R_new' ho0 (Kd.R_lt (by (with_reducible repeat (first | apply Kd.R_alloc | apply Kd.R_drewN | apply Kd.R_drew)); exact HO214.out))) (below_size (by repeat (first | (with_reducible first | exact HB.out | apply below_alloc | apply pw_below_drewN | apply below_drew1 | refine below_set ?_ GE187.out | refine below_set ?_ GE199.out) | exact HB.out)))); have n4_ := Aside0.mk (blk_below (g := gb187) (o := .cells #[.int .i64 a0_0, .string a0_1, .string a0_2, .slice A0_3 l0_3.length c0_3, .slice A0_4 l0_4.length c0_4] 25 (0, 0)) (by (with_reducible repeat (first | refine blk_drewN ?_ _ | refine blk_drew ?_ | refine blk_alloc ?_ _)); exact BK187.out) hb); have n5_ := Aside0.mk (blk_below (g := gb199) (o := .cells #[.int .i64 t189, .string t190, .string t191, .slice Ao20 t192.length co20, .slice Ao21 t195.length co21] 25 (0, 0)) (by (with_reducible repeat (first | refine blk_drewN ?_ _ | refine blk_drew ?_ | refine blk_alloc ?_ _)); exact BK199.out) hb); have n6_ := Aside0.mk (below_step (by repeat (first | (with_reducible first | exact HB.out | apply below_alloc | apply pw_below_drewN | apply below_drew1 | refine below_set ?_ GE187.out | refine below_set ?_ GE199.out) | exact HB.out)) hb); clear HO_200003; clear HO_200004; clear HO214; clear BK187; clear BK199; clear HB; have HO_200003 := n0_; have HO_200004 := n1_; have HO214 := n2_; have HO218 := n3_; have BK187 := n4_; have BK199 := n5_; have HB := n6_; clear n0_ n1_ n2_ n3_ n4_ n5_ n6_; (try clear hb); (try clear hb2); (try clear hk); (try clear hi); (try clear ho0); obtain ⟨Ao80, co80, eo80⟩ := Kd.R_slice HO218.out; subst eo80; obtain ⟨Ao81, co81, eo81⟩ := Kd.R_slice HO214.out; subst eo81) | (go_at_call 22; (with_reducible refine (laws_path29.calls kj64 _ _ t216 _ _ t212 true _ ?side1 ?side2 ?side3 ?side4 A72.out).mono ?_); (case side1 => repeat (first | exact (Kd.R_reads' HO218.out).2.2 | (with_reducible refine Kd.C_alloc ?_ _) | (with_reducible refine Kd.C_drewN ?_ _) | (with_reducible refine Kd.C_drew ?_))); (case side2 => exact (Kd.R_reads' HO218.out).2.1); (case side3 => repeat (first | exact (Kd.R_reads' HO214.out).2.2 | (with_reducible refine Kd.C_alloc ?_ _) | (with_reducible refine Kd.C_drewN ?_ _) | (with_reducible refine Kd.C_drew ?_))); (case side4 => exact (Kd.R_reads' HO214.out).2.1); rintro e w' ⟨rfl, ⟨nd, rfl⟩⟩) | (go_at_call 23; (with_reducible refine (laws_living29.calls kj64  t221 _ A74.out).mono ?_); rintro e w82 ⟨rfl, hb⟩; have n0_ := Aside0.mk (Kd.V_below (by (with_reducible repeat (first | apply Kd.V_alloc | apply Kd.V_drewN | apply Kd.V_drew)); exact HO_200003.out) hb); have n1_ := Aside0.mk (Kd.V_below (by (with_reducible repeat (first | apply Kd.V_alloc | apply Kd.V_drewN | apply Kd.V_drew)); exact HO_200004.out) hb); have n2_ := Aside0.mk (Kd.R_below (by (with_reducible repeat (first | apply Kd.R_alloc | apply Kd.R_drewN | apply Kd.R_drew)); exact HO214.out) hb); have n3_ := Aside0.mk (Kd.R_below (by (with_reducible repeat (first | apply Kd.R_alloc | apply Kd.R_drewN | apply Kd.R_drew)); exact HO218.out) hb); have n4_ := Aside0.mk (blk_below (g := gb187) (o := .cells #[.int .i64 a0_0, .string a0_1, .string a0_2, .slice A0_3 l0_3.length c0_3, .slice A0_4 l0_4.length c0_4] 25 (0, 0)) (by (with_reducible repeat (first | refine blk_drewN ?_ _ | refine blk_drew ?_ | refine blk_alloc ?_ _)); exact BK187.out) hb); have n5_ := Aside0.mk (blk_below (g := gb199) (o := .cells #[.int .i64 t189, .string t190, .string t191, .slice Ao20 t192.length co20, .slice Ao21 t195.length co21] 25 (0, 0)) (by (with_reducible repeat (first | refine blk_drewN ?_ _ | refine blk_drew ?_ | refine blk_alloc ?_ _)); exact BK199.out) hb); have n6_ := Aside0.mk (below_step (by repeat (first | (with_reducible first | exact HB.out | apply below_alloc | apply pw_below_drewN | apply below_drew1 | refine below_set ?_ GE187.out | refine below_set ?_ GE199.out) | exact HB.out)) hb); clear HO_200003; clear HO_200004; clear HO214; clear HO218; clear BK187; clear BK199; clear HB; have HO_200003 := n0_; have HO_200004 := n1_; have HO214 := n2_; have HO218 := n3_; have BK187 := n4_; have BK199 := n5_; have HB := n6_; clear n0_ n1_ n2_ n3_ n4_ n5_ n6_; (try clear hb); (try clear hb2); (try clear hk); (try clear hi)))
                                go_ret
                                exact ⟨by first | rfl | (simp [errW_none, errW_some] <;> rfl) | (simp [*, errW_none, errW_some] <;> rfl), by repeat (first | (with_reducible first | exact HB.out | apply below_alloc | apply pw_below_drewN | apply below_drew1 | refine below_set ?_ GE187.out | refine below_set ?_ GE199.out) | exact HB.out)⟩
                              · replace c73 := Bool.eq_false_iff.mpr c73
                                subst c73
                                have H1 : (some false) = some r := by rw [if_neg (show ¬ (false = true) by decide)] at H; exact H
                                clear H
                                have H := H1
                                clear H1
                                obtain rfl := Option.some.inj H
                                have hnb83 := NB187_199.out
                                have hnc83 := NB199_187.out
                                have hcz84_0 : wc.cell? ⟨gb187, 0, none⟩ = some (.int .i64 a0_0) := (blk_cell BK187.out 0).trans rfl
                                have hcz84_1 : wc.cell? ⟨gb187, 1, none⟩ = some (.string a0_1) := (blk_cell BK187.out 1).trans rfl
                                have hcz84_2 : wc.cell? ⟨gb187, 2, none⟩ = some (.string a0_2) := (blk_cell BK187.out 2).trans rfl
                                have hcz84_3 : wc.cell? ⟨gb187, 3, none⟩ = some (.slice A0_3 l0_3.length c0_3) := (blk_cell BK187.out 3).trans rfl
                                have hcz84_4 : wc.cell? ⟨gb187, 4, none⟩ = some (.slice A0_4 l0_4.length c0_4) := (blk_cell BK187.out 4).trans rfl
                                have hfz84_0 := blk_frozen BK187.out 0
                                have hfz84_1 := blk_frozen BK187.out 1
                                have hfz84_2 := blk_frozen BK187.out 2
                                have hfz84_3 := blk_frozen BK187.out 3
                                have hfz84_4 := blk_frozen BK187.out 4
                                go_wp2_with (first | ((with_reducible refine gate_callee (f := 25) rfl ?_); refine goesL_ (some 54) rfl rfl Try.func25 (by kernel_rfl) rfl #[.agg #[.int .i64 a0_0, .string a0_1, .string a0_2, .slice A0_3 l0_3.length c0_3, .slice A0_4 l0_4.length c0_4], .slice A1 l1.length c1, .int .i64 (-1), .bool (a2 == 11)] rfl (by (try simp only [List.map_toArray, List.map_cons, List.map_nil]); first | done | rfl | (simp only [List.length_drop, List.length_take]; rfl)) ?_; (with_reducible refine (spec_Beside29.calls kj64 a0_0 a0_1 a0_2 _ _ l0_3 _ _ l0_4 _ _ l1 (-1) (a2 == 11) t212 t215 _ ?side1 ?side2 ?side3 ?side4 ?side5 ?side6 A68.out).mono ?_); (case side1 => repeat (first | exact (Kd.C_below HR0_3.out HB.out) | (with_reducible refine Kd.C_alloc ?_ _) | (with_reducible refine Kd.C_drewN ?_ _) | (with_reducible refine Kd.C_drew ?_))); (case side2 => exact HC0_3.out); (case side3 => repeat (first | exact (Kd.C_below HR0_4.out HB.out) | (with_reducible refine Kd.C_alloc ?_ _) | (with_reducible refine Kd.C_drewN ?_ _) | (with_reducible refine Kd.C_drew ?_))); (case side4 => exact HC0_4.out); (case side5 => repeat (first | exact (Kd.C_below HR1.out HB.out) | (with_reducible refine Kd.C_alloc ?_ _) | (with_reducible refine Kd.C_drewN ?_ _) | (with_reducible refine Kd.C_drew ?_))); (case side6 => exact HC1.out); rintro e w85 ⟨v213, rfl, ho0, hb⟩; refine ⟨_, rfl, ?_⟩; have n0_ := Aside0.mk (Kd.V_elder' (by (with_reducible repeat (first | apply Kd.V_alloc | apply Kd.V_drewN | apply Kd.V_drew)); exact HO_200003.out) (Kd.R_base ho0) hb); have n1_ := Aside0.mk (Kd.V_elder' (by (with_reducible repeat (first | apply Kd.V_alloc | apply Kd.V_drewN | apply Kd.V_drew)); exact HO_200004.out) (Kd.R_base ho0) hb); have n2_ := Aside0.mk (Kd.R_lower ho0 (below_size (by repeat (first | (with_reducible first | exact HB.out | apply below_alloc | apply pw_below_drewN | apply below_drew1 | refine below_set ?_ GE187.out | refine below_set ?_ GE199.out) | exact HB.out)))); have n3_ := Aside0.mk (blk_below (g := gb187) (o := .cells #[.int .i64 a0_0, .string a0_1, .string a0_2, .slice A0_3 l0_3.length c0_3, .slice A0_4 l0_4.length c0_4] 25 (0, 0)) (by (with_reducible repeat (first | refine blk_drewN ?_ _ | refine blk_drew ?_ | refine blk_alloc ?_ _)); exact BK187.out) hb); have n4_ := Aside0.mk (blk_below (g := gb199) (o := .cells #[.int .i64 t189, .string t190, .string t191, .slice Ao20 t192.length co20, .slice Ao21 t195.length co21] 25 (0, 0)) (by (with_reducible repeat (first | refine blk_drewN ?_ _ | refine blk_drew ?_ | refine blk_alloc ?_ _)); exact BK199.out) hb); have n5_ := Aside0.mk (below_step (by repeat (first | (with_reducible first | exact HB.out | apply below_alloc | apply pw_below_drewN | apply below_drew1 | refine below_set ?_ GE187.out | refine below_set ?_ GE199.out) | exact HB.out)) hb); clear HO_200003; clear HO_200004; clear BK187; clear BK199; clear HB; have HO_200003 := n0_; have HO_200004 := n1_; have HO214 := n2_; have BK187 := n3_; have BK199 := n4_; have HB := n5_; clear n0_ n1_ n2_ n3_ n4_ n5_; (try clear hb); (try clear hb2); (try clear hk); (try clear hi); (try clear ho0); have hcz86_0 : w85.cell? ⟨gb187, 0, none⟩ = some (.int .i64 a0_0) := (blk_cell BK187.out 0).trans rfl; have hcz86_1 : w85.cell? ⟨gb187, 1, none⟩ = some (.string a0_1) := (blk_cell BK187.out 1).trans rfl; have hcz86_2 : w85.cell? ⟨gb187, 2, none⟩ = some (.string a0_2) := (blk_cell BK187.out 2).trans rfl; have hcz86_3 : w85.cell? ⟨gb187, 3, none⟩ = some (.slice A0_3 l0_3.length c0_3) := (blk_cell BK187.out 3).trans rfl; have hcz86_4 : w85.cell? ⟨gb187, 4, none⟩ = some (.slice A0_4 l0_4.length c0_4) := (blk_cell BK187.out 4).trans rfl; have hfz86_0 := blk_frozen BK187.out 0; have hfz86_1 := blk_frozen BK187.out 1; have hfz86_2 := blk_frozen BK187.out 2; have hfz86_3 := blk_frozen BK187.out 3; have hfz86_4 := blk_frozen BK187.out 4) | ((with_reducible refine gate_callee (f := 26) rfl ?_); refine goesL_ (some 72) rfl rfl Try.func26 (by kernel_rfl) rfl #[.agg #[.int .i64 a0_0, .string a0_1, .string a0_2, .slice A0_3 l0_3.length c0_3, .slice A0_4 l0_4.length c0_4], .slice A1 l1.length c1, .int .i64 a2] rfl (by (try simp only [List.map_toArray, List.map_cons, List.map_nil]); first | done | rfl | (simp only [List.length_drop, List.length_take]; rfl)) ?_; (with_reducible refine (impl_Neighbor.calls kj64 a0_0 a0_1 a0_2 _ _ l0_3 _ _ l0_4 _ _ l1 a2 t216 true _ ?side1 ?side2 ?side3 ?side4 ?side5 ?side6 A69.out).mono ?_); (case side1 => repeat (first | exact (Kd.C_below HR0_3.out HB.out) | (with_reducible refine Kd.C_alloc ?_ _) | (with_reducible refine Kd.C_drewN ?_ _) | (with_reducible refine Kd.C_drew ?_))); (case side2 => exact HC0_3.out); (case side3 => repeat (first | exact (Kd.C_below HR0_4.out HB.out) | (with_reducible refine Kd.C_alloc ?_ _) | (with_reducible refine Kd.C_drewN ?_ _) | (with_reducible refine Kd.C_drew ?_))); (case side4 => exact HC0_4.out); (case side5 => repeat (first | exact (Kd.C_below HR1.out HB.out) | (with_reducible refine Kd.C_alloc ?_ _) | (with_reducible refine Kd.C_drewN ?_ _) | (with_reducible refine Kd.C_drew ?_))); (case side6 => exact HC1.out); rintro e w87 ⟨v217, rfl, ho0, hb⟩; refine ⟨_, rfl, ?_⟩; have n0_ := Aside0.mk (Kd.V_elder' (by (with_reducible repeat (first | apply Kd.V_alloc | apply Kd.V_drewN | apply Kd.V_drew)); exact HO_200003.out) (Kd.R_base ho0) hb); have n1_ := Aside0.mk (Kd.V_elder' (by (with_reducible repeat (first | apply Kd.V_alloc | apply Kd.V_drewN | apply Kd.V_drew)); exact HO_200004.out) (Kd.R_base ho0) hb); have n2_ := Aside0.mk (Kd.R_elder' (by (with_reducible repeat (first | apply Kd.R_alloc | apply Kd.R_drewN | apply Kd.R_drew)); exact HO214.out) (Kd.R_base ho0) hb); have n3_ := Aside0.mk (Kd.R_lower (Kd.R_new' ho0 (Kd.R_lt (by (with_reducible repeat (first | apply Kd.R_alloc | apply Kd.R_drewN | apply Kd.R_drew)); exact HO214.out))) (below_size (by repeat (first | (with_reducible first | exact HB.out | apply below_alloc | apply pw_below_drewN | apply below_drew1 | refine below_set ?_ GE187.out | refine below_set ?_ GE199.out) | exact HB.out)))); have n4_ := Aside0.mk (blk_below (g := gb187) (o := .cells #[.int .i64 a0_0, .string a0_1, .string a0_2, .slice A0_3 l0_3.length c0_3, .slice A0_4 l0_4.length c0_4] 25 (0, 0)) (by (with_reducible repeat (first | refine blk_drewN ?_ _ | refine blk_drew ?_ | refine blk_alloc ?_ _)); exact BK187.out) hb); have n5_ := Aside0.mk (blk_below (g := gb199) (o := .cells #[.int .i64 t189, .string t190, .string t191, .slice Ao20 t192.length co20, .slice Ao21 t195.length co21] 25 (0, 0)) (by (with_reducible repeat (first | refine blk_drewN ?_ _ | refine blk_drew ?_ | refine blk_alloc ?_ _)); exact BK199.out) hb); have n6_ := Aside0.mk (below_step (by repeat (first | (with_reducible first | exact HB.out | apply below_alloc | apply pw_below_drewN | apply below_drew1 | refine below_set ?_ GE187.out | refine below_set ?_ GE199.out) | exact HB.out)) hb); clear HO_200003; clear HO_200004; clear HO214; clear BK187; clear BK199; clear HB; have HO_200003 := n0_; have HO_200004 := n1_; have HO214 := n2_; have HO218 := n3_; have BK187 := n4_; have BK199 := n5_; have HB := n6_; clear n0_ n1_ n2_ n3_ n4_ n5_ n6_; (try clear hb); (try clear hb2); (try clear hk); (try clear hi); (try clear ho0); obtain ⟨Ao88, co88, eo88⟩ := Kd.R_slice HO218.out; subst eo88; obtain ⟨Ao89, co89, eo89⟩ := Kd.R_slice HO214.out; subst eo89) | (go_at_call 22; (with_reducible refine (laws_path29.calls kj64 _ _ t216 _ _ t212 false _ ?side1 ?side2 ?side3 ?side4 A72.out).mono ?_); (case side1 => repeat (first | exact (Kd.R_reads' HO218.out).2.2 | (with_reducible refine Kd.C_alloc ?_ _) | (with_reducible refine Kd.C_drewN ?_ _) | (with_reducible refine Kd.C_drew ?_))); (case side2 => exact (Kd.R_reads' HO218.out).2.1); (case side3 => repeat (first | exact (Kd.R_reads' HO214.out).2.2 | (with_reducible refine Kd.C_alloc ?_ _) | (with_reducible refine Kd.C_drewN ?_ _) | (with_reducible refine Kd.C_drew ?_))); (case side4 => exact (Kd.R_reads' HO214.out).2.1); rintro e w' ⟨rfl, ⟨nd, rfl⟩⟩))
                                go_ret
                                exact ⟨by first | rfl | (simp [errW_none, errW_some] <;> rfl) | (simp [*, errW_none, errW_some] <;> rfl), by repeat (first | (with_reducible first | exact HB.out | apply below_alloc | apply pw_below_drewN | apply below_drew1 | refine below_set ?_ GE187.out | refine below_set ?_ GE199.out) | exact HB.out)⟩
                            · replace c71 := Bool.eq_false_iff.mpr c71
                              subst c71
                              have H1 : ((laws_living29.f kj64).bind fun t222 => (some t222)) = some r := by rw [if_neg (show ¬ (false = true) by decide)] at H; exact H
                              clear H
                              have H := H1
                              clear H1
                              replace H := Option.bind_eq_some_iff.mp H
                              obtain ⟨t222, A900, H⟩ := H
                              replace H : (some t222) = some r := H
                              have A90 := Aside0.mk A900
                              clear A900
                              obtain rfl := Option.some.inj H
                              have hnb91 := NB187_199.out
                              have hnc91 := NB199_187.out
                              have hcz92_0 : wc.cell? ⟨gb187, 0, none⟩ = some (.int .i64 a0_0) := (blk_cell BK187.out 0).trans rfl
                              have hcz92_1 : wc.cell? ⟨gb187, 1, none⟩ = some (.string a0_1) := (blk_cell BK187.out 1).trans rfl
                              have hcz92_2 : wc.cell? ⟨gb187, 2, none⟩ = some (.string a0_2) := (blk_cell BK187.out 2).trans rfl
                              have hcz92_3 : wc.cell? ⟨gb187, 3, none⟩ = some (.slice A0_3 l0_3.length c0_3) := (blk_cell BK187.out 3).trans rfl
                              have hcz92_4 : wc.cell? ⟨gb187, 4, none⟩ = some (.slice A0_4 l0_4.length c0_4) := (blk_cell BK187.out 4).trans rfl
                              have hfz92_0 := blk_frozen BK187.out 0
                              have hfz92_1 := blk_frozen BK187.out 1
                              have hfz92_2 := blk_frozen BK187.out 2
                              have hfz92_3 := blk_frozen BK187.out 3
                              have hfz92_4 := blk_frozen BK187.out 4
                              go_wp2_with (first | ((with_reducible refine gate_callee (f := 25) rfl ?_); refine goesL_ (some 54) rfl rfl Try.func25 (by kernel_rfl) rfl #[.agg #[.int .i64 a0_0, .string a0_1, .string a0_2, .slice A0_3 l0_3.length c0_3, .slice A0_4 l0_4.length c0_4], .slice A1 l1.length c1, .int .i64 (-1), .bool (a2 == 11)] rfl (by (try simp only [List.map_toArray, List.map_cons, List.map_nil]); first | done | rfl | (simp only [List.length_drop, List.length_take]; rfl)) ?_; (with_reducible refine (spec_Beside29.calls kj64 a0_0 a0_1 a0_2 _ _ l0_3 _ _ l0_4 _ _ l1 (-1) (a2 == 11) t212 t215 _ ?side1 ?side2 ?side3 ?side4 ?side5 ?side6 A68.out).mono ?_); (case side1 => repeat (first | exact (Kd.C_below HR0_3.out HB.out) | (with_reducible refine Kd.C_alloc ?_ _) | (with_reducible refine Kd.C_drewN ?_ _) | (with_reducible refine Kd.C_drew ?_))); (case side2 => exact HC0_3.out); (case side3 => repeat (first | exact (Kd.C_below HR0_4.out HB.out) | (with_reducible refine Kd.C_alloc ?_ _) | (with_reducible refine Kd.C_drewN ?_ _) | (with_reducible refine Kd.C_drew ?_))); (case side4 => exact HC0_4.out); (case side5 => repeat (first | exact (Kd.C_below HR1.out HB.out) | (with_reducible refine Kd.C_alloc ?_ _) | (with_reducible refine Kd.C_drewN ?_ _) | (with_reducible refine Kd.C_drew ?_))); (case side6 => exact HC1.out); rintro e w93 ⟨v213, rfl, ho0, hb⟩; refine ⟨_, rfl, ?_⟩; have n0_ := Aside0.mk (Kd.V_elder' (by (with_reducible repeat (first | apply Kd.V_alloc | apply Kd.V_drewN | apply Kd.V_drew)); exact HO_200003.out) (Kd.R_base ho0) hb); have n1_ := Aside0.mk (Kd.V_elder' (by (with_reducible repeat (first | apply Kd.V_alloc | apply Kd.V_drewN | apply Kd.V_drew)); exact HO_200004.out) (Kd.R_base ho0) hb); have n2_ := Aside0.mk (Kd.R_lower ho0 (below_size (by repeat (first | (with_reducible first | exact HB.out | apply below_alloc | apply pw_below_drewN | apply below_drew1 | refine below_set ?_ GE187.out | refine below_set ?_ GE199.out) | exact HB.out)))); have n3_ := Aside0.mk (blk_below (g := gb187) (o := .cells #[.int .i64 a0_0, .string a0_1, .string a0_2, .slice A0_3 l0_3.length c0_3, .slice A0_4 l0_4.length c0_4] 25 (0, 0)) (by (with_reducible repeat (first | refine blk_drewN ?_ _ | refine blk_drew ?_ | refine blk_alloc ?_ _)); exact BK187.out) hb); have n4_ := Aside0.mk (blk_below (g := gb199) (o := .cells #[.int .i64 t189, .string t190, .string t191, .slice Ao20 t192.length co20, .slice Ao21 t195.length co21] 25 (0, 0)) (by (with_reducible repeat (first | refine blk_drewN ?_ _ | refine blk_drew ?_ | refine blk_alloc ?_ _)); exact BK199.out) hb); have n5_ := Aside0.mk (below_step (by repeat (first | (with_reducible first | exact HB.out | apply below_alloc | apply pw_below_drewN | apply below_drew1 | refine below_set ?_ GE187.out | refine below_set ?_ GE199.out) | exact HB.out)) hb); clear HO_200003; clear HO_200004; clear BK187; clear BK199; clear HB; have HO_200003 := n0_; have HO_200004 := n1_; have HO214 := n2_; have BK187 := n3_; have BK199 := n4_; have HB := n5_; clear n0_ n1_ n2_ n3_ n4_ n5_; (try clear hb); (try clear hb2); (try clear hk); (try clear hi); (try clear ho0); have hcz94_0 : w93.cell? ⟨gb187, 0, none⟩ = some (.int .i64 a0_0) := (blk_cell BK187.out 0).trans rfl; have hcz94_1 : w93.cell? ⟨gb187, 1, none⟩ = some (.string a0_1) := (blk_cell BK187.out 1).trans rfl; have hcz94_2 : w93.cell? ⟨gb187, 2, none⟩ = some (.string a0_2) := (blk_cell BK187.out 2).trans rfl; have hcz94_3 : w93.cell? ⟨gb187, 3, none⟩ = some (.slice A0_3 l0_3.length c0_3) := (blk_cell BK187.out 3).trans rfl; have hcz94_4 : w93.cell? ⟨gb187, 4, none⟩ = some (.slice A0_4 l0_4.length c0_4) := (blk_cell BK187.out 4).trans rfl; have hfz94_0 := blk_frozen BK187.out 0; have hfz94_1 := blk_frozen BK187.out 1; have hfz94_2 := blk_frozen BK187.out 2; have hfz94_3 := blk_frozen BK187.out 3; have hfz94_4 := blk_frozen BK187.out 4) | ((with_reducible refine gate_callee (f := 26) rfl ?_); refine goesL_ (some 72) rfl rfl Try.func26 (by kernel_rfl) rfl #[.agg #[.int .i64 a0_0, .string a0_1, .string a0_2, .slice A0_3 l0_3.length c0_3, .slice A0_4 l0_4.length c0_4], .slice A1 l1.length c1, .int .i64 a2] rfl (by (try simp only [List.map_toArray, List.map_cons, List.map_nil]); first | done | rfl | (simp only [List.length_drop, List.length_take]; rfl)) ?_; (with_reducible refine (impl_Neighbor.calls kj64 a0_0 a0_1 a0_2 _ _ l0_3 _ _ l0_4 _ _ l1 a2 t216 false _ ?side1 ?side2 ?side3 ?side4 ?side5 ?side6 A69.out).mono ?_); (case side1 => repeat (first | exact (Kd.C_below HR0_3.out HB.out) | (with_reducible refine Kd.C_alloc ?_ _) | (with_reducible refine Kd.C_drewN ?_ _) | (with_reducible refine Kd.C_drew ?_))); (case side2 => exact HC0_3.out); (case side3 => repeat (first | exact (Kd.C_below HR0_4.out HB.out) | (with_reducible refine Kd.C_alloc ?_ _) | (with_reducible refine Kd.C_drewN ?_ _) | (with_reducible refine Kd.C_drew ?_))); (case side4 => exact HC0_4.out); (case side5 => repeat (first | exact (Kd.C_below HR1.out HB.out) | (with_reducible refine Kd.C_alloc ?_ _) | (with_reducible refine Kd.C_drewN ?_ _) | (with_reducible refine Kd.C_drew ?_))); (case side6 => exact HC1.out); rintro e w95 ⟨v217, rfl, ho0, hb⟩; refine ⟨_, rfl, ?_⟩; have n0_ := Aside0.mk (Kd.V_elder' (by (with_reducible repeat (first | apply Kd.V_alloc | apply Kd.V_drewN | apply Kd.V_drew)); exact HO_200003.out) (Kd.R_base ho0) hb); have n1_ := Aside0.mk (Kd.V_elder' (by (with_reducible repeat (first | apply Kd.V_alloc | apply Kd.V_drewN | apply Kd.V_drew)); exact HO_200004.out) (Kd.R_base ho0) hb); have n2_ := Aside0.mk (Kd.R_elder' (by (with_reducible repeat (first | apply Kd.R_alloc | apply Kd.R_drewN | apply Kd.R_drew)); exact HO214.out) (Kd.R_base ho0) hb); have n3_ := Aside0.mk (Kd.R_lower (Kd.R_new' ho0 (Kd.R_lt (by (with_reducible repeat (first | apply Kd.R_alloc | apply Kd.R_drewN | apply Kd.R_drew)); exact HO214.out))) (below_size (by repeat (first | (with_reducible first | exact HB.out | apply below_alloc | apply pw_below_drewN | apply below_drew1 | refine below_set ?_ GE187.out | refine below_set ?_ GE199.out) | exact HB.out)))); have n4_ := Aside0.mk (blk_below (g := gb187) (o := .cells #[.int .i64 a0_0, .string a0_1, .string a0_2, .slice A0_3 l0_3.length c0_3, .slice A0_4 l0_4.length c0_4] 25 (0, 0)) (by (with_reducible repeat (first | refine blk_drewN ?_ _ | refine blk_drew ?_ | refine blk_alloc ?_ _)); exact BK187.out) hb); have n5_ := Aside0.mk (blk_below (g := gb199) (o := .cells #[.int .i64 t189, .string t190, .string t191, .slice Ao20 t192.length co20, .slice Ao21 t195.length co21] 25 (0, 0)) (by (with_reducible repeat (first | refine blk_drewN ?_ _ | refine blk_drew ?_ | refine blk_alloc ?_ _)); exact BK199.out) hb); have n6_ := Aside0.mk (below_step (by repeat (first | (with_reducible first | exact HB.out | apply below_alloc | apply pw_below_drewN | apply below_drew1 | refine below_set ?_ GE187.out | refine below_set ?_ GE199.out) | exact HB.out)) hb); clear HO_200003; clear HO_200004; clear HO214; clear BK187; clear BK199; clear HB; have HO_200003 := n0_; have HO_200004 := n1_; have HO214 := n2_; have HO218 := n3_; have BK187 := n4_; have BK199 := n5_; have HB := n6_; clear n0_ n1_ n2_ n3_ n4_ n5_ n6_; (try clear hb); (try clear hb2); (try clear hk); (try clear hi); (try clear ho0)) | (go_at_call 23; (with_reducible refine (laws_living29.calls kj64  t222 _ A90.out).mono ?_); rintro e w96 ⟨rfl, hb⟩; have n0_ := Aside0.mk (Kd.V_below (by (with_reducible repeat (first | apply Kd.V_alloc | apply Kd.V_drewN | apply Kd.V_drew)); exact HO_200003.out) hb); have n1_ := Aside0.mk (Kd.V_below (by (with_reducible repeat (first | apply Kd.V_alloc | apply Kd.V_drewN | apply Kd.V_drew)); exact HO_200004.out) hb); have n2_ := Aside0.mk (Kd.R_below (by (with_reducible repeat (first | apply Kd.R_alloc | apply Kd.R_drewN | apply Kd.R_drew)); exact HO214.out) hb); have n3_ := Aside0.mk (Kd.R_below (by (with_reducible repeat (first | apply Kd.R_alloc | apply Kd.R_drewN | apply Kd.R_drew)); exact HO218.out) hb); have n4_ := Aside0.mk (blk_below (g := gb187) (o := .cells #[.int .i64 a0_0, .string a0_1, .string a0_2, .slice A0_3 l0_3.length c0_3, .slice A0_4 l0_4.length c0_4] 25 (0, 0)) (by (with_reducible repeat (first | refine blk_drewN ?_ _ | refine blk_drew ?_ | refine blk_alloc ?_ _)); exact BK187.out) hb); have n5_ := Aside0.mk (blk_below (g := gb199) (o := .cells #[.int .i64 t189, .string t190, .string t191, .slice Ao20 t192.length co20, .slice Ao21 t195.length co21] 25 (0, 0)) (by (with_reducible repeat (first | refine blk_drewN ?_ _ | refine blk_drew ?_ | refine blk_alloc ?_ _)); exact BK199.out) hb); have n6_ := Aside0.mk (below_step (by repeat (first | (with_reducible first | exact HB.out | apply below_alloc | apply pw_below_drewN | apply below_drew1 | refine below_set ?_ GE187.out | refine below_set ?_ GE199.out) | exact HB.out)) hb); clear HO_200003; clear HO_200004; clear HO214; clear HO218; clear BK187; clear BK199; clear HB; have HO_200003 := n0_; have HO_200004 := n1_; have HO214 := n2_; have HO218 := n3_; have BK187 := n4_; have BK199 := n5_; have HB := n6_; clear n0_ n1_ n2_ n3_ n4_ n5_ n6_; (try clear hb); (try clear hb2); (try clear hk); (try clear hi)))
                              go_ret
                              exact ⟨by first | rfl | (simp [errW_none, errW_some] <;> rfl) | (simp [*, errW_none, errW_some] <;> rfl), by repeat (first | (with_reducible first | exact HB.out | apply below_alloc | apply pw_below_drewN | apply below_drew1 | refine below_set ?_ GE187.out | refine below_set ?_ GE199.out) | exact HB.out)⟩
                          · rw [if_neg c70] at H
                            have c70b0 : (t219 == t215) = false := by simpa using c70
                            (try (have c70b1 : decide (t219 = t215) = false := by simpa using c70))
                            (try (have c70b2 : (t219 == t215) = false := by simpa using c70))
                            (try (have c70b3 : ¬ (t219 = t215) := by simpa using c70))
                            clear c70
                            obtain rfl := Option.some.inj H
                            have hnb97 := NB187_199.out
                            have hnc97 := NB199_187.out
                            have hcz98_0 : wc.cell? ⟨gb187, 0, none⟩ = some (.int .i64 a0_0) := (blk_cell BK187.out 0).trans rfl
                            have hcz98_1 : wc.cell? ⟨gb187, 1, none⟩ = some (.string a0_1) := (blk_cell BK187.out 1).trans rfl
                            have hcz98_2 : wc.cell? ⟨gb187, 2, none⟩ = some (.string a0_2) := (blk_cell BK187.out 2).trans rfl
                            have hcz98_3 : wc.cell? ⟨gb187, 3, none⟩ = some (.slice A0_3 l0_3.length c0_3) := (blk_cell BK187.out 3).trans rfl
                            have hcz98_4 : wc.cell? ⟨gb187, 4, none⟩ = some (.slice A0_4 l0_4.length c0_4) := (blk_cell BK187.out 4).trans rfl
                            have hfz98_0 := blk_frozen BK187.out 0
                            have hfz98_1 := blk_frozen BK187.out 1
                            have hfz98_2 := blk_frozen BK187.out 2
                            have hfz98_3 := blk_frozen BK187.out 3
                            have hfz98_4 := blk_frozen BK187.out 4
                            go_wp2_with (first | ((with_reducible refine gate_callee (f := 25) rfl ?_); refine goesL_ (some 54) rfl rfl Try.func25 (by kernel_rfl) rfl #[.agg #[.int .i64 a0_0, .string a0_1, .string a0_2, .slice A0_3 l0_3.length c0_3, .slice A0_4 l0_4.length c0_4], .slice A1 l1.length c1, .int .i64 (-1), .bool (a2 == 11)] rfl (by (try simp only [List.map_toArray, List.map_cons, List.map_nil]); first | done | rfl | (simp only [List.length_drop, List.length_take]; rfl)) ?_; (with_reducible refine (spec_Beside29.calls kj64 a0_0 a0_1 a0_2 _ _ l0_3 _ _ l0_4 _ _ l1 (-1) (a2 == 11) t212 t215 _ ?side1 ?side2 ?side3 ?side4 ?side5 ?side6 A68.out).mono ?_); (case side1 => repeat (first | exact (Kd.C_below HR0_3.out HB.out) | (with_reducible refine Kd.C_alloc ?_ _) | (with_reducible refine Kd.C_drewN ?_ _) | (with_reducible refine Kd.C_drew ?_))); (case side2 => exact HC0_3.out); (case side3 => repeat (first | exact (Kd.C_below HR0_4.out HB.out) | (with_reducible refine Kd.C_alloc ?_ _) | (with_reducible refine Kd.C_drewN ?_ _) | (with_reducible refine Kd.C_drew ?_))); (case side4 => exact HC0_4.out); (case side5 => repeat (first | exact (Kd.C_below HR1.out HB.out) | (with_reducible refine Kd.C_alloc ?_ _) | (with_reducible refine Kd.C_drewN ?_ _) | (with_reducible refine Kd.C_drew ?_))); (case side6 => exact HC1.out); rintro e w99 ⟨v213, rfl, ho0, hb⟩; refine ⟨_, rfl, ?_⟩; have n0_ := Aside0.mk (Kd.V_elder' (by (with_reducible repeat (first | apply Kd.V_alloc | apply Kd.V_drewN | apply Kd.V_drew)); exact HO_200003.out) (Kd.R_base ho0) hb); have n1_ := Aside0.mk (Kd.V_elder' (by (with_reducible repeat (first | apply Kd.V_alloc | apply Kd.V_drewN | apply Kd.V_drew)); exact HO_200004.out) (Kd.R_base ho0) hb); have n2_ := Aside0.mk (Kd.R_lower ho0 (below_size (by repeat (first | (with_reducible first | exact HB.out | apply below_alloc | apply pw_below_drewN | apply below_drew1 | refine below_set ?_ GE187.out | refine below_set ?_ GE199.out) | exact HB.out)))); have n3_ := Aside0.mk (blk_below (g := gb187) (o := .cells #[.int .i64 a0_0, .string a0_1, .string a0_2, .slice A0_3 l0_3.length c0_3, .slice A0_4 l0_4.length c0_4] 25 (0, 0)) (by (with_reducible repeat (first | refine blk_drewN ?_ _ | refine blk_drew ?_ | refine blk_alloc ?_ _)); exact BK187.out) hb); have n4_ := Aside0.mk (blk_below (g := gb199) (o := .cells #[.int .i64 t189, .string t190, .string t191, .slice Ao20 t192.length co20, .slice Ao21 t195.length co21] 25 (0, 0)) (by (with_reducible repeat (first | refine blk_drewN ?_ _ | refine blk_drew ?_ | refine blk_alloc ?_ _)); exact BK199.out) hb); have n5_ := Aside0.mk (below_step (by repeat (first | (with_reducible first | exact HB.out | apply below_alloc | apply pw_below_drewN | apply below_drew1 | refine below_set ?_ GE187.out | refine below_set ?_ GE199.out) | exact HB.out)) hb); clear HO_200003; clear HO_200004; clear BK187; clear BK199; clear HB; have HO_200003 := n0_; have HO_200004 := n1_; have HO214 := n2_; have BK187 := n3_; have BK199 := n4_; have HB := n5_; clear n0_ n1_ n2_ n3_ n4_ n5_; (try clear hb); (try clear hb2); (try clear hk); (try clear hi); (try clear ho0); have hcz100_0 : w99.cell? ⟨gb187, 0, none⟩ = some (.int .i64 a0_0) := (blk_cell BK187.out 0).trans rfl; have hcz100_1 : w99.cell? ⟨gb187, 1, none⟩ = some (.string a0_1) := (blk_cell BK187.out 1).trans rfl; have hcz100_2 : w99.cell? ⟨gb187, 2, none⟩ = some (.string a0_2) := (blk_cell BK187.out 2).trans rfl; have hcz100_3 : w99.cell? ⟨gb187, 3, none⟩ = some (.slice A0_3 l0_3.length c0_3) := (blk_cell BK187.out 3).trans rfl; have hcz100_4 : w99.cell? ⟨gb187, 4, none⟩ = some (.slice A0_4 l0_4.length c0_4) := (blk_cell BK187.out 4).trans rfl; have hfz100_0 := blk_frozen BK187.out 0; have hfz100_1 := blk_frozen BK187.out 1; have hfz100_2 := blk_frozen BK187.out 2; have hfz100_3 := blk_frozen BK187.out 3; have hfz100_4 := blk_frozen BK187.out 4) | ((with_reducible refine gate_callee (f := 26) rfl ?_); refine goesL_ (some 72) rfl rfl Try.func26 (by kernel_rfl) rfl #[.agg #[.int .i64 a0_0, .string a0_1, .string a0_2, .slice A0_3 l0_3.length c0_3, .slice A0_4 l0_4.length c0_4], .slice A1 l1.length c1, .int .i64 a2] rfl (by (try simp only [List.map_toArray, List.map_cons, List.map_nil]); first | done | rfl | (simp only [List.length_drop, List.length_take]; rfl)) ?_; (with_reducible refine (impl_Neighbor.calls kj64 a0_0 a0_1 a0_2 _ _ l0_3 _ _ l0_4 _ _ l1 a2 t216 t219 _ ?side1 ?side2 ?side3 ?side4 ?side5 ?side6 A69.out).mono ?_); (case side1 => repeat (first | exact (Kd.C_below HR0_3.out HB.out) | (with_reducible refine Kd.C_alloc ?_ _) | (with_reducible refine Kd.C_drewN ?_ _) | (with_reducible refine Kd.C_drew ?_))); (case side2 => exact HC0_3.out); (case side3 => repeat (first | exact (Kd.C_below HR0_4.out HB.out) | (with_reducible refine Kd.C_alloc ?_ _) | (with_reducible refine Kd.C_drewN ?_ _) | (with_reducible refine Kd.C_drew ?_))); (case side4 => exact HC0_4.out); (case side5 => repeat (first | exact (Kd.C_below HR1.out HB.out) | (with_reducible refine Kd.C_alloc ?_ _) | (with_reducible refine Kd.C_drewN ?_ _) | (with_reducible refine Kd.C_drew ?_))); (case side6 => exact HC1.out); rintro e w101 ⟨v217, rfl, ho0, hb⟩; refine ⟨_, rfl, ?_⟩; have n0_ := Aside0.mk (Kd.V_elder' (by (with_reducible repeat (first | apply Kd.V_alloc | apply Kd.V_drewN | apply Kd.V_drew)); exact HO_200003.out) (Kd.R_base ho0) hb); have n1_ := Aside0.mk (Kd.V_elder' (by (with_reducible repeat (first | apply Kd.V_alloc | apply Kd.V_drewN | apply Kd.V_drew)); exact HO_200004.out) (Kd.R_base ho0) hb); have n2_ := Aside0.mk (Kd.R_elder' (by (with_reducible repeat (first | apply Kd.R_alloc | apply Kd.R_drewN | apply Kd.R_drew)); exact HO214.out) (Kd.R_base ho0) hb); have n3_ := Aside0.mk (Kd.R_lower (Kd.R_new' ho0 (Kd.R_lt (by (with_reducible repeat (first | apply Kd.R_alloc | apply Kd.R_drewN | apply Kd.R_drew)); exact HO214.out))) (below_size (by repeat (first | (with_reducible first | exact HB.out | apply below_alloc | apply pw_below_drewN | apply below_drew1 | refine below_set ?_ GE187.out | refine below_set ?_ GE199.out) | exact HB.out)))); have n4_ := Aside0.mk (blk_below (g := gb187) (o := .cells #[.int .i64 a0_0, .string a0_1, .string a0_2, .slice A0_3 l0_3.length c0_3, .slice A0_4 l0_4.length c0_4] 25 (0, 0)) (by (with_reducible repeat (first | refine blk_drewN ?_ _ | refine blk_drew ?_ | refine blk_alloc ?_ _)); exact BK187.out) hb); have n5_ := Aside0.mk (blk_below (g := gb199) (o := .cells #[.int .i64 t189, .string t190, .string t191, .slice Ao20 t192.length co20, .slice Ao21 t195.length co21] 25 (0, 0)) (by (with_reducible repeat (first | refine blk_drewN ?_ _ | refine blk_drew ?_ | refine blk_alloc ?_ _)); exact BK199.out) hb); have n6_ := Aside0.mk (below_step (by repeat (first | (with_reducible first | exact HB.out | apply below_alloc | apply pw_below_drewN | apply below_drew1 | refine below_set ?_ GE187.out | refine below_set ?_ GE199.out) | exact HB.out)) hb); clear HO_200003; clear HO_200004; clear HO214; clear BK187; clear BK199; clear HB; have HO_200003 := n0_; have HO_200004 := n1_; have HO214 := n2_; have HO218 := n3_; have BK187 := n4_; have BK199 := n5_; have HB := n6_; clear n0_ n1_ n2_ n3_ n4_ n5_ n6_; (try clear hb); (try clear hb2); (try clear hk); (try clear hi); (try clear ho0)))
                            go_ret
                            exact ⟨by first | rfl | (simp [errW_none, errW_some] <;> rfl) | (simp [*, errW_none, errW_some] <;> rfl), by repeat (first | (with_reducible first | exact HB.out | apply below_alloc | apply pw_below_drewN | apply below_drew1 | refine below_set ?_ GE187.out | refine below_set ?_ GE199.out) | exact HB.out)⟩
                        · replace c67 := Bool.eq_false_iff.mpr c67
                          subst c67
                          have H1 : (if a2 = 12 then (laws_FnDomSibling.j4 kj64 l1 a2 (a2 == 12) a0_0 a0_1 a0_2 l0_3 l0_4) else (laws_FnDomSibling.j4 kj64 l1 a2 (a2 == 13) a0_0 a0_1 a0_2 l0_3 l0_4)) = some r := by rw [if_neg (show ¬ (false = true) by decide)] at H; exact H
                          clear H
                          have H := H1
                          clear H1
                          have HC102 := Aside0.mk H
                          clear H
                          go_upto_if 57 with (fail)
                          go_cut [57] (fun v57 wc => ∃ (kq : Nat) (x57_101 : Bool), v57 = .bool x57_101 ∧ Aside0 (laws_FnDomSibling.j4 kq l1 a2 x57_101 a0_0 a0_1 a0_2 l0_3 l0_4 = some r) ∧ Aside0 (kq ≤ kj64) ∧ Aside0 (Kd.V k78 78 wc w.heap.size (fun k_ => k_ ≠ gb187 ∧ k_ ≠ gb199) (.slice Ao20 t192.length co20) t192) ∧ Aside0 (Kd.V k25 25 wc w.heap.size (fun k_ => k_ ≠ gb187 ∧ k_ ≠ gb199) (.slice Ao21 t195.length co21) t195) ∧ Aside0 (wc.heap[gb187]? = some (.cells #[.int .i64 a0_0, .string a0_1, .string a0_2, (.slice A0_3 l0_3.length c0_3), (.slice A0_4 l0_4.length c0_4)] 25 (0, 0))) ∧ Aside0 (wc.heap[gb199]? = some (.cells #[.int .i64 t189, .string t190, .string t191, (.slice Ao20 t192.length co20), (.slice Ao21 t195.length co21)] 25 (0, 0))) ∧ Aside0 (Below w.heap.size w wc))
                          case first =>
                            have H := HC102.out
                            clear HC102
                            by_cases c103 : a2 = 12
                            · rw [if_pos c103] at H
                              have c103b0 : (a2 == 12) = true := beq_iff_eq.mpr c103
                              have c103b1 : (a2 != 12) = false := bne_eq_false_iff_eq.mpr c103
                              clear c103
                              (first | rw [c103b0] | (simp only [i64_w, i32_w]; rw [c103b0]) | skip)
                              have H' := Aside0.mk H
                              clear H
                              go_wp2
                              go_meet
                              case rel => exact ⟨_, ((a2 == 12)), (by first | rfl | (simp; done) | (simp [*]; done)), H', ⟨by have := HJ3.out; have := HJ13.out; have := HJ27.out; have := HJ64.out; first | omega | exact Nat.le_refl _⟩, ⟨by (with_reducible repeat (first | apply Kd.V_alloc | apply Kd.V_drewN | apply Kd.V_drew)); exact HO_200003.out⟩, ⟨by (with_reducible repeat (first | apply Kd.V_alloc | apply Kd.V_drewN | apply Kd.V_drew)); exact HO_200004.out⟩, ⟨by (with_reducible repeat (first | refine blk_drewN ?_ _ | refine blk_drew ?_ | refine blk_alloc ?_ _)); exact BK187.out⟩, ⟨by (with_reducible repeat (first | refine blk_drewN ?_ _ | refine blk_drew ?_ | refine blk_alloc ?_ _)); exact BK199.out⟩, ⟨by repeat (first | (with_reducible first | exact HB.out | apply below_alloc | apply pw_below_drewN | apply below_drew1 | refine below_set ?_ GE187.out | refine below_set ?_ GE199.out) | exact HB.out)⟩⟩
                            · rw [if_neg c103] at H
                              have c103b0 : (a2 == 12) = false := beq_eq_false_iff_ne.mpr c103
                              have c103b1 : (a2 != 12) = true := bne_iff_ne.mpr c103
                              (first | rw [c103b0] | (simp only [i64_w, i32_w]; rw [c103b0]) | skip)
                              have H' := Aside0.mk H
                              clear H
                              go_wp2
                              go_meet
                              case rel => exact ⟨_, ((a2 == 13)), (by first | rfl | (simp; done) | (simp [*]; done)), H', ⟨by have := HJ3.out; have := HJ13.out; have := HJ27.out; have := HJ64.out; first | omega | exact Nat.le_refl _⟩, ⟨by (with_reducible repeat (first | apply Kd.V_alloc | apply Kd.V_drewN | apply Kd.V_drew)); exact HO_200003.out⟩, ⟨by (with_reducible repeat (first | apply Kd.V_alloc | apply Kd.V_drewN | apply Kd.V_drew)); exact HO_200004.out⟩, ⟨by (with_reducible repeat (first | refine blk_drewN ?_ _ | refine blk_drew ?_ | refine blk_alloc ?_ _)); exact BK187.out⟩, ⟨by (with_reducible repeat (first | refine blk_drewN ?_ _ | refine blk_drew ?_ | refine blk_alloc ?_ _)); exact BK199.out⟩, ⟨by repeat (first | (with_reducible first | exact HB.out | apply below_alloc | apply pw_below_drewN | apply below_drew1 | refine below_set ?_ GE187.out | refine below_set ?_ GE199.out) | exact HB.out)⟩⟩
                          case rest =>
                            clear HC102
                            try clear c1
                            try clear c2
                            try clear p2
                            try clear c3
                            try clear c4
                            try clear c5
                            try clear c6
                            try clear c7
                            try clear c8
                            try clear c9
                            try clear c10
                            try clear c12
                            try clear c17
                            try clear c18
                            try clear c22
                            try clear c24
                            try clear c25
                            try clear c26
                            try clear c27
                            try clear c29
                            try clear c29b0
                            try clear c29b1
                            try clear c30
                            try clear c33
                            try clear c33b0
                            try clear c33b1
                            try clear c33b2
                            try clear c34
                            try clear c36
                            try clear c38
                            try clear c46
                            try clear c54
                            try clear c60
                            try clear c66
                            try clear c66b0
                            try clear c66b1
                            try clear c67
                            try clear c70
                            try clear c70b0
                            try clear c70b1
                            try clear c70b2
                            try clear c71
                            try clear c73
                            try clear c75
                            try clear c83
                            try clear c91
                            try clear c97
                            try clear c103
                            try clear c103b0
                            try clear c103b1
                            try clear hcz100_0
                            try clear hcz100_1
                            try clear hcz100_2
                            try clear hcz100_3
                            try clear hcz100_4
                            try clear hcz10_0
                            try clear hcz10_1
                            try clear hcz10_2
                            try clear hcz10_3
                            try clear hcz10_4
                            try clear hcz15_0
                            try clear hcz15_1
                            try clear hcz15_2
                            try clear hcz15_3
                            try clear hcz15_4
                            try clear hcz19_0
                            try clear hcz19_1
                            try clear hcz19_2
                            try clear hcz19_3
                            try clear hcz19_4
                            try clear hcz25_0
                            try clear hcz25_1
                            try clear hcz25_2
                            try clear hcz25_3
                            try clear hcz25_4
                            try clear hcz39_0
                            try clear hcz39_1
                            try clear hcz39_2
                            try clear hcz39_3
                            try clear hcz39_4
                            try clear hcz41_0
                            try clear hcz41_1
                            try clear hcz41_2
                            try clear hcz41_3
                            try clear hcz41_4
                            try clear hcz47_0
                            try clear hcz47_1
                            try clear hcz47_2
                            try clear hcz47_3
                            try clear hcz47_4
                            try clear hcz49_0
                            try clear hcz49_1
                            try clear hcz49_2
                            try clear hcz49_3
                            try clear hcz49_4
                            try clear hcz55_0
                            try clear hcz55_1
                            try clear hcz55_2
                            try clear hcz55_3
                            try clear hcz55_4
                            try clear hcz57_0
                            try clear hcz57_1
                            try clear hcz57_2
                            try clear hcz57_3
                            try clear hcz57_4
                            try clear hcz61_0
                            try clear hcz61_1
                            try clear hcz61_2
                            try clear hcz61_3
                            try clear hcz61_4
                            try clear hcz63_0
                            try clear hcz63_1
                            try clear hcz63_2
                            try clear hcz63_3
                            try clear hcz63_4
                            try clear hcz76_0
                            try clear hcz76_1
                            try clear hcz76_2
                            try clear hcz76_3
                            try clear hcz76_4
                            try clear hcz78_0
                            try clear hcz78_1
                            try clear hcz78_2
                            try clear hcz78_3
                            try clear hcz78_4
                            try clear hcz84_0
                            try clear hcz84_1
                            try clear hcz84_2
                            try clear hcz84_3
                            try clear hcz84_4
                            try clear hcz86_0
                            try clear hcz86_1
                            try clear hcz86_2
                            try clear hcz86_3
                            try clear hcz86_4
                            try clear hcz8_0
                            try clear hcz8_1
                            try clear hcz8_2
                            try clear hcz8_3
                            try clear hcz8_4
                            try clear hcz92_0
                            try clear hcz92_1
                            try clear hcz92_2
                            try clear hcz92_3
                            try clear hcz92_4
                            try clear hcz94_0
                            try clear hcz94_1
                            try clear hcz94_2
                            try clear hcz94_3
                            try clear hcz94_4
                            try clear hcz98_0
                            try clear hcz98_1
                            try clear hcz98_2
                            try clear hcz98_3
                            try clear hcz98_4
                            try clear hfz100_0
                            try clear hfz100_1
                            try clear hfz100_2
                            try clear hfz100_3
                            try clear hfz100_4
                            try clear hfz10_0
                            try clear hfz10_1
                            try clear hfz10_2
                            try clear hfz10_3
                            try clear hfz10_4
                            try clear hfz15_0
                            try clear hfz15_1
                            try clear hfz15_2
                            try clear hfz15_3
                            try clear hfz15_4
                            try clear hfz19_0
                            try clear hfz19_1
                            try clear hfz19_2
                            try clear hfz19_3
                            try clear hfz19_4
                            try clear hfz25_0
                            try clear hfz25_1
                            try clear hfz25_2
                            try clear hfz25_3
                            try clear hfz25_4
                            try clear hfz39_0
                            try clear hfz39_1
                            try clear hfz39_2
                            try clear hfz39_3
                            try clear hfz39_4
                            try clear hfz41_0
                            try clear hfz41_1
                            try clear hfz41_2
                            try clear hfz41_3
                            try clear hfz41_4
                            try clear hfz47_0
                            try clear hfz47_1
                            try clear hfz47_2
                            try clear hfz47_3
                            try clear hfz47_4
                            try clear hfz49_0
                            try clear hfz49_1
                            try clear hfz49_2
                            try clear hfz49_3
                            try clear hfz49_4
                            try clear hfz55_0
                            try clear hfz55_1
                            try clear hfz55_2
                            try clear hfz55_3
                            try clear hfz55_4
                            try clear hfz57_0
                            try clear hfz57_1
                            try clear hfz57_2
                            try clear hfz57_3
                            try clear hfz57_4
                            try clear hfz61_0
                            try clear hfz61_1
                            try clear hfz61_2
                            try clear hfz61_3
                            try clear hfz61_4
                            try clear hfz63_0
                            try clear hfz63_1
                            try clear hfz63_2
                            try clear hfz63_3
                            try clear hfz63_4
                            try clear hfz76_0
                            try clear hfz76_1
                            try clear hfz76_2
                            try clear hfz76_3
                            try clear hfz76_4
                            try clear hfz78_0
                            try clear hfz78_1
                            try clear hfz78_2
                            try clear hfz78_3
                            try clear hfz78_4
                            try clear hfz84_0
                            try clear hfz84_1
                            try clear hfz84_2
                            try clear hfz84_3
                            try clear hfz84_4
                            try clear hfz86_0
                            try clear hfz86_1
                            try clear hfz86_2
                            try clear hfz86_3
                            try clear hfz86_4
                            try clear hfz8_0
                            try clear hfz8_1
                            try clear hfz8_2
                            try clear hfz8_3
                            try clear hfz8_4
                            try clear hfz92_0
                            try clear hfz92_1
                            try clear hfz92_2
                            try clear hfz92_3
                            try clear hfz92_4
                            try clear hfz94_0
                            try clear hfz94_1
                            try clear hfz94_2
                            try clear hfz94_3
                            try clear hfz94_4
                            try clear hfz98_0
                            try clear hfz98_1
                            try clear hfz98_2
                            try clear hfz98_3
                            try clear hfz98_4
                            try clear p2
                            obtain ⟨kq, x57_101, rfl, HA, HJ101, HO_200003, HO_200004, BK187, BK199, HB⟩ := hcut
                            cases kq with
                            | zero => exact absurd HA.out (by simp [laws_FnDomSibling.j4])
                            | succ kj101 =>
                              have H := HA.out
                              clear HA
                              simp only [laws_FnDomSibling.j4] at H
                              by_cases c104 : x57_101 = true
                              · subst c104
                                have H1 : ((spec_Beside29.f kj101 a0_0 a0_1 a0_2 l0_3 l0_4 l1 1 (a2 == 13)).bind fun bt223 => ((impl_Neighbor.f kj101 a0_0 a0_1 a0_2 l0_3 l0_4 l1 a2).bind fun bt227 => (if (bt227.2 == bt223.2) = true then (if bt227.2 = true then ((laws_path29.f kj101 bt227.1 bt223.1).bind fun t231 => (if t231 = true then ((laws_living29.f kj101).bind fun t232 => (some t232)) else (some false))) else ((laws_living29.f kj101).bind fun t233 => (some t233))) else (some false)))) = some r := by rw [if_pos rfl] at H; exact H
                                clear H
                                have H := H1
                                clear H1
                                replace H := Option.bind_eq_some_iff.mp H
                                obtain ⟨⟨t223, t226⟩, A1050, H⟩ := H
                                replace H : ((impl_Neighbor.f kj101 a0_0 a0_1 a0_2 l0_3 l0_4 l1 a2).bind fun bt227 => (if (bt227.2 == t226) = true then (if bt227.2 = true then ((laws_path29.f kj101 bt227.1 t223).bind fun t231 => (if t231 = true then ((laws_living29.f kj101).bind fun t232 => (some t232)) else (some false))) else ((laws_living29.f kj101).bind fun t233 => (some t233))) else (some false))) = some r := H
                                have A105 := Aside0.mk A1050
                                clear A1050
                                replace H := Option.bind_eq_some_iff.mp H
                                obtain ⟨⟨t227, t230⟩, A1060, H⟩ := H
                                replace H : (if (t230 == t226) = true then (if t230 = true then ((laws_path29.f kj101 t227 t223).bind fun t231 => (if t231 = true then ((laws_living29.f kj101).bind fun t232 => (some t232)) else (some false))) else ((laws_living29.f kj101).bind fun t233 => (some t233))) else (some false)) = some r := H
                                have A106 := Aside0.mk A1060
                                clear A1060
                                by_cases c107 : (t230 == t226) = true
                                · rw [if_pos c107] at H
                                  have c107b0 : (t230 == t226) = true := c107
                                  (try (have c107b1 : decide (t230 = t226) = true := by simpa using c107))
                                  (try (have c107b2 : (t230 == t226) = true := by simpa using c107))
                                  clear c107
                                  by_cases c108 : t230 = true
                                  · subst c108
                                    have H1 : ((laws_path29.f kj101 t227 t223).bind fun t231 => (if t231 = true then ((laws_living29.f kj101).bind fun t232 => (some t232)) else (some false))) = some r := by rw [if_pos rfl] at H; exact H
                                    clear H
                                    have H := H1
                                    clear H1
                                    replace H := Option.bind_eq_some_iff.mp H
                                    obtain ⟨t231, A1090, H⟩ := H
                                    replace H : (if t231 = true then ((laws_living29.f kj101).bind fun t232 => (some t232)) else (some false)) = some r := H
                                    have A109 := Aside0.mk A1090
                                    clear A1090
                                    by_cases c110 : t231 = true
                                    · subst c110
                                      have H1 : ((laws_living29.f kj101).bind fun t232 => (some t232)) = some r := by rw [if_pos rfl] at H; exact H
                                      clear H
                                      have H := H1
                                      clear H1
                                      replace H := Option.bind_eq_some_iff.mp H
                                      obtain ⟨t232, A1110, H⟩ := H
                                      replace H : (some t232) = some r := H
                                      have A111 := Aside0.mk A1110
                                      clear A1110
                                      obtain rfl := Option.some.inj H
                                      have hnb112 := NB187_199.out
                                      have hnc112 := NB199_187.out
                                      have hcz113_0 : wc.cell? ⟨gb187, 0, none⟩ = some (.int .i64 a0_0) := (blk_cell BK187.out 0).trans rfl
                                      have hcz113_1 : wc.cell? ⟨gb187, 1, none⟩ = some (.string a0_1) := (blk_cell BK187.out 1).trans rfl
                                      have hcz113_2 : wc.cell? ⟨gb187, 2, none⟩ = some (.string a0_2) := (blk_cell BK187.out 2).trans rfl
                                      have hcz113_3 : wc.cell? ⟨gb187, 3, none⟩ = some (.slice A0_3 l0_3.length c0_3) := (blk_cell BK187.out 3).trans rfl
                                      have hcz113_4 : wc.cell? ⟨gb187, 4, none⟩ = some (.slice A0_4 l0_4.length c0_4) := (blk_cell BK187.out 4).trans rfl
                                      have hfz113_0 := blk_frozen BK187.out 0
                                      have hfz113_1 := blk_frozen BK187.out 1
                                      have hfz113_2 := blk_frozen BK187.out 2
                                      have hfz113_3 := blk_frozen BK187.out 3
                                      have hfz113_4 := blk_frozen BK187.out 4
                                      go_wp2_with (first | ((with_reducible refine gate_callee (f := 25) rfl ?_); refine goesL_ (some 65) rfl rfl Try.func25 (by kernel_rfl) rfl #[.agg #[.int .i64 a0_0, .string a0_1, .string a0_2, .slice A0_3 l0_3.length c0_3, .slice A0_4 l0_4.length c0_4], .slice A1 l1.length c1, .int .i64 1, .bool (a2 == 13)] rfl (by (try simp only [List.map_toArray, List.map_cons, List.map_nil]); first | done | rfl | (simp only [List.length_drop, List.length_take]; rfl)) ?_; (with_reducible refine (spec_Beside29.calls kj101 a0_0 a0_1 a0_2 _ _ l0_3 _ _ l0_4 _ _ l1 1 (a2 == 13) t223 t226 _ ?side1 ?side2 ?side3 ?side4 ?side5 ?side6 A105.out).mono ?_); (case side1 => repeat (first | exact (Kd.C_below HR0_3.out HB.out) | (with_reducible refine Kd.C_alloc ?_ _) | (with_reducible refine Kd.C_drewN ?_ _) | (with_reducible refine Kd.C_drew ?_))); (case side2 => exact HC0_3.out); (case side3 => repeat (first | exact (Kd.C_below HR0_4.out HB.out) | (with_reducible refine Kd.C_alloc ?_ _) | (with_reducible refine Kd.C_drewN ?_ _) | (with_reducible refine Kd.C_drew ?_))); (case side4 => exact HC0_4.out); (case side5 => repeat (first | exact (Kd.C_below HR1.out HB.out) | (with_reducible refine Kd.C_alloc ?_ _) | (with_reducible refine Kd.C_drewN ?_ _) | (with_reducible refine Kd.C_drew ?_))); (case side6 => exact HC1.out); rintro e w114 ⟨v224, rfl, ho0, hb⟩; refine ⟨_, rfl, ?_⟩; have n0_ := Aside0.mk (Kd.V_elder' (by (with_reducible repeat (first | apply Kd.V_alloc | apply Kd.V_drewN | apply Kd.V_drew)); exact HO_200003.out) (Kd.R_base ho0) hb); have n1_ := Aside0.mk (Kd.V_elder' (by (with_reducible repeat (first | apply Kd.V_alloc | apply Kd.V_drewN | apply Kd.V_drew)); exact HO_200004.out) (Kd.R_base ho0) hb); have n2_ := Aside0.mk (Kd.R_lower ho0 (below_size (by repeat (first | (with_reducible first | exact HB.out | apply below_alloc | apply pw_below_drewN | apply below_drew1 | refine below_set ?_ GE187.out | refine below_set ?_ GE199.out) | exact HB.out)))); have n3_ := Aside0.mk (blk_below (g := gb187) (o := .cells #[.int .i64 a0_0, .string a0_1, .string a0_2, .slice A0_3 l0_3.length c0_3, .slice A0_4 l0_4.length c0_4] 25 (0, 0)) (by (with_reducible repeat (first | refine blk_drewN ?_ _ | refine blk_drew ?_ | refine blk_alloc ?_ _)); exact BK187.out) hb); have n4_ := Aside0.mk (blk_below (g := gb199) (o := .cells #[.int .i64 t189, .string t190, .string t191, .slice Ao20 t192.length co20, .slice Ao21 t195.length co21] 25 (0, 0)) (by (with_reducible repeat (first | refine blk_drewN ?_ _ | refine blk_drew ?_ | refine blk_alloc ?_ _)); exact BK199.out) hb); have n5_ := Aside0.mk (below_step (by repeat (first | (with_reducible first | exact HB.out | apply below_alloc | apply pw_below_drewN | apply below_drew1 | refine below_set ?_ GE187.out | refine below_set ?_ GE199.out) | exact HB.out)) hb); clear HO_200003; clear HO_200004; clear BK187; clear BK199; clear HB; have HO_200003 := n0_; have HO_200004 := n1_; have HO225 := n2_; have BK187 := n3_; have BK199 := n4_; have HB := n5_; clear n0_ n1_ n2_ n3_ n4_ n5_; (try clear hb); (try clear hb2); (try clear hk); (try clear hi); (try clear ho0); have hcz115_0 : w114.cell? ⟨gb187, 0, none⟩ = some (.int .i64 a0_0) := (blk_cell BK187.out 0).trans rfl; have hcz115_1 : w114.cell? ⟨gb187, 1, none⟩ = some (.string a0_1) := (blk_cell BK187.out 1).trans rfl; have hcz115_2 : w114.cell? ⟨gb187, 2, none⟩ = some (.string a0_2) := (blk_cell BK187.out 2).trans rfl; have hcz115_3 : w114.cell? ⟨gb187, 3, none⟩ = some (.slice A0_3 l0_3.length c0_3) := (blk_cell BK187.out 3).trans rfl; have hcz115_4 : w114.cell? ⟨gb187, 4, none⟩ = some (.slice A0_4 l0_4.length c0_4) := (blk_cell BK187.out 4).trans rfl; have hfz115_0 := blk_frozen BK187.out 0; have hfz115_1 := blk_frozen BK187.out 1; have hfz115_2 := blk_frozen BK187.out 2; have hfz115_3 := blk_frozen BK187.out 3; have hfz115_4 := blk_frozen BK187.out 4) | ((with_reducible refine gate_callee (f := 26) rfl ?_); refine goesL_ (some 72) rfl rfl Try.func26 (by kernel_rfl) rfl #[.agg #[.int .i64 a0_0, .string a0_1, .string a0_2, .slice A0_3 l0_3.length c0_3, .slice A0_4 l0_4.length c0_4], .slice A1 l1.length c1, .int .i64 a2] rfl (by (try simp only [List.map_toArray, List.map_cons, List.map_nil]); first | done | rfl | (simp only [List.length_drop, List.length_take]; rfl)) ?_; (with_reducible refine (impl_Neighbor.calls kj101 a0_0 a0_1 a0_2 _ _ l0_3 _ _ l0_4 _ _ l1 a2 t227 true _ ?side1 ?side2 ?side3 ?side4 ?side5 ?side6 A106.out).mono ?_); (case side1 => repeat (first | exact (Kd.C_below HR0_3.out HB.out) | (with_reducible refine Kd.C_alloc ?_ _) | (with_reducible refine Kd.C_drewN ?_ _) | (with_reducible refine Kd.C_drew ?_))); (case side2 => exact HC0_3.out); (case side3 => repeat (first | exact (Kd.C_below HR0_4.out HB.out) | (with_reducible refine Kd.C_alloc ?_ _) | (with_reducible refine Kd.C_drewN ?_ _) | (with_reducible refine Kd.C_drew ?_))); (case side4 => exact HC0_4.out); (case side5 => repeat (first | exact (Kd.C_below HR1.out HB.out) | (with_reducible refine Kd.C_alloc ?_ _) | (with_reducible refine Kd.C_drewN ?_ _) | (with_reducible refine Kd.C_drew ?_))); (case side6 => exact HC1.out); rintro e w116 ⟨v228, rfl, ho0, hb⟩; refine ⟨_, rfl, ?_⟩; have n0_ := Aside0.mk (Kd.V_elder' (by (with_reducible repeat (first | apply Kd.V_alloc | apply Kd.V_drewN | apply Kd.V_drew)); exact HO_200003.out) (Kd.R_base ho0) hb); have n1_ := Aside0.mk (Kd.V_elder' (by (with_reducible repeat (first | apply Kd.V_alloc | apply Kd.V_drewN | apply Kd.V_drew)); exact HO_200004.out) (Kd.R_base ho0) hb); have n2_ := Aside0.mk (Kd.R_elder' (by (with_reducible repeat (first | apply Kd.R_alloc | apply Kd.R_drewN | apply Kd.R_drew)); exact HO225.out) (Kd.R_base ho0) hb); have n3_ := Aside0.mk (Kd.R_lower (Kd.R_new' ho0 (Kd.R_lt (by (with_reducible repeat (first | apply Kd.R_alloc | apply Kd.R_drewN | apply Kd.R_drew)); exact HO225.out))) (below_size (by repeat (first | (with_reducible first | exact HB.out | apply below_alloc | apply pw_below_drewN | apply below_drew1 | refine below_set ?_ GE187.out | refine below_set ?_ GE199.out) | exact HB.out)))); have n4_ := Aside0.mk (blk_below (g := gb187) (o := .cells #[.int .i64 a0_0, .string a0_1, .string a0_2, .slice A0_3 l0_3.length c0_3, .slice A0_4 l0_4.length c0_4] 25 (0, 0)) (by (with_reducible repeat (first | refine blk_drewN ?_ _ | refine blk_drew ?_ | refine blk_alloc ?_ _)); exact BK187.out) hb); have n5_ := Aside0.mk (blk_below (g := gb199) (o := .cells #[.int .i64 t189, .string t190, .string t191, .slice Ao20 t192.length co20, .slice Ao21 t195.length co21] 25 (0, 0)) (by (with_reducible repeat (first | refine blk_drewN ?_ _ | refine blk_drew ?_ | refine blk_alloc ?_ _)); exact BK199.out) hb); have n6_ := Aside0.mk (below_step (by repeat (first | (with_reducible first | exact HB.out | apply below_alloc | apply pw_below_drewN | apply below_drew1 | refine below_set ?_ GE187.out | refine below_set ?_ GE199.out) | exact HB.out)) hb); clear HO_200003; clear HO_200004; clear HO225; clear BK187; clear BK199; clear HB; have HO_200003 := n0_; have HO_200004 := n1_; have HO225 := n2_; have HO229 := n3_; have BK187 := n4_; have BK199 := n5_; have HB := n6_; clear n0_ n1_ n2_ n3_ n4_ n5_ n6_; (try clear hb); (try clear hb2); (try clear hk); (try clear hi); (try clear ho0); obtain ⟨Ao117, co117, eo117⟩ := Kd.R_slice HO229.out; subst eo117; obtain ⟨Ao118, co118, eo118⟩ := Kd.R_slice HO225.out; subst eo118) | (go_at_call 22; (with_reducible refine (laws_path29.calls kj101 _ _ t227 _ _ t223 true _ ?side1 ?side2 ?side3 ?side4 A109.out).mono ?_); (case side1 => repeat (first | exact (Kd.R_reads' HO229.out).2.2 | (with_reducible refine Kd.C_alloc ?_ _) | (with_reducible refine Kd.C_drewN ?_ _) | (with_reducible refine Kd.C_drew ?_))); (case side2 => exact (Kd.R_reads' HO229.out).2.1); (case side3 => repeat (first | exact (Kd.R_reads' HO225.out).2.2 | (with_reducible refine Kd.C_alloc ?_ _) | (with_reducible refine Kd.C_drewN ?_ _) | (with_reducible refine Kd.C_drew ?_))); (case side4 => exact (Kd.R_reads' HO225.out).2.1); rintro e w' ⟨rfl, ⟨nd, rfl⟩⟩) | (go_at_call 23; (with_reducible refine (laws_living29.calls kj101  t232 _ A111.out).mono ?_); rintro e w119 ⟨rfl, hb⟩; have n0_ := Aside0.mk (Kd.V_below (by (with_reducible repeat (first | apply Kd.V_alloc | apply Kd.V_drewN | apply Kd.V_drew)); exact HO_200003.out) hb); have n1_ := Aside0.mk (Kd.V_below (by (with_reducible repeat (first | apply Kd.V_alloc | apply Kd.V_drewN | apply Kd.V_drew)); exact HO_200004.out) hb); have n2_ := Aside0.mk (Kd.R_below (by (with_reducible repeat (first | apply Kd.R_alloc | apply Kd.R_drewN | apply Kd.R_drew)); exact HO225.out) hb); have n3_ := Aside0.mk (Kd.R_below (by (with_reducible repeat (first | apply Kd.R_alloc | apply Kd.R_drewN | apply Kd.R_drew)); exact HO229.out) hb); have n4_ := Aside0.mk (blk_below (g := gb187) (o := .cells #[.int .i64 a0_0, .string a0_1, .string a0_2, .slice A0_3 l0_3.length c0_3, .slice A0_4 l0_4.length c0_4] 25 (0, 0)) (by (with_reducible repeat (first | refine blk_drewN ?_ _ | refine blk_drew ?_ | refine blk_alloc ?_ _)); exact BK187.out) hb); have n5_ := Aside0.mk (blk_below (g := gb199) (o := .cells #[.int .i64 t189, .string t190, .string t191, .slice Ao20 t192.length co20, .slice Ao21 t195.length co21] 25 (0, 0)) (by (with_reducible repeat (first | refine blk_drewN ?_ _ | refine blk_drew ?_ | refine blk_alloc ?_ _)); exact BK199.out) hb); have n6_ := Aside0.mk (below_step (by repeat (first | (with_reducible first | exact HB.out | apply below_alloc | apply pw_below_drewN | apply below_drew1 | refine below_set ?_ GE187.out | refine below_set ?_ GE199.out) | exact HB.out)) hb); clear HO_200003; clear HO_200004; clear HO225; clear HO229; clear BK187; clear BK199; clear HB; have HO_200003 := n0_; have HO_200004 := n1_; have HO225 := n2_; have HO229 := n3_; have BK187 := n4_; have BK199 := n5_; have HB := n6_; clear n0_ n1_ n2_ n3_ n4_ n5_ n6_; (try clear hb); (try clear hb2); (try clear hk); (try clear hi)))
                                      go_ret
                                      exact ⟨by first | rfl | (simp [errW_none, errW_some] <;> rfl) | (simp [*, errW_none, errW_some] <;> rfl), by repeat (first | (with_reducible first | exact HB.out | apply below_alloc | apply pw_below_drewN | apply below_drew1 | refine below_set ?_ GE187.out | refine below_set ?_ GE199.out) | exact HB.out)⟩
                                    · replace c110 := Bool.eq_false_iff.mpr c110
                                      subst c110
                                      have H1 : (some false) = some r := by rw [if_neg (show ¬ (false = true) by decide)] at H; exact H
                                      clear H
                                      have H := H1
                                      clear H1
                                      obtain rfl := Option.some.inj H
                                      have hnb120 := NB187_199.out
                                      have hnc120 := NB199_187.out
                                      have hcz121_0 : wc.cell? ⟨gb187, 0, none⟩ = some (.int .i64 a0_0) := (blk_cell BK187.out 0).trans rfl
                                      have hcz121_1 : wc.cell? ⟨gb187, 1, none⟩ = some (.string a0_1) := (blk_cell BK187.out 1).trans rfl
                                      have hcz121_2 : wc.cell? ⟨gb187, 2, none⟩ = some (.string a0_2) := (blk_cell BK187.out 2).trans rfl
                                      have hcz121_3 : wc.cell? ⟨gb187, 3, none⟩ = some (.slice A0_3 l0_3.length c0_3) := (blk_cell BK187.out 3).trans rfl
                                      have hcz121_4 : wc.cell? ⟨gb187, 4, none⟩ = some (.slice A0_4 l0_4.length c0_4) := (blk_cell BK187.out 4).trans rfl
                                      have hfz121_0 := blk_frozen BK187.out 0
                                      have hfz121_1 := blk_frozen BK187.out 1
                                      have hfz121_2 := blk_frozen BK187.out 2
                                      have hfz121_3 := blk_frozen BK187.out 3
                                      have hfz121_4 := blk_frozen BK187.out 4
                                      go_wp2_with (first | ((with_reducible refine gate_callee (f := 25) rfl ?_); refine goesL_ (some 65) rfl rfl Try.func25 (by kernel_rfl) rfl #[.agg #[.int .i64 a0_0, .string a0_1, .string a0_2, .slice A0_3 l0_3.length c0_3, .slice A0_4 l0_4.length c0_4], .slice A1 l1.length c1, .int .i64 1, .bool (a2 == 13)] rfl (by (try simp only [List.map_toArray, List.map_cons, List.map_nil]); first | done | rfl | (simp only [List.length_drop, List.length_take]; rfl)) ?_; (with_reducible refine (spec_Beside29.calls kj101 a0_0 a0_1 a0_2 _ _ l0_3 _ _ l0_4 _ _ l1 1 (a2 == 13) t223 t226 _ ?side1 ?side2 ?side3 ?side4 ?side5 ?side6 A105.out).mono ?_); (case side1 => repeat (first | exact (Kd.C_below HR0_3.out HB.out) | (with_reducible refine Kd.C_alloc ?_ _) | (with_reducible refine Kd.C_drewN ?_ _) | (with_reducible refine Kd.C_drew ?_))); (case side2 => exact HC0_3.out); (case side3 => repeat (first | exact (Kd.C_below HR0_4.out HB.out) | (with_reducible refine Kd.C_alloc ?_ _) | (with_reducible refine Kd.C_drewN ?_ _) | (with_reducible refine Kd.C_drew ?_))); (case side4 => exact HC0_4.out); (case side5 => repeat (first | exact (Kd.C_below HR1.out HB.out) | (with_reducible refine Kd.C_alloc ?_ _) | (with_reducible refine Kd.C_drewN ?_ _) | (with_reducible refine Kd.C_drew ?_))); (case side6 => exact HC1.out); rintro e w122 ⟨v224, rfl, ho0, hb⟩; refine ⟨_, rfl, ?_⟩; have n0_ := Aside0.mk (Kd.V_elder' (by (with_reducible repeat (first | apply Kd.V_alloc | apply Kd.V_drewN | apply Kd.V_drew)); exact HO_200003.out) (Kd.R_base ho0) hb); have n1_ := Aside0.mk (Kd.V_elder' (by (with_reducible repeat (first | apply Kd.V_alloc | apply Kd.V_drewN | apply Kd.V_drew)); exact HO_200004.out) (Kd.R_base ho0) hb); have n2_ := Aside0.mk (Kd.R_lower ho0 (below_size (by repeat (first | (with_reducible first | exact HB.out | apply below_alloc | apply pw_below_drewN | apply below_drew1 | refine below_set ?_ GE187.out | refine below_set ?_ GE199.out) | exact HB.out)))); have n3_ := Aside0.mk (blk_below (g := gb187) (o := .cells #[.int .i64 a0_0, .string a0_1, .string a0_2, .slice A0_3 l0_3.length c0_3, .slice A0_4 l0_4.length c0_4] 25 (0, 0)) (by (with_reducible repeat (first | refine blk_drewN ?_ _ | refine blk_drew ?_ | refine blk_alloc ?_ _)); exact BK187.out) hb); have n4_ := Aside0.mk (blk_below (g := gb199) (o := .cells #[.int .i64 t189, .string t190, .string t191, .slice Ao20 t192.length co20, .slice Ao21 t195.length co21] 25 (0, 0)) (by (with_reducible repeat (first | refine blk_drewN ?_ _ | refine blk_drew ?_ | refine blk_alloc ?_ _)); exact BK199.out) hb); have n5_ := Aside0.mk (below_step (by repeat (first | (with_reducible first | exact HB.out | apply below_alloc | apply pw_below_drewN | apply below_drew1 | refine below_set ?_ GE187.out | refine below_set ?_ GE199.out) | exact HB.out)) hb); clear HO_200003; clear HO_200004; clear BK187; clear BK199; clear HB; have HO_200003 := n0_; have HO_200004 := n1_; have HO225 := n2_; have BK187 := n3_; have BK199 := n4_; have HB := n5_; clear n0_ n1_ n2_ n3_ n4_ n5_; (try clear hb); (try clear hb2); (try clear hk); (try clear hi); (try clear ho0); have hcz123_0 : w122.cell? ⟨gb187, 0, none⟩ = some (.int .i64 a0_0) := (blk_cell BK187.out 0).trans rfl; have hcz123_1 : w122.cell? ⟨gb187, 1, none⟩ = some (.string a0_1) := (blk_cell BK187.out 1).trans rfl; have hcz123_2 : w122.cell? ⟨gb187, 2, none⟩ = some (.string a0_2) := (blk_cell BK187.out 2).trans rfl; have hcz123_3 : w122.cell? ⟨gb187, 3, none⟩ = some (.slice A0_3 l0_3.length c0_3) := (blk_cell BK187.out 3).trans rfl; have hcz123_4 : w122.cell? ⟨gb187, 4, none⟩ = some (.slice A0_4 l0_4.length c0_4) := (blk_cell BK187.out 4).trans rfl; have hfz123_0 := blk_frozen BK187.out 0; have hfz123_1 := blk_frozen BK187.out 1; have hfz123_2 := blk_frozen BK187.out 2; have hfz123_3 := blk_frozen BK187.out 3; have hfz123_4 := blk_frozen BK187.out 4) | ((with_reducible refine gate_callee (f := 26) rfl ?_); refine goesL_ (some 72) rfl rfl Try.func26 (by kernel_rfl) rfl #[.agg #[.int .i64 a0_0, .string a0_1, .string a0_2, .slice A0_3 l0_3.length c0_3, .slice A0_4 l0_4.length c0_4], .slice A1 l1.length c1, .int .i64 a2] rfl (by (try simp only [List.map_toArray, List.map_cons, List.map_nil]); first | done | rfl | (simp only [List.length_drop, List.length_take]; rfl)) ?_; (with_reducible refine (impl_Neighbor.calls kj101 a0_0 a0_1 a0_2 _ _ l0_3 _ _ l0_4 _ _ l1 a2 t227 true _ ?side1 ?side2 ?side3 ?side4 ?side5 ?side6 A106.out).mono ?_); (case side1 => repeat (first | exact (Kd.C_below HR0_3.out HB.out) | (with_reducible refine Kd.C_alloc ?_ _) | (with_reducible refine Kd.C_drewN ?_ _) | (with_reducible refine Kd.C_drew ?_))); (case side2 => exact HC0_3.out); (case side3 => repeat (first | exact (Kd.C_below HR0_4.out HB.out) | (with_reducible refine Kd.C_alloc ?_ _) | (with_reducible refine Kd.C_drewN ?_ _) | (with_reducible refine Kd.C_drew ?_))); (case side4 => exact HC0_4.out); (case side5 => repeat (first | exact (Kd.C_below HR1.out HB.out) | (with_reducible refine Kd.C_alloc ?_ _) | (with_reducible refine Kd.C_drewN ?_ _) | (with_reducible refine Kd.C_drew ?_))); (case side6 => exact HC1.out); rintro e w124 ⟨v228, rfl, ho0, hb⟩; refine ⟨_, rfl, ?_⟩; have n0_ := Aside0.mk (Kd.V_elder' (by (with_reducible repeat (first | apply Kd.V_alloc | apply Kd.V_drewN | apply Kd.V_drew)); exact HO_200003.out) (Kd.R_base ho0) hb); have n1_ := Aside0.mk (Kd.V_elder' (by (with_reducible repeat (first | apply Kd.V_alloc | apply Kd.V_drewN | apply Kd.V_drew)); exact HO_200004.out) (Kd.R_base ho0) hb); have n2_ := Aside0.mk (Kd.R_elder' (by (with_reducible repeat (first | apply Kd.R_alloc | apply Kd.R_drewN | apply Kd.R_drew)); exact HO225.out) (Kd.R_base ho0) hb); have n3_ := Aside0.mk (Kd.R_lower (Kd.R_new' ho0 (Kd.R_lt (by (with_reducible repeat (first | apply Kd.R_alloc | apply Kd.R_drewN | apply Kd.R_drew)); exact HO225.out))) (below_size (by repeat (first | (with_reducible first | exact HB.out | apply below_alloc | apply pw_below_drewN | apply below_drew1 | refine below_set ?_ GE187.out | refine below_set ?_ GE199.out) | exact HB.out)))); have n4_ := Aside0.mk (blk_below (g := gb187) (o := .cells #[.int .i64 a0_0, .string a0_1, .string a0_2, .slice A0_3 l0_3.length c0_3, .slice A0_4 l0_4.length c0_4] 25 (0, 0)) (by (with_reducible repeat (first | refine blk_drewN ?_ _ | refine blk_drew ?_ | refine blk_alloc ?_ _)); exact BK187.out) hb); have n5_ := Aside0.mk (blk_below (g := gb199) (o := .cells #[.int .i64 t189, .string t190, .string t191, .slice Ao20 t192.length co20, .slice Ao21 t195.length co21] 25 (0, 0)) (by (with_reducible repeat (first | refine blk_drewN ?_ _ | refine blk_drew ?_ | refine blk_alloc ?_ _)); exact BK199.out) hb); have n6_ := Aside0.mk (below_step (by repeat (first | (with_reducible first | exact HB.out | apply below_alloc | apply pw_below_drewN | apply below_drew1 | refine below_set ?_ GE187.out | refine below_set ?_ GE199.out) | exact HB.out)) hb); clear HO_200003; clear HO_200004; clear HO225; clear BK187; clear BK199; clear HB; have HO_200003 := n0_; have HO_200004 := n1_; have HO225 := n2_; have HO229 := n3_; have BK187 := n4_; have BK199 := n5_; have HB := n6_; clear n0_ n1_ n2_ n3_ n4_ n5_ n6_; (try clear hb); (try clear hb2); (try clear hk); (try clear hi); (try clear ho0); obtain ⟨Ao125, co125, eo125⟩ := Kd.R_slice HO229.out; subst eo125; obtain ⟨Ao126, co126, eo126⟩ := Kd.R_slice HO225.out; subst eo126) | (go_at_call 22; (with_reducible refine (laws_path29.calls kj101 _ _ t227 _ _ t223 false _ ?side1 ?side2 ?side3 ?side4 A109.out).mono ?_); (case side1 => repeat (first | exact (Kd.R_reads' HO229.out).2.2 | (with_reducible refine Kd.C_alloc ?_ _) | (with_reducible refine Kd.C_drewN ?_ _) | (with_reducible refine Kd.C_drew ?_))); (case side2 => exact (Kd.R_reads' HO229.out).2.1); (case side3 => repeat (first | exact (Kd.R_reads' HO225.out).2.2 | (with_reducible refine Kd.C_alloc ?_ _) | (with_reducible refine Kd.C_drewN ?_ _) | (with_reducible refine Kd.C_drew ?_))); (case side4 => exact (Kd.R_reads' HO225.out).2.1); rintro e w' ⟨rfl, ⟨nd, rfl⟩⟩))
                                      go_ret
                                      exact ⟨by first | rfl | (simp [errW_none, errW_some] <;> rfl) | (simp [*, errW_none, errW_some] <;> rfl), by repeat (first | (with_reducible first | exact HB.out | apply below_alloc | apply pw_below_drewN | apply below_drew1 | refine below_set ?_ GE187.out | refine below_set ?_ GE199.out) | exact HB.out)⟩
                                  · replace c108 := Bool.eq_false_iff.mpr c108
                                    subst c108
                                    have H1 : ((laws_living29.f kj101).bind fun t233 => (some t233)) = some r := by rw [if_neg (show ¬ (false = true) by decide)] at H; exact H
                                    clear H
                                    have H := H1
                                    clear H1
                                    replace H := Option.bind_eq_some_iff.mp H
                                    obtain ⟨t233, A1270, H⟩ := H
                                    replace H : (some t233) = some r := H
                                    have A127 := Aside0.mk A1270
                                    clear A1270
                                    obtain rfl := Option.some.inj H
                                    have hnb128 := NB187_199.out
                                    have hnc128 := NB199_187.out
                                    have hcz129_0 : wc.cell? ⟨gb187, 0, none⟩ = some (.int .i64 a0_0) := (blk_cell BK187.out 0).trans rfl
                                    have hcz129_1 : wc.cell? ⟨gb187, 1, none⟩ = some (.string a0_1) := (blk_cell BK187.out 1).trans rfl
                                    have hcz129_2 : wc.cell? ⟨gb187, 2, none⟩ = some (.string a0_2) := (blk_cell BK187.out 2).trans rfl
                                    have hcz129_3 : wc.cell? ⟨gb187, 3, none⟩ = some (.slice A0_3 l0_3.length c0_3) := (blk_cell BK187.out 3).trans rfl
                                    have hcz129_4 : wc.cell? ⟨gb187, 4, none⟩ = some (.slice A0_4 l0_4.length c0_4) := (blk_cell BK187.out 4).trans rfl
                                    have hfz129_0 := blk_frozen BK187.out 0
                                    have hfz129_1 := blk_frozen BK187.out 1
                                    have hfz129_2 := blk_frozen BK187.out 2
                                    have hfz129_3 := blk_frozen BK187.out 3
                                    have hfz129_4 := blk_frozen BK187.out 4
                                    go_wp2_with (first | ((with_reducible refine gate_callee (f := 25) rfl ?_); refine goesL_ (some 65) rfl rfl Try.func25 (by kernel_rfl) rfl #[.agg #[.int .i64 a0_0, .string a0_1, .string a0_2, .slice A0_3 l0_3.length c0_3, .slice A0_4 l0_4.length c0_4], .slice A1 l1.length c1, .int .i64 1, .bool (a2 == 13)] rfl (by (try simp only [List.map_toArray, List.map_cons, List.map_nil]); first | done | rfl | (simp only [List.length_drop, List.length_take]; rfl)) ?_; (with_reducible refine (spec_Beside29.calls kj101 a0_0 a0_1 a0_2 _ _ l0_3 _ _ l0_4 _ _ l1 1 (a2 == 13) t223 t226 _ ?side1 ?side2 ?side3 ?side4 ?side5 ?side6 A105.out).mono ?_); (case side1 => repeat (first | exact (Kd.C_below HR0_3.out HB.out) | (with_reducible refine Kd.C_alloc ?_ _) | (with_reducible refine Kd.C_drewN ?_ _) | (with_reducible refine Kd.C_drew ?_))); (case side2 => exact HC0_3.out); (case side3 => repeat (first | exact (Kd.C_below HR0_4.out HB.out) | (with_reducible refine Kd.C_alloc ?_ _) | (with_reducible refine Kd.C_drewN ?_ _) | (with_reducible refine Kd.C_drew ?_))); (case side4 => exact HC0_4.out); (case side5 => repeat (first | exact (Kd.C_below HR1.out HB.out) | (with_reducible refine Kd.C_alloc ?_ _) | (with_reducible refine Kd.C_drewN ?_ _) | (with_reducible refine Kd.C_drew ?_))); (case side6 => exact HC1.out); rintro e w130 ⟨v224, rfl, ho0, hb⟩; refine ⟨_, rfl, ?_⟩; have n0_ := Aside0.mk (Kd.V_elder' (by (with_reducible repeat (first | apply Kd.V_alloc | apply Kd.V_drewN | apply Kd.V_drew)); exact HO_200003.out) (Kd.R_base ho0) hb); have n1_ := Aside0.mk (Kd.V_elder' (by (with_reducible repeat (first | apply Kd.V_alloc | apply Kd.V_drewN | apply Kd.V_drew)); exact HO_200004.out) (Kd.R_base ho0) hb); have n2_ := Aside0.mk (Kd.R_lower ho0 (below_size (by repeat (first | (with_reducible first | exact HB.out | apply below_alloc | apply pw_below_drewN | apply below_drew1 | refine below_set ?_ GE187.out | refine below_set ?_ GE199.out) | exact HB.out)))); have n3_ := Aside0.mk (blk_below (g := gb187) (o := .cells #[.int .i64 a0_0, .string a0_1, .string a0_2, .slice A0_3 l0_3.length c0_3, .slice A0_4 l0_4.length c0_4] 25 (0, 0)) (by (with_reducible repeat (first | refine blk_drewN ?_ _ | refine blk_drew ?_ | refine blk_alloc ?_ _)); exact BK187.out) hb); have n4_ := Aside0.mk (blk_below (g := gb199) (o := .cells #[.int .i64 t189, .string t190, .string t191, .slice Ao20 t192.length co20, .slice Ao21 t195.length co21] 25 (0, 0)) (by (with_reducible repeat (first | refine blk_drewN ?_ _ | refine blk_drew ?_ | refine blk_alloc ?_ _)); exact BK199.out) hb); have n5_ := Aside0.mk (below_step (by repeat (first | (with_reducible first | exact HB.out | apply below_alloc | apply pw_below_drewN | apply below_drew1 | refine below_set ?_ GE187.out | refine below_set ?_ GE199.out) | exact HB.out)) hb); clear HO_200003; clear HO_200004; clear BK187; clear BK199; clear HB; have HO_200003 := n0_; have HO_200004 := n1_; have HO225 := n2_; have BK187 := n3_; have BK199 := n4_; have HB := n5_; clear n0_ n1_ n2_ n3_ n4_ n5_; (try clear hb); (try clear hb2); (try clear hk); (try clear hi); (try clear ho0); have hcz131_0 : w130.cell? ⟨gb187, 0, none⟩ = some (.int .i64 a0_0) := (blk_cell BK187.out 0).trans rfl; have hcz131_1 : w130.cell? ⟨gb187, 1, none⟩ = some (.string a0_1) := (blk_cell BK187.out 1).trans rfl; have hcz131_2 : w130.cell? ⟨gb187, 2, none⟩ = some (.string a0_2) := (blk_cell BK187.out 2).trans rfl; have hcz131_3 : w130.cell? ⟨gb187, 3, none⟩ = some (.slice A0_3 l0_3.length c0_3) := (blk_cell BK187.out 3).trans rfl; have hcz131_4 : w130.cell? ⟨gb187, 4, none⟩ = some (.slice A0_4 l0_4.length c0_4) := (blk_cell BK187.out 4).trans rfl; have hfz131_0 := blk_frozen BK187.out 0; have hfz131_1 := blk_frozen BK187.out 1; have hfz131_2 := blk_frozen BK187.out 2; have hfz131_3 := blk_frozen BK187.out 3; have hfz131_4 := blk_frozen BK187.out 4) | ((with_reducible refine gate_callee (f := 26) rfl ?_); refine goesL_ (some 72) rfl rfl Try.func26 (by kernel_rfl) rfl #[.agg #[.int .i64 a0_0, .string a0_1, .string a0_2, .slice A0_3 l0_3.length c0_3, .slice A0_4 l0_4.length c0_4], .slice A1 l1.length c1, .int .i64 a2] rfl (by (try simp only [List.map_toArray, List.map_cons, List.map_nil]); first | done | rfl | (simp only [List.length_drop, List.length_take]; rfl)) ?_; (with_reducible refine (impl_Neighbor.calls kj101 a0_0 a0_1 a0_2 _ _ l0_3 _ _ l0_4 _ _ l1 a2 t227 false _ ?side1 ?side2 ?side3 ?side4 ?side5 ?side6 A106.out).mono ?_); (case side1 => repeat (first | exact (Kd.C_below HR0_3.out HB.out) | (with_reducible refine Kd.C_alloc ?_ _) | (with_reducible refine Kd.C_drewN ?_ _) | (with_reducible refine Kd.C_drew ?_))); (case side2 => exact HC0_3.out); (case side3 => repeat (first | exact (Kd.C_below HR0_4.out HB.out) | (with_reducible refine Kd.C_alloc ?_ _) | (with_reducible refine Kd.C_drewN ?_ _) | (with_reducible refine Kd.C_drew ?_))); (case side4 => exact HC0_4.out); (case side5 => repeat (first | exact (Kd.C_below HR1.out HB.out) | (with_reducible refine Kd.C_alloc ?_ _) | (with_reducible refine Kd.C_drewN ?_ _) | (with_reducible refine Kd.C_drew ?_))); (case side6 => exact HC1.out); rintro e w132 ⟨v228, rfl, ho0, hb⟩; refine ⟨_, rfl, ?_⟩; have n0_ := Aside0.mk (Kd.V_elder' (by (with_reducible repeat (first | apply Kd.V_alloc | apply Kd.V_drewN | apply Kd.V_drew)); exact HO_200003.out) (Kd.R_base ho0) hb); have n1_ := Aside0.mk (Kd.V_elder' (by (with_reducible repeat (first | apply Kd.V_alloc | apply Kd.V_drewN | apply Kd.V_drew)); exact HO_200004.out) (Kd.R_base ho0) hb); have n2_ := Aside0.mk (Kd.R_elder' (by (with_reducible repeat (first | apply Kd.R_alloc | apply Kd.R_drewN | apply Kd.R_drew)); exact HO225.out) (Kd.R_base ho0) hb); have n3_ := Aside0.mk (Kd.R_lower (Kd.R_new' ho0 (Kd.R_lt (by (with_reducible repeat (first | apply Kd.R_alloc | apply Kd.R_drewN | apply Kd.R_drew)); exact HO225.out))) (below_size (by repeat (first | (with_reducible first | exact HB.out | apply below_alloc | apply pw_below_drewN | apply below_drew1 | refine below_set ?_ GE187.out | refine below_set ?_ GE199.out) | exact HB.out)))); have n4_ := Aside0.mk (blk_below (g := gb187) (o := .cells #[.int .i64 a0_0, .string a0_1, .string a0_2, .slice A0_3 l0_3.length c0_3, .slice A0_4 l0_4.length c0_4] 25 (0, 0)) (by (with_reducible repeat (first | refine blk_drewN ?_ _ | refine blk_drew ?_ | refine blk_alloc ?_ _)); exact BK187.out) hb); have n5_ := Aside0.mk (blk_below (g := gb199) (o := .cells #[.int .i64 t189, .string t190, .string t191, .slice Ao20 t192.length co20, .slice Ao21 t195.length co21] 25 (0, 0)) (by (with_reducible repeat (first | refine blk_drewN ?_ _ | refine blk_drew ?_ | refine blk_alloc ?_ _)); exact BK199.out) hb); have n6_ := Aside0.mk (below_step (by repeat (first | (with_reducible first | exact HB.out | apply below_alloc | apply pw_below_drewN | apply below_drew1 | refine below_set ?_ GE187.out | refine below_set ?_ GE199.out) | exact HB.out)) hb); clear HO_200003; clear HO_200004; clear HO225; clear BK187; clear BK199; clear HB; have HO_200003 := n0_; have HO_200004 := n1_; have HO225 := n2_; have HO229 := n3_; have BK187 := n4_; have BK199 := n5_; have HB := n6_; clear n0_ n1_ n2_ n3_ n4_ n5_ n6_; (try clear hb); (try clear hb2); (try clear hk); (try clear hi); (try clear ho0)) | (go_at_call 23; (with_reducible refine (laws_living29.calls kj101  t233 _ A127.out).mono ?_); rintro e w133 ⟨rfl, hb⟩; have n0_ := Aside0.mk (Kd.V_below (by (with_reducible repeat (first | apply Kd.V_alloc | apply Kd.V_drewN | apply Kd.V_drew)); exact HO_200003.out) hb); have n1_ := Aside0.mk (Kd.V_below (by (with_reducible repeat (first | apply Kd.V_alloc | apply Kd.V_drewN | apply Kd.V_drew)); exact HO_200004.out) hb); have n2_ := Aside0.mk (Kd.R_below (by (with_reducible repeat (first | apply Kd.R_alloc | apply Kd.R_drewN | apply Kd.R_drew)); exact HO225.out) hb); have n3_ := Aside0.mk (Kd.R_below (by (with_reducible repeat (first | apply Kd.R_alloc | apply Kd.R_drewN | apply Kd.R_drew)); exact HO229.out) hb); have n4_ := Aside0.mk (blk_below (g := gb187) (o := .cells #[.int .i64 a0_0, .string a0_1, .string a0_2, .slice A0_3 l0_3.length c0_3, .slice A0_4 l0_4.length c0_4] 25 (0, 0)) (by (with_reducible repeat (first | refine blk_drewN ?_ _ | refine blk_drew ?_ | refine blk_alloc ?_ _)); exact BK187.out) hb); have n5_ := Aside0.mk (blk_below (g := gb199) (o := .cells #[.int .i64 t189, .string t190, .string t191, .slice Ao20 t192.length co20, .slice Ao21 t195.length co21] 25 (0, 0)) (by (with_reducible repeat (first | refine blk_drewN ?_ _ | refine blk_drew ?_ | refine blk_alloc ?_ _)); exact BK199.out) hb); have n6_ := Aside0.mk (below_step (by repeat (first | (with_reducible first | exact HB.out | apply below_alloc | apply pw_below_drewN | apply below_drew1 | refine below_set ?_ GE187.out | refine below_set ?_ GE199.out) | exact HB.out)) hb); clear HO_200003; clear HO_200004; clear HO225; clear HO229; clear BK187; clear BK199; clear HB; have HO_200003 := n0_; have HO_200004 := n1_; have HO225 := n2_; have HO229 := n3_; have BK187 := n4_; have BK199 := n5_; have HB := n6_; clear n0_ n1_ n2_ n3_ n4_ n5_ n6_; (try clear hb); (try clear hb2); (try clear hk); (try clear hi)))
                                    go_ret
                                    exact ⟨by first | rfl | (simp [errW_none, errW_some] <;> rfl) | (simp [*, errW_none, errW_some] <;> rfl), by repeat (first | (with_reducible first | exact HB.out | apply below_alloc | apply pw_below_drewN | apply below_drew1 | refine below_set ?_ GE187.out | refine below_set ?_ GE199.out) | exact HB.out)⟩
                                · rw [if_neg c107] at H
                                  have c107b0 : (t230 == t226) = false := by simpa using c107
                                  (try (have c107b1 : decide (t230 = t226) = false := by simpa using c107))
                                  (try (have c107b2 : (t230 == t226) = false := by simpa using c107))
                                  (try (have c107b3 : ¬ (t230 = t226) := by simpa using c107))
                                  clear c107
                                  obtain rfl := Option.some.inj H
                                  have hnb134 := NB187_199.out
                                  have hnc134 := NB199_187.out
                                  have hcz135_0 : wc.cell? ⟨gb187, 0, none⟩ = some (.int .i64 a0_0) := (blk_cell BK187.out 0).trans rfl
                                  have hcz135_1 : wc.cell? ⟨gb187, 1, none⟩ = some (.string a0_1) := (blk_cell BK187.out 1).trans rfl
                                  have hcz135_2 : wc.cell? ⟨gb187, 2, none⟩ = some (.string a0_2) := (blk_cell BK187.out 2).trans rfl
                                  have hcz135_3 : wc.cell? ⟨gb187, 3, none⟩ = some (.slice A0_3 l0_3.length c0_3) := (blk_cell BK187.out 3).trans rfl
                                  have hcz135_4 : wc.cell? ⟨gb187, 4, none⟩ = some (.slice A0_4 l0_4.length c0_4) := (blk_cell BK187.out 4).trans rfl
                                  have hfz135_0 := blk_frozen BK187.out 0
                                  have hfz135_1 := blk_frozen BK187.out 1
                                  have hfz135_2 := blk_frozen BK187.out 2
                                  have hfz135_3 := blk_frozen BK187.out 3
                                  have hfz135_4 := blk_frozen BK187.out 4
                                  go_wp2_with (first | ((with_reducible refine gate_callee (f := 25) rfl ?_); refine goesL_ (some 65) rfl rfl Try.func25 (by kernel_rfl) rfl #[.agg #[.int .i64 a0_0, .string a0_1, .string a0_2, .slice A0_3 l0_3.length c0_3, .slice A0_4 l0_4.length c0_4], .slice A1 l1.length c1, .int .i64 1, .bool (a2 == 13)] rfl (by (try simp only [List.map_toArray, List.map_cons, List.map_nil]); first | done | rfl | (simp only [List.length_drop, List.length_take]; rfl)) ?_; (with_reducible refine (spec_Beside29.calls kj101 a0_0 a0_1 a0_2 _ _ l0_3 _ _ l0_4 _ _ l1 1 (a2 == 13) t223 t226 _ ?side1 ?side2 ?side3 ?side4 ?side5 ?side6 A105.out).mono ?_); (case side1 => repeat (first | exact (Kd.C_below HR0_3.out HB.out) | (with_reducible refine Kd.C_alloc ?_ _) | (with_reducible refine Kd.C_drewN ?_ _) | (with_reducible refine Kd.C_drew ?_))); (case side2 => exact HC0_3.out); (case side3 => repeat (first | exact (Kd.C_below HR0_4.out HB.out) | (with_reducible refine Kd.C_alloc ?_ _) | (with_reducible refine Kd.C_drewN ?_ _) | (with_reducible refine Kd.C_drew ?_))); (case side4 => exact HC0_4.out); (case side5 => repeat (first | exact (Kd.C_below HR1.out HB.out) | (with_reducible refine Kd.C_alloc ?_ _) | (with_reducible refine Kd.C_drewN ?_ _) | (with_reducible refine Kd.C_drew ?_))); (case side6 => exact HC1.out); rintro e w136 ⟨v224, rfl, ho0, hb⟩; refine ⟨_, rfl, ?_⟩; have n0_ := Aside0.mk (Kd.V_elder' (by (with_reducible repeat (first | apply Kd.V_alloc | apply Kd.V_drewN | apply Kd.V_drew)); exact HO_200003.out) (Kd.R_base ho0) hb); have n1_ := Aside0.mk (Kd.V_elder' (by (with_reducible repeat (first | apply Kd.V_alloc | apply Kd.V_drewN | apply Kd.V_drew)); exact HO_200004.out) (Kd.R_base ho0) hb); have n2_ := Aside0.mk (Kd.R_lower ho0 (below_size (by repeat (first | (with_reducible first | exact HB.out | apply below_alloc | apply pw_below_drewN | apply below_drew1 | refine below_set ?_ GE187.out | refine below_set ?_ GE199.out) | exact HB.out)))); have n3_ := Aside0.mk (blk_below (g := gb187) (o := .cells #[.int .i64 a0_0, .string a0_1, .string a0_2, .slice A0_3 l0_3.length c0_3, .slice A0_4 l0_4.length c0_4] 25 (0, 0)) (by (with_reducible repeat (first | refine blk_drewN ?_ _ | refine blk_drew ?_ | refine blk_alloc ?_ _)); exact BK187.out) hb); have n4_ := Aside0.mk (blk_below (g := gb199) (o := .cells #[.int .i64 t189, .string t190, .string t191, .slice Ao20 t192.length co20, .slice Ao21 t195.length co21] 25 (0, 0)) (by (with_reducible repeat (first | refine blk_drewN ?_ _ | refine blk_drew ?_ | refine blk_alloc ?_ _)); exact BK199.out) hb); have n5_ := Aside0.mk (below_step (by repeat (first | (with_reducible first | exact HB.out | apply below_alloc | apply pw_below_drewN | apply below_drew1 | refine below_set ?_ GE187.out | refine below_set ?_ GE199.out) | exact HB.out)) hb); clear HO_200003; clear HO_200004; clear BK187; clear BK199; clear HB; have HO_200003 := n0_; have HO_200004 := n1_; have HO225 := n2_; have BK187 := n3_; have BK199 := n4_; have HB := n5_; clear n0_ n1_ n2_ n3_ n4_ n5_; (try clear hb); (try clear hb2); (try clear hk); (try clear hi); (try clear ho0); have hcz137_0 : w136.cell? ⟨gb187, 0, none⟩ = some (.int .i64 a0_0) := (blk_cell BK187.out 0).trans rfl; have hcz137_1 : w136.cell? ⟨gb187, 1, none⟩ = some (.string a0_1) := (blk_cell BK187.out 1).trans rfl; have hcz137_2 : w136.cell? ⟨gb187, 2, none⟩ = some (.string a0_2) := (blk_cell BK187.out 2).trans rfl; have hcz137_3 : w136.cell? ⟨gb187, 3, none⟩ = some (.slice A0_3 l0_3.length c0_3) := (blk_cell BK187.out 3).trans rfl; have hcz137_4 : w136.cell? ⟨gb187, 4, none⟩ = some (.slice A0_4 l0_4.length c0_4) := (blk_cell BK187.out 4).trans rfl; have hfz137_0 := blk_frozen BK187.out 0; have hfz137_1 := blk_frozen BK187.out 1; have hfz137_2 := blk_frozen BK187.out 2; have hfz137_3 := blk_frozen BK187.out 3; have hfz137_4 := blk_frozen BK187.out 4) | ((with_reducible refine gate_callee (f := 26) rfl ?_); refine goesL_ (some 72) rfl rfl Try.func26 (by kernel_rfl) rfl #[.agg #[.int .i64 a0_0, .string a0_1, .string a0_2, .slice A0_3 l0_3.length c0_3, .slice A0_4 l0_4.length c0_4], .slice A1 l1.length c1, .int .i64 a2] rfl (by (try simp only [List.map_toArray, List.map_cons, List.map_nil]); first | done | rfl | (simp only [List.length_drop, List.length_take]; rfl)) ?_; (with_reducible refine (impl_Neighbor.calls kj101 a0_0 a0_1 a0_2 _ _ l0_3 _ _ l0_4 _ _ l1 a2 t227 t230 _ ?side1 ?side2 ?side3 ?side4 ?side5 ?side6 A106.out).mono ?_); (case side1 => repeat (first | exact (Kd.C_below HR0_3.out HB.out) | (with_reducible refine Kd.C_alloc ?_ _) | (with_reducible refine Kd.C_drewN ?_ _) | (with_reducible refine Kd.C_drew ?_))); (case side2 => exact HC0_3.out); (case side3 => repeat (first | exact (Kd.C_below HR0_4.out HB.out) | (with_reducible refine Kd.C_alloc ?_ _) | (with_reducible refine Kd.C_drewN ?_ _) | (with_reducible refine Kd.C_drew ?_))); (case side4 => exact HC0_4.out); (case side5 => repeat (first | exact (Kd.C_below HR1.out HB.out) | (with_reducible refine Kd.C_alloc ?_ _) | (with_reducible refine Kd.C_drewN ?_ _) | (with_reducible refine Kd.C_drew ?_))); (case side6 => exact HC1.out); rintro e w138 ⟨v228, rfl, ho0, hb⟩; refine ⟨_, rfl, ?_⟩; have n0_ := Aside0.mk (Kd.V_elder' (by (with_reducible repeat (first | apply Kd.V_alloc | apply Kd.V_drewN | apply Kd.V_drew)); exact HO_200003.out) (Kd.R_base ho0) hb); have n1_ := Aside0.mk (Kd.V_elder' (by (with_reducible repeat (first | apply Kd.V_alloc | apply Kd.V_drewN | apply Kd.V_drew)); exact HO_200004.out) (Kd.R_base ho0) hb); have n2_ := Aside0.mk (Kd.R_elder' (by (with_reducible repeat (first | apply Kd.R_alloc | apply Kd.R_drewN | apply Kd.R_drew)); exact HO225.out) (Kd.R_base ho0) hb); have n3_ := Aside0.mk (Kd.R_lower (Kd.R_new' ho0 (Kd.R_lt (by (with_reducible repeat (first | apply Kd.R_alloc | apply Kd.R_drewN | apply Kd.R_drew)); exact HO225.out))) (below_size (by repeat (first | (with_reducible first | exact HB.out | apply below_alloc | apply pw_below_drewN | apply below_drew1 | refine below_set ?_ GE187.out | refine below_set ?_ GE199.out) | exact HB.out)))); have n4_ := Aside0.mk (blk_below (g := gb187) (o := .cells #[.int .i64 a0_0, .string a0_1, .string a0_2, .slice A0_3 l0_3.length c0_3, .slice A0_4 l0_4.length c0_4] 25 (0, 0)) (by (with_reducible repeat (first | refine blk_drewN ?_ _ | refine blk_drew ?_ | refine blk_alloc ?_ _)); exact BK187.out) hb); have n5_ := Aside0.mk (blk_below (g := gb199) (o := .cells #[.int .i64 t189, .string t190, .string t191, .slice Ao20 t192.length co20, .slice Ao21 t195.length co21] 25 (0, 0)) (by (with_reducible repeat (first | refine blk_drewN ?_ _ | refine blk_drew ?_ | refine blk_alloc ?_ _)); exact BK199.out) hb); have n6_ := Aside0.mk (below_step (by repeat (first | (with_reducible first | exact HB.out | apply below_alloc | apply pw_below_drewN | apply below_drew1 | refine below_set ?_ GE187.out | refine below_set ?_ GE199.out) | exact HB.out)) hb); clear HO_200003; clear HO_200004; clear HO225; clear BK187; clear BK199; clear HB; have HO_200003 := n0_; have HO_200004 := n1_; have HO225 := n2_; have HO229 := n3_; have BK187 := n4_; have BK199 := n5_; have HB := n6_; clear n0_ n1_ n2_ n3_ n4_ n5_ n6_; (try clear hb); (try clear hb2); (try clear hk); (try clear hi); (try clear ho0)))
                                  go_ret
                                  exact ⟨by first | rfl | (simp [errW_none, errW_some] <;> rfl) | (simp [*, errW_none, errW_some] <;> rfl), by repeat (first | (with_reducible first | exact HB.out | apply below_alloc | apply pw_below_drewN | apply below_drew1 | refine below_set ?_ GE187.out | refine below_set ?_ GE199.out) | exact HB.out)⟩
                              · replace c104 := Bool.eq_false_iff.mpr c104
                                subst c104
                                have H1 : (some true) = some r := by rw [if_neg (show ¬ (false = true) by decide)] at H; exact H
                                clear H
                                have H := H1
                                clear H1
                                obtain rfl := Option.some.inj H
                                go_wp2
                                go_ret
                                exact ⟨by first | rfl | (simp [errW_none, errW_some] <;> rfl) | (simp [*, errW_none, errW_some] <;> rfl), by repeat (first | (with_reducible first | exact HB.out | apply below_alloc | apply pw_below_drewN | apply below_drew1 | refine below_set ?_ GE187.out | refine below_set ?_ GE199.out) | exact HB.out)⟩

end Go.Proofs.Ytibfoaahdbdogaa.PDom

/- FnDomSibling: the plain law, and the law's walk for trees that fit. -/
namespace Go.Proofs.Ytibfoaahdbdogaa.PDom
open Go.RowKit Go.Proofs.YtibfoaahdbdogaaW.PrintWords Go.Proofs.YtibfoaahdbdogaaW.PrintLast Go.Proofs.YtibfoaahdbdogaaW.PrintMore Go.Proofs.Ytibfoaahdbdogaa.Dom
set_option linter.unusedVariables false
set_option linter.unusedSimpArgs false

theorem count_kid {t y : T} (h : y ∈ t.f4) : countT y < countT t := by
  rw [countT_eq t]
  have key : ∀ l : List T, y ∈ l → countT y ≤ countTL l := by
    intro l
    induction l with
    | nil => intro h; cases h
    | cons x l ih =>
      intro h
      simp only [countTL]
      rcases List.mem_cons.1 h with rfl | h
      · omega
      · have := ih h
        omega
  have := key _ h
  omega
theorem count_len (t : T) : t.f4.length < countT t := by
  rw [countT_eq t]
  have key : ∀ l : List T, l.length ≤ countTL l := by
    intro l
    induction l with
    | nil => exact Nat.le_refl _
    | cons x l ih =>
      have : 0 < countT x := by rw [countT_eq]; omega
      simp only [countTL, List.length_cons]
      omega
  have := key t.f4
  omega
theorem atT_small (l : List Int) : ∀ (t u : T), atT t l = some u → l.length < countT t ∧ ∀ x ∈ l, 0 ≤ x ∧ x < countT t := by
  induction l with
  | nil => intro t u _; exact ⟨by rw [countT_eq, List.length_nil]; omega, fun x hx => by cases hx⟩
  | cons k l ih =>
    intro t u e
    simp only [atT] at e
    by_cases h0 : 0 ≤ k
    · rw [if_pos h0] at e
      obtain ⟨z, hz, e2⟩ := Option.bind_eq_some_iff.1 e
      obtain ⟨h1, h2⟩ := ih z u e2
      have h3 := count_kid (List.mem_of_getElem? hz)
      have h4 := count_len t
      have h5 : k.toNat < t.f4.length := (List.getElem?_eq_some_iff.1 hz).1
      refine ⟨by rw [List.length_cons]; omega, fun x hx => ?_⟩
      rcases List.mem_cons.1 hx with rfl | hx
      · omega
      · have := h2 x hx
        omega
    · rw [if_neg h0] at e
      cases e
theorem atT_last {t u : T} {path : List Int} {j : Int} (hx : atT t path = some u) (hj : path.getLast? = some j) : ∃ up, atT t path.dropLast = some up ∧ 0 ≤ j ∧ j.toNat < up.f4.length := by
  have e := last_split path j hj
  rw [e, atT_append] at hx
  obtain ⟨up, h1, h2⟩ := Option.bind_eq_some_iff.1 hx
  refine ⟨up, h1, ?_⟩
  simp only [atT] at h2
  by_cases h0 : 0 ≤ j
  · rw [if_pos h0] at h2
    obtain ⟨y, h3, h4⟩ := Option.bind_eq_some_iff.1 h2
    exact ⟨h0, (List.getElem?_eq_some_iff.1 h3).1⟩
  · rw [if_neg h0] at h2
    cases h2
theorem nbr_small {t : T} {path q : List Int} {kind : Int} (h : nbrR t path kind = some q) (hp : path.length < 1000) : q.length < 2000 := by
  unfold nbrR at h
  obtain ⟨_, _, h⟩ := Option.bind_eq_some_iff.1 h
  unfold nbrT at h
  split at h
  · obtain ⟨x, _, h⟩ := Option.bind_eq_some_iff.1 h
    obtain ⟨i, _, rfl⟩ := Option.map_eq_some_iff.1 h
    rw [List.length_append, List.length_singleton]
    omega
  · split at h
    · cases h
    · obtain ⟨x, _, h⟩ := Option.bind_eq_some_iff.1 h
      split at h
      · obtain ⟨i, _, rfl⟩ := Option.map_eq_some_iff.1 h
        rw [List.length_append, List.length_singleton, List.length_dropLast]
        omega
      · obtain ⟨i, _, rfl⟩ := Option.map_eq_some_iff.1 h
        rw [List.length_append, List.length_singleton, List.length_dropLast]
        omega
theorem nbr_ev {t : T} (ht : Fit t) {K : Nat} (h : laws_tree29.f K t.f0 t.f1 t.f2 t.f3 t.f4 = some true) (path : List Int) (hp : path.length ≤ 4398046510976) (kind : Int) (hk : 8 ≤ kind ∧ kind ≤ 13) : Ev (fun k => impl_Neighbor.f k t.f0 t.f1 t.f2 t.f3 t.f4 path kind) (resR (nbrR t path kind)) := by
  obtain ⟨K3, e3⟩ := fitB_ev t ht
  have e2 := Ev.of (fun k => laws_tree29.mono t.f0 t.f1 t.f2 t.f3 t.f4 k) h
  obtain ⟨K2, h2⟩ := e2
  refine ⟨K2 + K3, fun k hk' => ?_⟩
  have h4 : laws_tree29.f k t.f0 t.f1 t.f2 t.f3 t.f4 = some true := h2 k (by omega)
  show impl_Neighbor.f k _ _ _ _ _ _ _ = _
  unfold impl_Neighbor.f
  rw [h4, Option.bind_some, if_pos ⟨rfl, e3 k (by omega), hp, hk.1, hk.2⟩]
  cases t
  rfl
/-- The end of each case. -/
theorem same_ev {t : T} (ht : Fit t) {K : Nat} (h : laws_tree29.f K t.f0 t.f1 t.f2 t.f3 t.f4 = some true) (path : List Int) (hp : path.length < 1000) (kind : Int) (hk : 8 ≤ kind ∧ kind ≤ 13) {g : Nat → Option (List Int × Bool)} (hg : Ev g (resR (nbrR t path kind))) :
    Ev (fun k => (g k).bind fun bt201 => ((impl_Neighbor.f k t.f0 t.f1 t.f2 t.f3 t.f4 path kind).bind fun bt205 => (if (bt205.2 == bt201.2) = true then (if bt205.2 = true then ((laws_path29.f k bt205.1 bt201.1).bind fun t209 => (if t209 = true then ((laws_living29.f k).bind fun t210 => (some t210)) else (some false))) else ((laws_living29.f k).bind fun t211 => (some t211))) else (some false)))) true := by
  refine Ev.bind hg ?_
  refine Ev.bind (nbr_ev ht h path (by omega) kind hk) ?_
  simp only [beq_self_eq_true, if_true]
  cases hn : nbrR t path kind with
  | none =>
    simp only [resR, Option.isSome_none, Bool.false_eq_true, if_false]
    exact Ev.bind living_ev (Ev.now _)
  | some q =>
    have hq := nbr_small hn hp
    simp only [resR, Option.isSome_some, if_true, Option.getD_some]
    refine Ev.bind (path_self q (by omega)) ?_
    simp only [if_true]
    exact Ev.bind living_ev (Ev.now _)
theorem sib_pure {t : T} (ht : FitS t) (path : List Int) (hpl : path.length ≤ 17592186044416) (kind : Int) : ∃ k, laws_FnDomSibling.f k t.f0 t.f1 t.f2 t.f3 t.f4 path kind = some true := by
  have hf := ht.fit
  obtain ⟨b1, e1⟩ := fits2_ev t hf
  obtain ⟨b2, e2⟩ := tree_ev t ht
  refine Ev.rounds ?_
  refine Ev.congr (f := fun k => _) (fun k => by rw [laws_FnDomSibling.f]) ?_
  refine Ev.bind e1 ?_
  have j0t : Ev (fun k => laws_FnDomSibling.j0 k path kind true t.f0 t.f1 t.f2 t.f3 t.f4) true := by
    refine Ev.step (f := fun _ => some true) (fun k => ?_) (Ev.now _)
    simp only [laws_FnDomSibling.j0]
    rfl
  have j1t : Ev (fun k => laws_FnDomSibling.j1 k path kind true t.f0 t.f1 t.f2 t.f3 t.f4) true := by
    refine Ev.step (f := fun _ => some true) (fun k => ?_) (Ev.now _)
    simp only [laws_FnDomSibling.j1]
    rfl
  cases b1 with
  | false => simp only [Bool.false_eq_true, if_false]; exact j0t
  | true =>
    simp only [if_true]
    by_cases hlen : (path.length : Int) > 2147483647
    · rw [decide_eq_true hlen]
      exact j0t
    · rw [decide_eq_false hlen]
      refine Ev.step (f := fun k => (spec_At29.f k t.f0 t.f1 t.f2 t.f3 t.f4 path).bind fun bt189 => (if bt189.2.2.2.2.2 = true then ((laws_tree29.f k t.f0 t.f1 t.f2 t.f3 t.f4).bind fun t200 => (laws_FnDomSibling.j1 k path kind (!t200) t.f0 t.f1 t.f2 t.f3 t.f4)) else (laws_FnDomSibling.j1 k path kind true t.f0 t.f1 t.f2 t.f3 t.f4))) (fun k => ?_) ?_
      · simp only [laws_FnDomSibling.j0]
        rw [if_neg (by simp)]
      refine Ev.bind (at29_ev path (by omega) t hf) ?_
      cases hu : atT t path with
      | none => simp only [atR, Bool.false_eq_true, if_false]; exact j1t
      | some u =>
        simp only [atR, if_true]
        refine Ev.bind e2 ?_
        cases b2 with
        | false => exact j1t
        | true =>
          obtain ⟨K2, h2⟩ := e2
          have hK : laws_tree29.f K2 t.f0 t.f1 t.f2 t.f3 t.f4 = some true := h2 K2 (Nat.le_refl _)
          obtain ⟨hn, hc, _⟩ := tree_norm hf hK
          obtain ⟨hp1, hp2⟩ := atT_small path t u hu
          have hp : path.length < 1000 := by omega
          have hnr : ∀ kd, nbrR t path kd = nbrT t path kd := fun kd => by unfold nbrR; rw [hu]; rfl
          have first : ∀ kd, (kd = 8 ∨ kd = 9) → Ev (fun k => spec_First29.f k t.f0 t.f1 t.f2 t.f3 t.f4 path (kd == 9)) (resR (nbrR t path kd)) := by
            intro kd hkd
            have := first29_ev path hp (kd == 9) t u hf hu
            rw [hnr]
            unfold nbrT
            rw [if_pos hkd, hu]
            exact this
          have beside : ∀ kd : Int, (kd = 10 ∨ kd = 11 ∨ kd = 12 ∨ kd = 13) → ∀ el : Bool, ∀ dir : Bool, (dir = true → el = (kd == 13) ∧ ¬ (kd = 10 ∨ kd = 11)) → (dir = false → el = (kd == 11) ∧ (kd = 10 ∨ kd = 11)) → Ev (fun k => spec_Beside29.f k t.f0 t.f1 t.f2 t.f3 t.f4 path (if dir then 1 else -1) el) (resR (nbrR t path kd)) := by
            intro kd hkd el dir h1 h2
            rw [hnr]
            unfold nbrT
            rw [if_neg (show ¬ (kd = 8 ∨ kd = 9) by omega)]
            cases hlast : path.getLast? with
            | none =>
              have hpn : path = [] := List.getLast?_eq_none_iff.1 hlast
              exact beside29_none path hpn t _ el
            | some j =>
              obtain ⟨up, hup, hj0, hjl⟩ := atT_last hu hlast
              have hjm := hp2 j (List.mem_of_getLast? hlast)
              have := beside29_ev path hp j hlast (by omega) t up hf hup hjl el dir
              simp only []
              rw [hup]
              cases dir with
              | true =>
                obtain ⟨rfl, h3⟩ := h1 rfl
                rw [if_pos rfl] at this
                simp only [Option.bind_some, if_neg h3]
                exact this
              | false =>
                obtain ⟨rfl, h3⟩ := h2 rfl
                simp only [Bool.false_eq_true, if_false] at this
                simp only [Option.bind_some, if_pos h3]
                exact this
          refine Ev.step (f := fun k => if kind = 8 then (laws_FnDomSibling.j2 k path kind kind (kind == 8) t.f0 t.f1 t.f2 t.f3 t.f4) else (laws_FnDomSibling.j2 k path kind kind (kind == 9) t.f0 t.f1 t.f2 t.f3 t.f4)) (fun k => ?_) ?_
          · simp only [laws_FnDomSibling.j1]
            rw [if_neg (by simp)]
          have j2e : ∀ x, (x = true ↔ (kind = 8 ∨ kind = 9)) → Ev (fun k => laws_FnDomSibling.j2 k path kind kind x t.f0 t.f1 t.f2 t.f3 t.f4) true := by
            intro x hx
            by_cases hb : x = true
            · have hk := hx.1 hb
              refine Ev.step (fun k => ?_) (same_ev hf hK path hp kind (by omega) (first kind hk))
              simp only [laws_FnDomSibling.j2]
              rw [if_pos hb]
            · have hk : ¬ (kind = 8 ∨ kind = 9) := fun h => hb (hx.2 h)
              refine Ev.step (f := fun k => if kind = 10 then (laws_FnDomSibling.j3 k path kind kind (kind == 10) t.f0 t.f1 t.f2 t.f3 t.f4) else (laws_FnDomSibling.j3 k path kind kind (kind == 11) t.f0 t.f1 t.f2 t.f3 t.f4)) (fun k => ?_) ?_
              · simp only [laws_FnDomSibling.j2]
                rw [if_neg hb]
              have j3e : ∀ x, (x = true ↔ (kind = 10 ∨ kind = 11)) → Ev (fun k => laws_FnDomSibling.j3 k path kind kind x t.f0 t.f1 t.f2 t.f3 t.f4) true := by
                intro x hx
                by_cases hb : x = true
                · have hk := hx.1 hb
                  refine Ev.step (fun k => ?_) (same_ev hf hK path hp kind (by omega) (beside kind (by omega) (kind == 11) false (fun h => by cases h) (fun _ => ⟨rfl, hk⟩)))
                  simp only [laws_FnDomSibling.j3]
                  rw [if_pos hb]
                  rfl
                · have hk2 : ¬ (kind = 10 ∨ kind = 11) := fun h => hb (hx.2 h)
                  refine Ev.step (f := fun k => if kind = 12 then (laws_FnDomSibling.j4 k path kind (kind == 12) t.f0 t.f1 t.f2 t.f3 t.f4) else (laws_FnDomSibling.j4 k path kind (kind == 13) t.f0 t.f1 t.f2 t.f3 t.f4)) (fun k => ?_) ?_
                  · simp only [laws_FnDomSibling.j3]
                    rw [if_neg hb]
                  have j4e : ∀ x, (x = true ↔ (kind = 12 ∨ kind = 13)) → Ev (fun k => laws_FnDomSibling.j4 k path kind x t.f0 t.f1 t.f2 t.f3 t.f4) true := by
                    intro x hx
                    by_cases hb : x = true
                    · have hk := hx.1 hb
                      refine Ev.step (fun k => ?_) (same_ev hf hK path hp kind (by omega) (beside kind (by omega) (kind == 13) true (fun _ => ⟨rfl, hk2⟩) (fun h => by cases h)))
                      simp only [laws_FnDomSibling.j4]
                      rw [if_pos hb]
                      rfl
                    · refine Ev.step (f := fun _ => some true) (fun k => ?_) (Ev.now _)
                      simp only [laws_FnDomSibling.j4]
                      rw [if_neg hb]
                  by_cases c : kind = 12
                  · simp only [if_pos c]; exact j4e _ (by simp [c])
                  · simp only [if_neg c]; exact j4e _ (by simp [c])
              by_cases c : kind = 10
              · simp only [if_pos c]; exact j3e _ (by simp [c])
              · simp only [if_neg c]; exact j3e _ (by simp [c])
          by_cases c : kind = 8
          · simp only [if_pos c]; exact j2e _ (by simp [c])
          · simp only [if_neg c]; exact j2e _ (by simp [c])
theorem row_calls_sib (t : T) (A3 : Option Addr) (c3 : Nat) (A4 : Option Addr) (c4 : Nat) (A1 : Option Addr) (c1 : Nat) (l1 : List Int) (a2 : Int) (w : World) (ht : FitS t) (h3 : Kd.C k78 w A3 t.f3.length t.f3) (l3 : t.f3.length ≤ c3) (h4 : Kd.C k25 w A4 t.f4.length t.f4) (l4 : t.f4.length ≤ c4)
    (hC : (Kd.int .i64).C w A1 l1.length l1) (hl : l1.length ≤ c1) (hB : l1.length * 8 ≤ 140737488351232) (hG : ∀ x ∈ l1, (Lit.int .i64 x).wf = true) (hw : (Lit.int .i64 a2).wf = true) :
    Calls Try.prog 6 #[.agg #[.int .i64 t.f0, .string t.f1, .string t.f2, .slice A3 t.f3.length c3, .slice A4 t.f4.length c4], .slice A1 l1.length c1, .int .i64 a2] w fun e w' => e = .returned (.bool true) ∧ Below w.heap.size w w' := by
  obtain ⟨k, h⟩ := sib_pure ht l1 (by omega) a2
  exact laws_FnDomSibling.calls k t.f0 t.f1 t.f2 A3 c3 t.f3 A4 c4 t.f4 A1 c1 l1 a2 true w h3 l3 h4 l4 hC hl h
end Go.Proofs.Ytibfoaahdbdogaa.PDom

/- Arguments opened: what the reading of a datum says of memory, for texts, numbers, slices and structs, and how large they are. Each as large as a row's reach allows. -/
namespace Go.Proofs.Ytibfoaahdbdogaa.Open
open Go.RowKit Go.ChangeShapes Go.WideShapes Go.Proofs.YtibfoaahdbdogaaW.PrintWords Go.Proofs.YtibfoaahdbdogaaW.PrintLast Go.Proofs.YtibfoaahdbdogaaW.PrintMore

/-- A datum of type t that is read within the fuel tells a value of kind k in memory, and the value is Good. -/
def Opens {α : Type} (P : Program) (t : TypeId) (k : Kd α) (Good : α → Prop) (fuel : Nat) : Prop :=
  ∀ (H : Type) (enc : TypeId × Value → H) (W : World) (base : Nat) (spare : Nat → Bool) (held : Bool) (cs : List Value) (x : DataW H × List MemPlace),
    DataW.trod enc P W base spare held fuel t cs = some x → (∀ n ∈ x.1.weights P t, n ≤ reachBytes) → ∃ y, k.K W y cs ∧ Good y

theorem opens_string {P : Program} {t : TypeId} (ht : P.underlying t = some .string) (fuel : Nat) : Opens P t Kd.string (fun s => s.size ≤ 140737488351232) fuel := by
  intro H enc W base spare held cs x h hw
  obtain ⟨s, rfl, rfl, _⟩ := DataW.trod_string ht h
  refine ⟨s, rfl, ?_⟩
  have := hw s.data.toList.length (by simp [DataW.weights])
  rw [Array.length_toList] at this
  exact this
theorem opens_int {P : Program} {t : TypeId} {k : IntKind} (ht : P.underlying t = some (.int k)) (fuel : Nat) : Opens P t (Kd.int k) (fun n => (Lit.int k n).wf = true) fuel := by
  intro H enc W base spare held cs x h hw
  obtain ⟨n, rfl, rfl, hwf⟩ := DataW.trod_int ht h
  exact ⟨n, rfl, hwf⟩

theorem weights_all {H : Type} {P : Program} {e : TypeId} : ∀ {ds : List (DataW H)} {d : DataW H}, d ∈ ds → ∀ n ∈ d.weights P e, n ∈ DataW.weightsAll P e ds
  | d0 :: ds, d, hd, n, hn => by
    simp only [DataW.weightsAll, List.mem_append]
    rcases List.mem_cons.1 hd with rfl | hd
    · exact .inl hn
    · exact .inr (weights_all hd n hn)
theorem addr_add (a : Addr) (i j : Nat) : (a.add i).add j = a.add (i + j) := by
  unfold Addr.add
  by_cases h1 : i = 0 <;> by_cases h2 : j = 0 <;> simp [h1, h2, Nat.add_assoc]

theorem opens_slice {α : Type} {P : Program} {t e : TypeId} {k : Kd α} {Good : α → Prop} (ht : P.underlying t = some (.slice e)) (hc : P.cellsOf e = k.sz) {B : Nat} (hB : P.bytesOf e = B) (fuel : Nat) (he : ∀ n, n < fuel → Opens P e k Good n) :
    Opens P t (Kd.slice e k) (fun xs => xs.length * B ≤ 140737488351232 ∧ ∀ x ∈ xs, Good x) fuel := by
  intro H enc W base spare held cs x h hw
  rcases DataW.trod_slice ht h with ⟨rfl, rfl⟩ | ⟨a, len, cap, elems, rest, n, rfl, rfl, rfl, hb, hl, hm, hlen, hel, hsp, hns⟩
  · exact ⟨[], ⟨none, 0, rfl, Nat.le_refl _, Kd.C_nil _ _⟩, by simp, fun _ h => by cases h⟩
  · have hwt : (elems.length + rest.length) * B ≤ reachBytes := by
      refine hw _ ?_
      simp only [DataW.weights, ht, List.length_map, hB]
      exact List.mem_cons_self ..
    have each : ∀ i, i < len → ∃ y : α, Good y ∧ ∃ c : List Value, c.length = k.sz ∧ k.K W y c ∧ ∀ j u, c[j]? = some u → W.cell? (a.add (i * k.sz + j)) = some u := by
      intro i hi
      have h1 := hel i hi
      rw [hc, List.getElem?_eq_getElem (by omega)] at h1
      obtain ⟨c, hcs, hy⟩ := Option.bind_eq_some_iff.1 h1
      obtain ⟨_, hcl, hcc⟩ := World.cells?_some hcs
      obtain ⟨y, hK, hG⟩ := he n (by omega) H enc W base spare held c _ hy (fun q hq => hw q (by
        simp only [DataW.weights, ht, List.mem_cons, List.mem_append]
        exact .inr (.inl (weights_all (List.mem_map.2 ⟨elems[i], List.getElem_mem _, rfl⟩) q hq))))
      refine ⟨y, hG, c, hcl, hK, fun j u hu => ?_⟩
      have hj : j < k.sz := by have := (List.getElem?_eq_some_iff.1 hu).1; omega
      have h2 := hcc j hj
      rw [addr_add] at h2
      rw [h2]
      exact hu
    let ys : List α := List.ofFn fun i : Fin len => Classical.choose (each i i.isLt)
    have hyl : ys.length = len := List.length_ofFn
    have hyg : ∀ (i : Nat) (hi : i < len), ys[i]'(by omega) = Classical.choose (each i hi) := fun i hi => by simp [ys]
    refine ⟨ys, ⟨some a, cap, by rw [hyl], by omega, rfl, ?_, fun hp => ⟨a, rfl, fun j p hj => ?_⟩⟩, ?_, fun y hy => ?_⟩
    · rw [hyl]
      simp only [maxLen] at hm
      omega
    · obtain ⟨hjl, rfl⟩ := List.getElem?_eq_some_iff.1 hj
      have h1 := Classical.choose_spec (each j (by omega))
      rw [hyg j (by omega)]
      exact h1.2
    · rw [hyl]
      refine Nat.le_trans (Nat.mul_le_mul_right _ ?_) hwt
      omega
    · obtain ⟨i, hi, rfl⟩ := List.getElem_of_mem hy
      rw [hyg i (by omega)]
      exact (Classical.choose_spec (each i (by omega))).1

/-- Fields one behind the other, from the cell with number o on. -/
def OpensFs {β : Type} (P : Program) (fs : List Field) (o : Nat) (k : Kd β) (Good : β → Prop) (fuel : Nat) : Prop :=
  ∀ (H : Type) (enc : TypeId × Value → H) (W : World) (base : Nat) (spare : Nat → Bool) (held : Bool) (cs : List Value) (xs : List (DataW H × List MemPlace)), xs.length = fs.length →
    (∀ (i : Nat) (f : Field), fs[i]? = some f → DataW.trod enc P W base spare held fuel f.type ((cs.drop f.offset).take (P.cellsOf f.type)) = xs[i]?) →
    (∀ (i : Nat) (f : Field) (x : DataW H × List MemPlace), fs[i]? = some f → xs[i]? = some x → ∀ n ∈ x.1.weights P f.type, n ≤ reachBytes) → cs.length = o + k.sz → ∃ y, k.K W y (cs.drop o) ∧ Good y
theorem opens_last {β : Type} {P : Program} {f : Field} {o : Nat} {k : Kd β} {Good : β → Prop} {fuel : Nat} (ho : f.offset = o) (hc : P.cellsOf f.type = k.sz) (h : Opens P f.type k Good fuel) : OpensFs P [f] o k Good fuel := by
  intro H enc W base spare held cs xs hl hx hw hcs
  obtain ⟨x, rfl⟩ : ∃ x, xs = [x] := List.length_eq_one_iff.1 hl
  have h1 := hx 0 f rfl
  rw [ho, hc, List.take_of_length_le (by rw [List.length_drop]; omega)] at h1
  exact h H enc W base spare held _ x h1 (hw 0 f x rfl rfl)
theorem opens_cons {α β : Type} {P : Program} {f : Field} {fs : List Field} {o : Nat} {k : Kd α} {k2 : Kd β} {Good : α → Prop} {Good2 : β → Prop} {fuel : Nat} (ho : f.offset = o) (hc : P.cellsOf f.type = k.sz) (h : Opens P f.type k Good fuel) (h2 : OpensFs P fs (o + k.sz) k2 Good2 fuel) :
    OpensFs P (f :: fs) o (Kd.pair k k2) (fun y => Good y.1 ∧ Good2 y.2) fuel := by
  intro H enc W base spare held cs xs hl hx hw hcs
  cases xs with
  | nil => simp at hl
  | cons x xs =>
    have h1 := hx 0 f rfl
    rw [ho, hc] at h1
    obtain ⟨y1, hK1, hG1⟩ := h H enc W base spare held _ x h1 (hw 0 f x rfl rfl)
    have hsz : (Kd.pair k k2).sz = k.sz + k2.sz := rfl
    obtain ⟨y2, hK2, hG2⟩ := h2 H enc W base spare held cs xs (by simpa using hl) (fun i g hg => by have := hx (i + 1) g (by simpa using hg); simpa using this)
      (fun i g z hg hz => hw (i + 1) g z (by simpa using hg) (by simpa using hz)) (by omega)
    refine ⟨(y1, y2), ⟨(cs.drop o).take k.sz, cs.drop (o + k.sz), ?_, hK1, hK2⟩, hG1, hG2⟩
    rw [← List.drop_drop, List.take_append_drop]
theorem opens_struct {α β : Type} {P : Program} {t : TypeId} {fs : Array Field} {k : Kd β} {Good : β → Prop} {fuel : Nat} (ht : P.underlying t = some (.struct fs)) (hc : P.cellsOf t = k.sz) (f : α → β) (g : β → α) (hfg : ∀ y, f (g y) = y) (h : ∀ n, n < fuel → OpensFs P fs.toList 0 k Good n) :
    Opens P t (Kd.iso k f) (fun x => Good (f x)) fuel := by
  intro H enc W base spare held cs x hx hw
  obtain ⟨xs, n, rfl, rfl, hcl, hl, hf⟩ := DataW.trod_struct ht hx
  obtain ⟨y, hK, hG⟩ := h n (by omega) H enc W base spare held cs xs (by simpa using hl) (fun i g hg => hf i g (by simpa using hg)) (fun i q z hq hz m hm => hw m (by
    simp only [DataW.weights, ht]
    exact DataW.weights_mem_each (j := i) (t := q.type) (d := z.1) (by simp only [List.getElem?_map, hq]; rfl) (by simp only [List.getElem?_map, hz]; rfl) m hm)) (by omega)
  rw [List.drop_zero] at hK
  refine ⟨g y, ?_, by show Good (f (g y)); rw [hfg]; exact hG⟩
  show k.K W (f (g y)) cs
  rw [hfg]
  exact hK

/-- An argument of a law that is a slice: its value, what it reads as, how large. -/
theorem open_slice {α : Type} {P : Program} {t e : TypeId} {k : Kd α} {Good : α → Prop} {B : Nat} {H : Type} {enc : TypeId × Value → H} {W : World} {base : Nat} {spare : Nat → Bool} {held : Bool} {v : Value} {d : DataW H} {ps : List MemPlace} {ts : List TypeId} {ds : List (DataW H)} {j : Nat}
    (hO : ∀ fuel, Opens P t (Kd.slice e k) (fun xs => xs.length * B ≤ 140737488351232 ∧ ∀ x ∈ xs, Good x) fuel) (hd : DataW.Trod enc P W base spare held t v d ps)
    (hsz : (DataW.weightsEach P ts ds).all (· ≤ reachBytes) = true) (ht : ts[j]? = some t) (hdj : ds[j]? = some d) :
    ∃ (xs : List α) (A : Option Addr) (c : Nat), v.cells.toList = [.slice A xs.length c] ∧ xs.length ≤ c ∧ k.C W A xs.length xs ∧ xs.length * B ≤ 140737488351232 ∧ ∀ x ∈ xs, Good x := by
  obtain ⟨fuel, hf⟩ := hd
  obtain ⟨xs, ⟨A, c, hcs, hl, hC⟩, hB, hG⟩ := hO fuel H enc W base spare held _ _ hf (fun n hn => by
    have := List.all_eq_true.1 hsz n (DataW.weights_mem_each ht hdj n hn)
    simpa using this)
  exact ⟨xs, A, c, hcs, hl, hC, hB, hG⟩

end Go.Proofs.Ytibfoaahdbdogaa.Open

/- A tree that comes in as an argument: what it reads as in memory, and that it fits. -/
namespace Go.Proofs.Ytibfoaahdbdogaa.PDom
open Go.RowKit Go.ChangeShapes Go.WideShapes Go.Proofs.YtibfoaahdbdogaaW.PrintWords Go.Proofs.YtibfoaahdbdogaaW.PrintLast Go.Proofs.YtibfoaahdbdogaaW.PrintMore Go.Proofs.Ytibfoaahdbdogaa.Dom Go.Proofs.Ytibfoaahdbdogaa.Open
set_option linter.unusedVariables false
set_option linter.unusedSimpArgs false

theorem opens_attr (fuel : Nat) : Opens Try.prog 78 k78 (fun _ => True) fuel := by
  have h := opens_struct (α := S78) (fuel := fuel) Try.underlying78 (by kernel_rfl) (fun x : S78 => (x.f0, x.f1)) (fun y => ⟨y.1, y.2⟩) (fun _ => rfl)
    (fun n _ => opens_cons (P := Try.prog) (o := 0) rfl (by kernel_rfl) (opens_string Try.underlying9 n) (opens_last (o := 1) rfl (by kernel_rfl) (opens_string Try.underlying9 n)))
  intro H enc W base spare held cs x hx hw
  obtain ⟨y, hK, _⟩ := h H enc W base spare held cs x hx hw
  exact ⟨y, hK, trivial⟩
theorem opens_T (fuel : Nat) : Opens Try.prog 25 k25 FitS fuel := by
  induction fuel using Nat.strongRecOn with
  | _ fuel ih =>
    have h := opens_struct (α := T) (fuel := fuel) Try.underlying25 (by kernel_rfl) (fun x : T => (x.f0, x.f1, x.f2, x.f3, x.f4)) (fun y => ⟨y.1, y.2.1, y.2.2.1, y.2.2.2.1, y.2.2.2.2⟩) (fun _ => rfl)
      (fun n hn => opens_cons (P := Try.prog) (o := 0) rfl (by kernel_rfl) (opens_int (k := .i64) Try.underlying3 n)
        (opens_cons (o := 1) rfl (by kernel_rfl) (opens_string Try.underlying9 n) (opens_cons (o := 2) rfl (by kernel_rfl) (opens_string Try.underlying9 n)
          (opens_cons (o := 3) rfl (by kernel_rfl) (opens_slice (k := k78) Try.underlying22 (by kernel_rfl) (B := 32) (by kernel_rfl) n (fun m _ => opens_attr m))
            (opens_last (o := 4) rfl (by kernel_rfl) (opens_slice (k := k25) Try.underlying23 (by kernel_rfl) (B := 88) (by kernel_rfl) n (fun m hm => ih m (by omega))))))))
    intro H enc W base spare held cs x hx hw
    obtain ⟨y, hK, hG⟩ := h H enc W base spare held cs x hx hw
    obtain ⟨_, _, rfl, rfl, ⟨_, _, rfl, rfl, ⟨_, _, rfl, rfl, ⟨_, _, rfl, ⟨A3, c3, rfl, l3, g3⟩, ⟨A4, c4, rfl, l4, g4⟩⟩⟩⟩⟩ := hK
    obtain ⟨_, hn, _, ⟨ha, _⟩, ⟨hb, hy⟩⟩ := hG
    have ha2 : y.f3.length * 32 ≤ 140737488351232 := ha
    have hb2 : y.f4.length * 88 ≤ 140737488351232 := hb
    exact ⟨y, k25_mk W y l3 g3 l4 g4, FitS.mk y hn (by omega) (by omega) hy⟩
theorem open_T {H : Type} {enc : TypeId × Value → H} {W : World} {base : Nat} {spare : Nat → Bool} {held : Bool} {v : Value} {d : DataW H} {ps : List MemPlace} {ts : List TypeId} {ds : List (DataW H)} {j : Nat} {t : TypeId} (e : t = 25)
    (hd : DataW.Trod enc Try.prog W base spare held t v d ps) (hsz : (DataW.weightsEach Try.prog ts ds).all (· ≤ reachBytes) = true) (ht : ts[j]? = some t) (hdj : ds[j]? = some d) :
    ∃ (y : T) (A3 : Option Addr) (c3 : Nat) (A4 : Option Addr) (c4 : Nat), FitS y ∧ v.cells.toList = [.int .i64 y.f0, .string y.f1, .string y.f2, .slice A3 y.f3.length c3, .slice A4 y.f4.length c4] ∧ k78.C W A3 y.f3.length y.f3 ∧ y.f3.length ≤ c3 ∧ k25.C W A4 y.f4.length y.f4 ∧ y.f4.length ≤ c4 := by
  subst e
  obtain ⟨fuel, hf⟩ := hd
  obtain ⟨y, hK, hG⟩ := opens_T fuel H enc W base spare held _ _ hf (fun n hn => by
    have := List.all_eq_true.1 hsz n (DataW.weights_mem_each ht hdj n hn)
    simpa using this)
  obtain ⟨A3, c3, A4, c4, hcs, l3, g3, l4, g4⟩ := k25_open hK
  exact ⟨y, A3, c3, A4, c4, hG, hcs, g3, l3, g4, l4⟩
end Go.Proofs.Ytibfoaahdbdogaa.PDom

/- The row of the law FnDomSibling, out of its walk. No further conditions. -/
namespace Go.Proofs.Ytibfoaahdbdogaa.fnDomSibling
open Go.ChangeShapes Go.WideShapes Go.ChangeAt Go.RowKit
open Go.ChangeMaps (open_string shut_string)
open Go.Proofs.Ytibfoaahdbdogaa.PDom
set_option linter.unusedVariables false
theorem own : ownKnob Try.prog.godebug = none := by kernel_rfl
theorem laidOut : laidOutB Try.prog = true := by kernel_rfl
set_option maxRecDepth 100000 in
theorem lifted (os : Os) (started : os.Started) (H : Type) (enc : TypeId × Value → H) :
    ReturnsInHanded {} Try.checked os 6 .any (Rows.fnDomSiblingSpec.pre6 enc Try.prog Try.f6 Rows.fnDomSiblingRow.domain false) (Rows.fnDomSiblingSpec.post enc Try.prog Try.f6 false true false false) := by
  refine returnsInHanded_of_change_sized (C := Try.checked) own started (by kernel_rfl) Try.func6
    (ChangeSpec.witness6 (enc := enc) (C := Try.checked) false ⟨#[], #[.agg #[.int .i64 0, .string ByteArray.empty, .string ByteArray.empty, .slice none 0 0, .slice none 0 0], .slice none 0 0, .int .i64 0], []⟩ 8 (by kernel_rfl) (by kernel_rfl) (by kernel_rfl) (by kernel_rfl)) ?_
  intro W base args ds gs before hval0 hW hcnd hsz0 _
  have hsz : (DataW.weightsEach Try.prog (Try.f6.params.toList ++ Rows.fnDomSiblingSpec.plain.varTypes Try.prog) (ds ++ gs)).all (· ≤ reachBytes) = true := hsz0
  have hval : ∀ (j : Nat) t v, Try.f6.params[j]? = some t → args[j]? = some v → Value.okWide Try.prog W .any base t v := hval0
  have hW' := hW
  obtain ⟨p, q, hA0, hV, rfl, hfz, hnd⟩ := hW
  have hA : DataW.TrodAll enc Try.prog W 0 (fun _ => true) true Try.f6.params.toList args.toList ds p := hA0
  rw [Try.params6] at hA hval hsz
  obtain ⟨v0, vs0, d0, ds0, p0, q0, hargs, rfl, rfl, h0, r0⟩ := trodAll_cons hA
  obtain ⟨v1, vs1, d1, ds1, p1, q1, rfl, rfl, rfl, h1, r1⟩ := trodAll_cons r0
  obtain ⟨v2, vs2, d2, ds2, p2, q2, rfl, rfl, rfl, h2, r2⟩ := trodAll_cons r1
  obtain ⟨rfl, rfl, rfl⟩ := trodAll_nil r2
  obtain rfl : args = #[v0, v1, v2] := by cases args; simp_all
  obtain ⟨rfl, rfl⟩ := trodVars_none hV
  obtain ⟨cs0, rfl, hz0⟩ := okWide_struct Try.underlying25 (hval 0 25 v0 rfl rfl)
  have k0 := h0
  have lt0 : ∀ x ∈ p0, x.block < W.heap.size := by obtain ⟨m, hm⟩ := k0; exact DataW.trod_lt m _ _ _ hm
  obtain ⟨x0, A0, c0, B0, d_0, hF0, hcs0, hC0, hl0, hD0, hm0⟩ := open_T rfl h0 hsz (j := 0) (t := 25) rfl rfl
  obtain rfl : cs0 = #[.int .i64 x0.f0, .string x0.f1, .string x0.f2, .slice A0 x0.f3.length c0, .slice B0 x0.f4.length d_0] := by cases cs0; simpa [Value.cells] using hcs0
  obtain ⟨a1, len1, cap1, rfl⟩ := okWide_slice Try.underlying32 (hval 1 32 v1 rfl rfl)
  have k1 := h1
  have lt1 : ∀ x ∈ p1, x.block < W.heap.size := by obtain ⟨m, hm⟩ := k1; exact DataW.trod_lt m _ _ _ hm
  obtain ⟨x1, A1, c1, hcs1, hl1, hC1, hB1, hG1⟩ := Open.open_slice (fun fuel => (Open.opens_slice Try.underlying32 (by kernel_rfl) (B := 8) (by kernel_rfl) fuel (fun n4 _ => (Open.opens_int Try.underlying3 n4)))) h1 hsz (j := 1) (t := 32) rfl rfl
  obtain ⟨rfl, rfl, rfl⟩ : a1 = A1 ∧ len1 = x1.length ∧ cap1 = c1 := by simpa [Value.cells] using hcs1
  obtain ⟨a2, rfl, rfl, rfl, w2⟩ := open_int Try.underlying3 (hval 2 3 v2 rfl rfl) h2
  clear hA0 hval0 hsz0
  refine (PDom.row_calls_sib x0 A0 c0 B0 d_0 a1 cap1 x1 a2 W hF0 hC0 hl0 hD0 hm0 hC1 hl1 hB1 hG1 w2).mono fun e W' ⟨he, bel⟩ => ?_
  subst he
  exact ⟨_, rfl, _, _, _, [], _, [], hW', trodAll_mk1 (shut_bool Try.underlying4 _), (trodAll_cons_mk (Below.trod laidOut (by kernel_rfl) (of_decide_eq_true (by kernel_rfl)) k0 bel lt0) (trodAll_cons_mk (Below.trod laidOut (by kernel_rfl) (of_decide_eq_true (by kernel_rfl)) k1 bel lt1) (trodAll_cons_mk (shut_int Try.underlying3 w2) trodAll_mk0))), rfl, bel.frame _, fun h => by cases h⟩
theorem over : Rows.fnDomSiblingRow.holds Try.pinned (OpenSpec.ofChange Rows.fnDomSiblingSpec) :=
  OpenClaim.holds_of_wide 6 Try.f6 rfl rfl rfl rfl rfl rfl rfl ⟨rfl, rfl, rfl, rfl, rfl⟩ rfl rfl rfl rfl rfl (by kernel_rfl) Try.func6 (by kernel_rfl)
    (of_decide_eq_true (by kernel_rfl)) (by unfold Func.isWrapper; first | (rw [if_pos (by decide +kernel)]; kernel_rfl) | (rw [if_neg (by decide +kernel)]; exact ⟨rfl, rfl⟩))
    (fun os started H enc _ => lifted os started H enc)
theorem proved : Rows.FnDomSiblingSaid := over
#print axioms proved
end Go.Proofs.Ytibfoaahdbdogaa.fnDomSibling
namespace Go.Proofs.Ytibfoaahdbdogaa
/-- The row, under a short name, for the claim. -/
theorem fnDomSibling_holds : Rows.FnDomSiblingSaid := fnDomSibling.proved
end Go.Proofs.Ytibfoaahdbdogaa
