/- A part of the proof of FnNoEmpty: ETabx0, ETabx2, Open, Cells, DelX, DelY, DelZ, NoE, ETabx1, Txt, Fits, TabP, LawNE, RowFnNoEmpty, one behind the other. -/
import Derived.Test.YtfciokcielponaaProg
import Derived.Below
import Derived.Deep.Draws
import Derived.Deep.AppendLies
import Derived.Maps.AppendAt
import Derived.OwnWalk
import Derived.Laws.BytesArg
import Derived.Laws.MakeOwn
import Derived.Laws.OwnMore
import Derived.Deep.OwnRows
import Derived.Tactics
import Derived.Lib.ConvBytes
import Derived.Laws.Slices
import Derived.WalkKit
import Derived.KernelRfl
import Derived.RowKit3
import Derived.Deep.LoopGhost
import Derived.Deep.QuietTactic
import Derived.BigQuiet
import Derived.WideLaws
import Derived.Deep.DeepCutAuto
import Derived.Deep.CutBlock
import Derived.Deep.RegionHeld3
import Derived.Laws.Rows
import Derived.Lib.AppendStr
import Derived.ArgAppend
import Derived.Laws.IdiomCopy
import Derived.OrdersHeld
import Derived.Laws.BitsLemmas
import Derived.RowKit
import Derived.Test.YtfciokcielponaaMFnNoEmpty1
import Derived.ChangeArms
import Derived.ChangeSlices
import Derived.DataReads
import Derived.SizedLaws
import Derived.Lib.SliceRun
import Derived.Tactics2
import Derived.Deep.DeepMust
import Derived.Lib.Bytes
import Derived.Sort.AtCall
import Derived.Test.YtfciokcielponaaRows
import Derived.ProofKit
import Derived.OpenShut
import Derived.ShutString
import Derived.ChangeOld
/- Printed by the program extprint.py of this session, out of the kit's print and contracts of this session's own; Lean checks it. -/
namespace Go.Proofs.Ytfciokcielponaa.PTab
open Go.RowKit Go.Proofs.YtfciokcielponaaW.PrintWords Go.Proofs.YtfciokcielponaaW.PrintLast Go.Proofs.YtfciokcielponaaW.PrintMore
attribute [local go_sem] max2_int min2_int max_two min_two max_three min_three max_four min_four   -- for this text's walks alone
set_option linter.unusedVariables false
set_option linter.unusedSimpArgs false



def errW : Option Int → Value
  | none => .nilIface
  | some c => .iface 0 (.int .i64 c)
theorem errW_none : errW none = .nilIface := rfl
theorem errW_some (c : Int) : errW (some c) = .iface 0 (.int .i64 c) := rfl

theorem info9 : (Try.prog.info? 9).map (fun i => (i.zero, i.size, i.bytes)) = some (some (.string ⟨#[]⟩), 1, 16) := by kernel_rfl
theorem info24 : (Try.prog.info? 24).map (fun i => (i.zero, i.size, i.bytes)) = some (some (.slice none 0 0), 1, 24) := by kernel_rfl
-- the values' own types
def rd_L1 (xs : List (List ByteArray)) (i : Int) : (List ByteArray) := xs.getD i.toNat ([] : List ByteArray)
theorem at_L1 {w : World} {A : Option Addr} {n : Nat} {xs : List (List ByteArray)} (h : Kd.C (Kd.slice 9 Kd.string) w A n xs) (i : Int) (h0 : 0 ≤ i) (h1 : i < n) : ∃ ad A0 c0, A = some ad ∧ w.cell? (ad.add i.toNat) = some (.slice A0 (rd_L1 xs i).length c0) ∧ (rd_L1 xs i).length ≤ c0 ∧ Kd.string.C w A0 (rd_L1 xs i).length (rd_L1 xs i) := by
  obtain ⟨ad, c, e, _, hK, hc0⟩ := Kd.C_get h ([] : List ByteArray) i h0 h1
  have hc : ∀ j u, c[j]? = some u → w.cell? (ad.add (i.toNat * 1 + j)) = some u := hc0
  obtain ⟨A0, c0, rfl, l0, g0⟩ := hK
  exact ⟨ad, A0, c0, e, by have hq := hc 0 _ rfl; rwa [Nat.mul_one, Nat.add_zero] at hq, l0, g0⟩

def rd_L3 (xs : List (List Int)) (i : Int) : (List Int) := xs.getD i.toNat ([] : List Int)
theorem at_L3 {w : World} {A : Option Addr} {n : Nat} {xs : List (List Int)} (h : Kd.C (Kd.slice 5 (Kd.int .u8)) w A n xs) (i : Int) (h0 : 0 ≤ i) (h1 : i < n) : ∃ ad A0 c0, A = some ad ∧ w.cell? (ad.add i.toNat) = some (.slice A0 (rd_L3 xs i).length c0) ∧ (rd_L3 xs i).length ≤ c0 ∧ (Kd.int .u8).C w A0 (rd_L3 xs i).length (rd_L3 xs i) := by
  obtain ⟨ad, c, e, _, hK, hc0⟩ := Kd.C_get h ([] : List Int) i h0 h1
  have hc : ∀ j u, c[j]? = some u → w.cell? (ad.add (i.toNat * 1 + j)) = some u := hc0
  obtain ⟨A0, c0, rfl, l0, g0⟩ := hK
  exact ⟨ad, A0, c0, e, by have hq := hc 0 _ rfl; rwa [Nat.mul_one, Nat.add_zero] at hq, l0, g0⟩

def rd_L4 (xs : List (List (List Int))) (i : Int) : (List (List Int)) := xs.getD i.toNat ([] : List (List Int))
theorem at_L4 {w : World} {A : Option Addr} {n : Nat} {xs : List (List (List Int))} (h : Kd.C (Kd.slice 46 (Kd.slice 5 (Kd.int .u8))) w A n xs) (i : Int) (h0 : 0 ≤ i) (h1 : i < n) : ∃ ad A0 c0, A = some ad ∧ w.cell? (ad.add i.toNat) = some (.slice A0 (rd_L4 xs i).length c0) ∧ (rd_L4 xs i).length ≤ c0 ∧ (Kd.slice 5 (Kd.int .u8)).C w A0 (rd_L4 xs i).length (rd_L4 xs i) := by
  obtain ⟨ad, c, e, _, hK, hc0⟩ := Kd.C_get h ([] : List (List Int)) i h0 h1
  have hc : ∀ j u, c[j]? = some u → w.cell? (ad.add (i.toNat * 1 + j)) = some u := hc0
  obtain ⟨A0, c0, rfl, l0, g0⟩ := hK
  exact ⟨ad, A0, c0, e, by have hq := hc 0 _ rfl; rwa [Nat.mul_one, Nat.add_zero] at hq, l0, g0⟩

end Go.Proofs.Ytfciokcielponaa.PTab

/- Printed by the program extprint.py of this session, out of the kit's print and contracts of this session's own; Lean checks it. -/
namespace Go.Proofs.Ytfciokcielponaa.PTab
open Go.RowKit Go.Proofs.YtfciokcielponaaW.PrintWords Go.Proofs.YtfciokcielponaaW.PrintLast Go.Proofs.YtfciokcielponaaW.PrintMore
attribute [local go_sem] max2_int min2_int max_two min_two max_three min_three max_four min_four   -- for this text's walks alone
set_option linter.unusedVariables false
set_option linter.unusedSimpArgs false


/-! ### impl_textsOf: function 19 -/
mutual
def impl_textsOf.l0 : Nat → List (List ByteArray) → List (List (List Int)) → Int → Int → Option ((List (List ByteArray)))
  | 0, _, _, _, _ => none
  | k + 1, x3, x9, x10, x11 => if x11 < x10 then (if 0 ≤ x11 then (if x11 < (x9.length : Int) then (impl_textsOf.l1 k x3 ([] : List ByteArray) x9 x10 x11 (rd_L4 x9 x11) ((rd_L4 x9 x11).length : Int) 0) else (none)) else (none)) else (some x3)
def impl_textsOf.l1 : Nat → List (List ByteArray) → List ByteArray → List (List (List Int)) → Int → Int → List (List Int) → Int → Int → Option ((List (List ByteArray)))
  | 0, _, _, _, _, _, _, _, _ => none
  | k + 1, x3, x6, x9, x10, x11, x15, x16, x17 => if x17 < x16 then (if 0 ≤ x17 then (if x17 < (x15.length : Int) then (if x6.length < 8796093022208 then (impl_textsOf.l1 k x3 (x6 ++ [strOfNums (rd_L3 x15 x17)]) x9 x10 x11 x15 x16 (wrap64 (x17 + 1))) else (none)) else (none)) else (none)) else (if x3.length < 5864062014805 then (impl_textsOf.l0 k (x3 ++ [x6]) x9 x10 (wrap64 (x11 + 1))) else (none))
end
def impl_textsOf.f (k : Nat) (l0 : List (List (List Int))) : Option ((List (List ByteArray))) := impl_textsOf.l0 k ([] : List (List ByteArray)) l0 (l0.length : Int) 0
theorem impl_textsOf.mono_l : ∀ k, (∀ y0 y1 y2 y3, LeO (impl_textsOf.l0 k y0 y1 y2 y3) (impl_textsOf.l0 (k + 1) y0 y1 y2 y3)) ∧ (∀ y0 y1 y2 y3 y4 y5 y6 y7, LeO (impl_textsOf.l1 k y0 y1 y2 y3 y4 y5 y6 y7) (impl_textsOf.l1 (k + 1) y0 y1 y2 y3 y4 y5 y6 y7))
  | 0 => ⟨fun _ _ _ _ r h => by simp [impl_textsOf.l0] at h, fun _ _ _ _ _ _ _ _ r h => by simp [impl_textsOf.l1] at h⟩
  | k + 1 => by
    obtain ⟨ih0, ih1⟩ := impl_textsOf.mono_l k
    refine ⟨?_, ?_⟩
    · intro y0 y1 y2 y3
      unfold impl_textsOf.l0
      repeat' first
      | (with_reducible exact ih0 _ _ _ _)
      | (with_reducible exact ih1 _ _ _ _ _ _ _ _)
      | (with_reducible exact LeO.refl _)
      | (with_reducible exact LeO.none _)
      | (with_reducible refine LeO.ite ?_ ?_)
      | (with_reducible refine LeO.bind ?_ (fun _ => ?_))
      | exact ih0 _ _ _ _
      | exact ih1 _ _ _ _ _ _ _ _
      | exact LeO.none _
      | refine LeO.ite ?_ ?_
      | refine LeO.bind ?_ (fun _ => ?_)
    · intro y0 y1 y2 y3 y4 y5 y6 y7
      unfold impl_textsOf.l1
      repeat' first
      | (with_reducible exact ih0 _ _ _ _)
      | (with_reducible exact ih1 _ _ _ _ _ _ _ _)
      | (with_reducible exact LeO.refl _)
      | (with_reducible exact LeO.none _)
      | (with_reducible refine LeO.ite ?_ ?_)
      | (with_reducible refine LeO.bind ?_ (fun _ => ?_))
      | exact ih0 _ _ _ _
      | exact ih1 _ _ _ _ _ _ _ _
      | exact LeO.none _
      | refine LeO.ite ?_ ?_
      | refine LeO.bind ?_ (fun _ => ?_)
theorem impl_textsOf.mono : ∀ a0 k, LeO (impl_textsOf.f k a0) (impl_textsOf.f (k + 1) a0) := by
  intro a0 k
  obtain ⟨ih0, ih1⟩ := impl_textsOf.mono_l k
  unfold impl_textsOf.f
  repeat' first
      | (with_reducible exact ih0 _ _ _ _)
      | (with_reducible exact ih1 _ _ _ _ _ _ _ _)
      | (with_reducible exact LeO.refl _)
      | (with_reducible exact LeO.none _)
      | (with_reducible refine LeO.ite ?_ ?_)
      | (with_reducible refine LeO.bind ?_ (fun _ => ?_))
      | exact ih0 _ _ _ _
      | exact ih1 _ _ _ _ _ _ _ _
      | exact LeO.none _
      | refine LeO.ite ?_ ?_
      | refine LeO.bind ?_ (fun _ => ?_)
set_option maxHeartbeats 8000000 in
set_option maxRecDepth 100000 in
theorem impl_textsOf.calls (k : Nat) (A0 : Option Addr) (c0 : Nat) (l0 : List (List (List Int))) (r : List (List ByteArray)) (w : World) (hr0 : Kd.C (Kd.slice 46 (Kd.slice 5 (Kd.int .u8))) w A0 l0.length l0) (hc0 : l0.length ≤ c0) (h : impl_textsOf.f k l0 = some r) :
    Calls Try.prog 19 #[.slice A0 l0.length c0] w fun e w' => ∃ v0_ : Value, e = .returned (v0_) ∧ Kd.S (Kd.slice 9 Kd.string) 24 w' w.heap.size (fun _ => True) v0_ r ∧ Below w.heap.size w w' := by
  have HR0 := Aside0.mk hr0
  have HC0 := Aside0.mk hc0
  clear hr0 hc0
  have HB := Aside0.mk (Below.refl w.heap.size w)
  have H : (impl_textsOf.l0 k ([] : List (List ByteArray)) l0 (l0.length : Int) 0) = some r := h
  clear h
  have H' := Aside0.mk H
  clear H
  go_enter Try.func19, Try.ntmps19
  go_wp2
  go_loopg [3, 11] k (fun kq v3 v11 w' => ∃ (x3_1 : List (List ByteArray)) (x11_1 : Int), v11 = .int .i64 x11_1 ∧ Aside0 (impl_textsOf.l0 kq x3_1 l0 (l0.length : Int) x11_1 = some r) ∧ Aside0 (kq ≤ k) ∧ Aside0 (Kd.S (Kd.slice 9 Kd.string) 24 w' w.heap.size (fun _ => True) v3 x3_1) ∧ Aside0 (Below w.heap.size w w'))
  case atStart => exact ⟨(([] : List (List ByteArray))), (0), (by first | rfl | (simp; done) | (simp [*]; done)), H', ⟨Nat.le_refl _⟩, ⟨by first | exact Kd.S_nil _ _ _ _ _ | exact Kd.N_nil _ _ _ _ _ | exact Kd.V_nil _ _ _ _ _ | exact Kd.Q_nil _ _ _ _ _ | exact Kd.R_nil _ _ _ _ _⟩, ⟨by repeat (first | (with_reducible first | exact HB.out | apply below_alloc | apply pw_below_drewN | apply below_drew1) | exact HB.out)⟩⟩
  case round =>
    clear H'
    try clear c1
    obtain ⟨x3_1, x11_1, rfl, HA, HK1, HO_3, HB⟩ := hrel
    cases gk with
    | zero => exact absurd HA.out (by simp [impl_textsOf.l0])
    | succ k1 =>
      have H := HA.out
      clear HA
      simp only [impl_textsOf.l0] at H
      by_cases c2 : x11_1 < (l0.length : Int)
      · rw [if_pos c2] at H
        have c2b0 : decide (x11_1 < (l0.length : Int)) = true := decide_eq_true c2
        clear c2
        by_cases c3 : 0 ≤ x11_1
        · rw [if_pos c3] at H
          have c3b0 : decide (0 ≤ x11_1) = true := decide_eq_true c3
          clear c3
          by_cases c4 : x11_1 < (l0.length : Int)
          · rw [if_pos c4] at H
            have c4b0 : decide (x11_1 < (l0.length : Int)) = true := decide_eq_true c4
            clear c4
            have H' := Aside0.mk H
            clear H
            have p110 : 0 ≤ (x11_1 : Int) := of_decide_eq_true (by first | (with_reducible assumption) | assumption)
            have q110 : x11_1 < (l0.length : Int) := of_decide_eq_true (by first | (with_reducible assumption) | assumption)
            obtain ⟨ad110, A110_0, c110_0, e110, hx110_0, hl110_0, hi110_0⟩ := at_L4 HR0.out x11_1 p110 q110
            cases e110
            replace hx110_0 := (HB.out.cell (World.block_lt_of_cell? w _ hx110_0)).trans hx110_0
            have HR110_0 := Aside0.mk hi110_0
            have HC110_0 := Aside0.mk hl110_0
            clear hi110_0 hl110_0
            replace p110 := eq_true p110
            replace q110 := eq_true q110
            go_wp2
            go_loopg [6, 17] k1 (fun kq v6 v17 w' => ∃ (x6_2 : List ByteArray) (x17_2 : Int), v17 = .int .i64 x17_2 ∧ Aside0 (impl_textsOf.l1 kq x3_1 x6_2 l0 (l0.length : Int) x11_1 (rd_L4 l0 x11_1) ((rd_L4 l0 x11_1).length : Int) x17_2 = some r) ∧ Aside0 (kq ≤ k1) ∧ Aside0 (Kd.S (Kd.slice 9 Kd.string) 24 w' w.heap.size (fun k_ => some k_ ≠ (v6 : Value).ownBlock) u3 x3_1) ∧ Aside0 (Kd.R Kd.string 9 w' w.heap.size (fun _ => True) v6 x6_2) ∧ Aside0 (Below w.heap.size w w'))
            case atStart => exact ⟨(([] : List ByteArray)), (0), (by first | rfl | (simp; done) | (simp [*]; done)), H', ⟨Nat.le_refl _⟩, ⟨by (with_reducible repeat (first | apply Kd.S_alloc | apply Kd.S_drewN | apply Kd.S_drew)); exact Kd.S_mono HO_3.out (fun _ hk => (by simp [Value.ownBlock]))⟩, ⟨by first | exact Kd.R_nil _ _ _ _ _ | exact Kd.N_nil _ _ _ _ _ | exact Kd.V_nil _ _ _ _ _ | exact Kd.Q_nil _ _ _ _ _ | exact Kd.S_nil _ _ _ _ _⟩, ⟨by repeat (first | (with_reducible first | exact HB.out | apply below_alloc | apply pw_below_drewN | apply below_drew1) | exact HB.out)⟩⟩
            case round =>
              clear H'
              try clear c1
              try clear p1
              try clear q1
              try clear hx1
              try clear c2
              try clear c2b0
              try clear p2
              try clear c3
              try clear c3b0
              try clear c4
              try clear c4b0
              try clear hx110_0
              try clear p110
              try clear q110
              obtain ⟨x6_2, x17_2, rfl, HA, HK2, HO_3, HO_6, HB⟩ := hrel
              cases gk with
              | zero => exact absurd HA.out (by simp [impl_textsOf.l1])
              | succ k2 =>
                have H := HA.out
                clear HA
                simp only [impl_textsOf.l1] at H
                by_cases c5 : x17_2 < ((rd_L4 l0 x11_1).length : Int)
                · rw [if_pos c5] at H
                  have c5b0 : decide (x17_2 < ((rd_L4 l0 x11_1).length : Int)) = true := decide_eq_true c5
                  clear c5
                  by_cases c6 : 0 ≤ x17_2
                  · rw [if_pos c6] at H
                    have c6b0 : decide (0 ≤ x17_2) = true := decide_eq_true c6
                    clear c6
                    by_cases c7 : x17_2 < ((rd_L4 l0 x11_1).length : Int)
                    · rw [if_pos c7] at H
                      have c7b0 : decide (x17_2 < ((rd_L4 l0 x11_1).length : Int)) = true := decide_eq_true c7
                      clear c7
                      by_cases c8 : x6_2.length < 8796093022208
                      · rw [if_pos c8] at H
                        have LMc8 := Aside0.mk c8
                        clear c8
                        obtain ⟨y112, hy112⟩ : ∃ y_ : List ByteArray, y_ = (x6_2 ++ [strOfNums (rd_L3 (rd_L4 l0 x11_1) x17_2)]) := ⟨_, rfl⟩
                        replace H : (impl_textsOf.l1 k2 x3_1 y112 l0 (l0.length : Int) x11_1 (rd_L4 l0 x11_1) ((rd_L4 l0 x11_1).length : Int) (wrap64 (x17_2 + 1))) = some r := by first | (rw [hy112]; with_reducible exact H) | (have H2_ := (Option.bind_some _ _).symm.trans H; rw [hy112]; with_reducible exact H2_) | (have H2_ := (Option.bind_some _ _).symm.trans H; with_reducible exact H2_) | with_reducible exact H | (rw [hy112]; exact H) | exact H
                        have Ny112 := Aside0.mk hy112
                        clear hy112
                        have H' := Aside0.mk H
                        clear H
                        have p111 : 0 ≤ (x17_2 : Int) := of_decide_eq_true (by first | (with_reducible assumption) | assumption)
                        have q111 : x17_2 < ((rd_L4 l0 x11_1).length : Int) := of_decide_eq_true (by first | (with_reducible assumption) | assumption)
                        obtain ⟨ad111, A111_0, c111_0, e111, hx111_0, hl111_0, hi111_0⟩ := at_L3 HR110_0.out x17_2 p111 q111
                        cases e111
                        replace hx111_0 := (HB.out.cell (World.block_lt_of_cell? w _ hx111_0)).trans hx111_0
                        have HR111_0 := Aside0.mk hi111_0
                        have HC111_0 := Aside0.mk hl111_0
                        clear hi111_0 hl111_0
                        replace p111 := eq_true p111
                        replace q111 := eq_true q111
                        have hcv9 := Kd.C_string (P := Try.prog) (A := A111_0) (c := c111_0) Try.underlying46 Try.underlying5 Try.underlying9 (Kd.C_below HR111_0.out HB.out)
                        go_wp2_with (first | ((with_reducible refine gate_builtin (b := .append) (xs := #[.tmp 21, .tmp 24]) rfl ?_); at_builtin; refine Kd.R_append Kd.string (w0 := w) w.heap.size rfl (.tmp 21) (.tmp 24) 24 9 (.string ⟨#[]⟩) 16 rfl Try.underlying24 info9 rfl (by decide) (by omega) u6 x6_2 (strOfNums (rd_L3 (rd_L4 l0 x11_1) x17_2)) [.string (strOfNums (rd_L3 (rd_L4 l0 x11_1) x17_2))] (fun _ => True) (fun _ => False) rfl rfl ?aP (fun _ hk => hk.elim) ?aF ?aO ?aB ?aS ?aL ?_; (case aP => exact rfl); (case aB => exact (by repeat (first | (with_reducible first | exact HB.out | apply below_alloc | apply pw_below_drewN | apply below_drew1) | exact HB.out))); (case aF => exact (fun _ _ => trivial)); (case aO => exact (by (with_reducible repeat (first | apply Kd.R_alloc | apply Kd.R_drewN | apply Kd.R_drew)); exact HO_6.out)); (case aS => exact (below_size (by repeat (first | (with_reducible first | exact HB.out | apply below_alloc | apply pw_below_drewN | apply below_drew1) | exact HB.out)))); (case aL => have := LMc8.out; omega); intro v113 w10 ho hb hg hat; rw [← Ny112.out] at ho; have n0_ := Aside0.mk (Kd.S_after (ok := (fun _ => True)) (by (with_reducible repeat (first | apply Kd.S_alloc | apply Kd.S_drewN | apply Kd.S_drew)); exact Kd.S_mono HO_3.out (fun _ hk => ⟨trivial, hk⟩)) hg hat); have n1_ := Aside0.mk (hb); have n2_ := Aside0.mk (ho); clear HO_3; clear HB; clear HO_6; have HO_3 := n0_; have HB := n1_; have HO114 := n2_; clear n0_ n1_ n2_; clear ho hb hg hat))
                        go_roundg k2
                        case measure => have := HK1.out; have := HK2.out; omega
                        case rel => exact ⟨(y112), (wrap64 (x17_2 + 1)), (by first | rfl | (simp; done) | (simp [*]; done)), H', ⟨by have := HK1.out; have := HK2.out; omega⟩, ⟨by (with_reducible repeat (first | apply Kd.S_alloc | apply Kd.S_drewN | apply Kd.S_drew)); exact Kd.S_mono HO_3.out (fun _ hk => hk.2)⟩, ⟨by (with_reducible repeat (first | apply Kd.R_alloc | apply Kd.R_drewN | apply Kd.R_drew)); exact HO114.out⟩, ⟨by repeat (first | (with_reducible first | exact HB.out | apply below_alloc | apply pw_below_drewN | apply below_drew1) | exact HB.out)⟩⟩
                      · rw [if_neg c8] at H
                        exact absurd H (by simp)
                    · rw [if_neg c7] at H
                      exact absurd H (by simp)
                  · rw [if_neg c6] at H
                    exact absurd H (by simp)
                · rw [if_neg c5] at H
                  have c5b0 : decide (x17_2 < ((rd_L4 l0 x11_1).length : Int)) = false := decide_eq_false c5
                  clear c5
                  by_cases c11 : x3_1.length < 5864062014805
                  · rw [if_pos c11] at H
                    have LMc11 := Aside0.mk c11
                    clear c11
                    obtain ⟨y115, hy115⟩ : ∃ y_ : List (List ByteArray), y_ = (x3_1 ++ [x6_2]) := ⟨_, rfl⟩
                    replace H : (impl_textsOf.l0 k2 y115 l0 (l0.length : Int) (wrap64 (x11_1 + 1))) = some r := by first | (rw [hy115]; with_reducible exact H) | (have H2_ := (Option.bind_some _ _).symm.trans H; rw [hy115]; with_reducible exact H2_) | (have H2_ := (Option.bind_some _ _).symm.trans H; with_reducible exact H2_) | with_reducible exact H | (rw [hy115]; exact H) | exact H
                    have Ny115 := Aside0.mk hy115
                    clear hy115
                    have H' := Aside0.mk H
                    clear H
                    obtain ⟨Ao13, co13, eo13⟩ := Kd.R_slice HO_6.out
                    subst eo13
                    go_wp2_with (first | ((with_reducible refine gate_builtin (b := .append) (xs := #[.tmp 27, .tmp 29]) rfl ?_); at_builtin; refine Kd.S_append (Kd.slice 9 Kd.string) (w0 := w) w.heap.size rfl (.tmp 27) (.tmp 29) 22 24 (.slice none 0 0) 24 rfl Try.underlying22 info24 rfl (by decide) (by omega) u3 x3_1 x6_2 [.slice Ao13 x6_2.length co13] (fun _ => True) (fun k_ => some k_ = (.slice Ao13 x6_2.length co13 : Value).ownBlock) rfl rfl ?aP (fun k_ hk_ => ((Kd.R_mono (ok' := fun k_ => ((fun _ => True)) k_ ∧ some k_ ≠ (u3 : Value).ownBlock) (Kd.R_apart' (HO_6.out) (Kd.S_typed HO_3.out) (by decide)) (fun k_ hk => ⟨trivial, hk.2⟩))).1 k_ hk_.symm) ?aF ?aO ?aB ?aS ?aL ?_; (case aP => exact Kd.M_row (Kd.R_mono (Kd.R_tight rfl (Kd.R_mono (ok' := fun k_ => ((fun _ => True)) k_ ∧ some k_ ≠ (u3 : Value).ownBlock) (Kd.R_apart' (HO_6.out) (Kd.S_typed HO_3.out) (by decide)) (fun k_ hk => ⟨trivial, hk.2⟩))) (fun _ h_ => h_))); (case aB => exact (by repeat (first | (with_reducible first | exact HB.out | apply below_alloc | apply pw_below_drewN | apply below_drew1) | exact HB.out))); (case aF => exact (fun _ _ => trivial)); (case aO => exact (by (with_reducible repeat (first | apply Kd.S_alloc | apply Kd.S_drewN | apply Kd.S_drew)); exact Kd.S_mono HO_3.out (fun k_ hk => ⟨trivial, fun e_ => hk e_⟩))); (case aS => exact (below_size (by repeat (first | (with_reducible first | exact HB.out | apply below_alloc | apply pw_below_drewN | apply below_drew1) | exact HB.out)))); (case aL => have := LMc11.out; omega); intro v116 w12 ho hb hg hat; rw [← Ny115.out] at ho; have n0_ := Aside0.mk (hb); have n1_ := Aside0.mk (ho); clear HB; clear HO_3; clear HO_6; have HB := n0_; have HO117 := n1_; clear n0_ n1_; clear ho hb hg hat))
                    go_roundg k2
                    case measure => have := HK1.out; have := HK2.out; omega
                    case rel => exact ⟨(y115), (wrap64 (x11_1 + 1)), (by first | rfl | (simp; done) | (simp [*]; done)), H', ⟨by have := HK1.out; have := HK2.out; omega⟩, ⟨by (with_reducible repeat (first | apply Kd.S_alloc | apply Kd.S_drewN | apply Kd.S_drew)); exact HO117.out⟩, ⟨by repeat (first | (with_reducible first | exact HB.out | apply below_alloc | apply pw_below_drewN | apply below_drew1) | exact HB.out)⟩⟩
                  · rw [if_neg c11] at H
                    exact absurd H (by simp)
          · rw [if_neg c4] at H
            exact absurd H (by simp)
        · rw [if_neg c3] at H
          exact absurd H (by simp)
      · rw [if_neg c2] at H
        have c2b0 : decide (x11_1 < (l0.length : Int)) = false := decide_eq_false c2
        clear c2
        obtain rfl := Option.some.inj H
        go_wp2
        go_ret
        exact ⟨_, by first | rfl | (simp [errW_none, errW_some] <;> rfl) | (simp [*, errW_none, errW_some] <;> rfl), by (with_reducible repeat (first | apply Kd.S_alloc | apply Kd.S_drewN | apply Kd.S_drew)); exact HO_3.out, by repeat (first | (with_reducible first | exact HB.out | apply below_alloc | apply pw_below_drewN | apply below_drew1) | exact HB.out)⟩

-- NOT PRINTED: function 53 (slices_IndexFunc_byte_byte)

-- NOT PRINTED: function 44 (slices_DeleteFunc_byte_byte)
/-! ### table_isEmptyRow: function 46 -/
def table_isEmptyRow.l0 : Nat → List (List Int) → Int → Int → Option (Bool)
  | 0, _, _, _ => none
  | k + 1, x5, x6, x7 => if x7 < x6 then (if 0 ≤ x7 then (if x7 < (x5.length : Int) then (if ((rd_L3 x5 x7).length : Int) > 0 then (some false) else (table_isEmptyRow.l0 k x5 x6 (wrap64 (x7 + 1)))) else (none)) else (none)) else (some true)
def table_isEmptyRow.f (k : Nat) (l0 : List (List Int)) : Option (Bool) := table_isEmptyRow.l0 k l0 (l0.length : Int) 0
theorem table_isEmptyRow.mono_l : ∀ k, (∀ y0 y1 y2, LeO (table_isEmptyRow.l0 k y0 y1 y2) (table_isEmptyRow.l0 (k + 1) y0 y1 y2))
  | 0 => fun _ _ _ r h => by simp [table_isEmptyRow.l0] at h
  | k + 1 => by
    have ih0 := table_isEmptyRow.mono_l k
    · intro y0 y1 y2
      unfold table_isEmptyRow.l0
      repeat' first
      | (with_reducible exact ih0 _ _ _)
      | (with_reducible exact LeO.refl _)
      | (with_reducible exact LeO.none _)
      | (with_reducible refine LeO.ite ?_ ?_)
      | (with_reducible refine LeO.bind ?_ (fun _ => ?_))
      | exact ih0 _ _ _
      | exact LeO.none _
      | refine LeO.ite ?_ ?_
      | refine LeO.bind ?_ (fun _ => ?_)
theorem table_isEmptyRow.mono : ∀ a0 k, LeO (table_isEmptyRow.f k a0) (table_isEmptyRow.f (k + 1) a0) := by
  intro a0 k
  have ih0 := table_isEmptyRow.mono_l k
  unfold table_isEmptyRow.f
  repeat' first
      | (with_reducible exact ih0 _ _ _)
      | (with_reducible exact LeO.refl _)
      | (with_reducible exact LeO.none _)
      | (with_reducible refine LeO.ite ?_ ?_)
      | (with_reducible refine LeO.bind ?_ (fun _ => ?_))
      | exact ih0 _ _ _
      | exact LeO.none _
      | refine LeO.ite ?_ ?_
      | refine LeO.bind ?_ (fun _ => ?_)
set_option maxHeartbeats 8000000 in
set_option maxRecDepth 100000 in
theorem table_isEmptyRow.calls (k : Nat) (A0 : Option Addr) (c0 : Nat) (l0 : List (List Int)) (r : Bool) (w : World) (hr0 : Kd.C (Kd.slice 5 (Kd.int .u8)) w A0 l0.length l0) (hc0 : l0.length ≤ c0) (h : table_isEmptyRow.f k l0 = some r) :
    Calls Try.prog 46 #[.slice A0 l0.length c0] w fun e w' => e = .returned (.bool r) ∧ Drawn0 w w' := by
  have HR0 := Aside0.mk hr0
  have HC0 := Aside0.mk hc0
  clear hr0 hc0
  have H : (table_isEmptyRow.l0 k l0 (l0.length : Int) 0) = some r := h
  clear h
  have H' := Aside0.mk H
  clear H
  go_enter Try.func46, Try.ntmps46
  go_wp2
  go_loopg [7] k (fun kq v7 w' => ∃ (x7_1 : Int), v7 = .int .i64 x7_1 ∧ Aside0 (table_isEmptyRow.l0 kq l0 (l0.length : Int) x7_1 = some r) ∧ Aside0 (kq ≤ k) ∧ Drawn0 w w')
  case atStart => exact ⟨(0), (by first | rfl | (simp; done) | (simp [*]; done)), H', ⟨Nat.le_refl _⟩, by repeat (first | exact Drawn0.refl _ | apply Drawn0.step)⟩
  case round =>
    clear H'
    obtain ⟨x7_1, rfl, HA, HK1, ⟨m1, rfl⟩⟩ := hrel
    cases gk with
    | zero => exact absurd HA.out (by simp [table_isEmptyRow.l0])
    | succ k1 =>
      have H := HA.out
      clear HA
      simp only [table_isEmptyRow.l0] at H
      by_cases c2 : x7_1 < (l0.length : Int)
      · rw [if_pos c2] at H
        have c2b0 : decide (x7_1 < (l0.length : Int)) = true := decide_eq_true c2
        clear c2
        by_cases c3 : 0 ≤ x7_1
        · rw [if_pos c3] at H
          have c3b0 : decide (0 ≤ x7_1) = true := decide_eq_true c3
          clear c3
          by_cases c4 : x7_1 < (l0.length : Int)
          · rw [if_pos c4] at H
            have c4b0 : decide (x7_1 < (l0.length : Int)) = true := decide_eq_true c4
            clear c4
            by_cases c5 : ((rd_L3 l0 x7_1).length : Int) > 0
            · rw [if_pos c5] at H
              have c5b0 : decide (0 < ((rd_L3 l0 x7_1).length : Int)) = true := decide_eq_true c5
              have c5b1 : decide (0 < (rd_L3 l0 x7_1).length) = true := decide_eq_true (by omega)
              clear c5
              obtain rfl := Option.some.inj H
              have p118 : 0 ≤ (x7_1 : Int) := of_decide_eq_true (by first | (with_reducible assumption) | assumption)
              have q118 : x7_1 < (l0.length : Int) := of_decide_eq_true (by first | (with_reducible assumption) | assumption)
              obtain ⟨ad118, A118_0, c118_0, e118, hx118_0, hl118_0, hi118_0⟩ := at_L3 HR0.out x7_1 p118 q118
              cases e118
              have HR118_0 := Aside0.mk hi118_0
              have HC118_0 := Aside0.mk hl118_0
              clear hi118_0 hl118_0
              replace p118 := eq_true p118
              replace q118 := eq_true q118
              go_wp2
              go_ret
              exact ⟨by first | rfl | (simp; done) | (simp [*]; done), by repeat (first | exact Drawn0.refl _ | apply Drawn0.step)⟩
            · rw [if_neg c5] at H
              have c5b0 : decide (0 < ((rd_L3 l0 x7_1).length : Int)) = false := decide_eq_false c5
              have c5b1 : decide (0 < (rd_L3 l0 x7_1).length) = false := decide_eq_false (by omega)
              clear c5
              have H' := Aside0.mk H
              clear H
              have p118 : 0 ≤ (x7_1 : Int) := of_decide_eq_true (by first | (with_reducible assumption) | assumption)
              have q118 : x7_1 < (l0.length : Int) := of_decide_eq_true (by first | (with_reducible assumption) | assumption)
              obtain ⟨ad118, A118_0, c118_0, e118, hx118_0, hl118_0, hi118_0⟩ := at_L3 HR0.out x7_1 p118 q118
              cases e118
              have HR118_0 := Aside0.mk hi118_0
              have HC118_0 := Aside0.mk hl118_0
              clear hi118_0 hl118_0
              replace p118 := eq_true p118
              replace q118 := eq_true q118
              go_wp2
              go_roundg k1
              case measure => have := HK1.out; omega
              case rel => exact ⟨(wrap64 (x7_1 + 1)), (by first | rfl | (simp; done) | (simp [*]; done)), H', ⟨by have := HK1.out; omega⟩, by repeat (first | exact Drawn0.refl _ | apply Drawn0.step)⟩
          · rw [if_neg c4] at H
            exact absurd H (by simp)
        · rw [if_neg c3] at H
          exact absurd H (by simp)
      · rw [if_neg c2] at H
        have c2b0 : decide (x7_1 < (l0.length : Int)) = false := decide_eq_false c2
        clear c2
        obtain rfl := Option.some.inj H
        go_wp2
        go_ret
        exact ⟨by first | rfl | (simp; done) | (simp [*]; done), by repeat (first | exact Drawn0.refl _ | apply Drawn0.step)⟩

-- NOT PRINTED: function 36 (table_removeEmptyRows)

-- NOT PRINTED: function 20 (table_ZzNoEmpty)

-- NOT PRINTED: function 27 (impl_cellsOf)

-- NOT PRINTED: function 21 (impl_bytesOf)

-- NOT PRINTED: function 9 (impl_NoEmpty)

-- NOT PRINTED: function 3 (laws_FnNoEmpty)
end Go.Proofs.Ytfciokcielponaa.PTab

/- Arguments opened: what the reading of a datum says of memory, for texts, numbers, slices and structs, and how large they are. Each as large as a row's reach allows. -/
namespace Go.Proofs.Ytfciokcielponaa.Open
open Go.RowKit Go.ChangeShapes Go.WideShapes Go.Proofs.YtfciokcielponaaW.PrintWords Go.Proofs.YtfciokcielponaaW.PrintLast Go.Proofs.YtfciokcielponaaW.PrintMore

/-- A datum of type t that is read within the fuel tells a value of kind k in memory, and the value is Good. -/
def Opens {α : Type} (P : Program) (t : TypeId) (k : Kd α) (Good : α → Prop) (fuel : Nat) : Prop :=
  ∀ (H : Type) (enc : TypeId × Value → H) (W : World) (base : Nat) (spare : Nat → Bool) (held : Bool) (cs : List Value) (x : DataW H × List MemPlace),
    DataW.trod enc P W base spare held fuel t cs = some x → (∀ n ∈ x.1.weights P t, n ≤ reachBytes) → ∃ y, k.K W y cs ∧ Good y

theorem opens_string {P : Program} {t : TypeId} (ht : P.underlying t = some .string) (fuel : Nat) : Opens P t Kd.string (fun s => s.size ≤ 140737488351232) fuel := by
  intro H enc W base spare held cs x h hw
  obtain ⟨s, rfl, rfl, _⟩ := DataW.trod_string ht h
  refine ⟨s, rfl, ?_⟩
  have := hw s.data.toList.length (by simp [DataW.weights])
  rw [Array.length_toList] at this
  exact this
theorem weights_all {H : Type} {P : Program} {e : TypeId} : ∀ {ds : List (DataW H)} {d : DataW H}, d ∈ ds → ∀ n ∈ d.weights P e, n ∈ DataW.weightsAll P e ds
  | d0 :: ds, d, hd, n, hn => by
    simp only [DataW.weightsAll, List.mem_append]
    rcases List.mem_cons.1 hd with rfl | hd
    · exact .inl hn
    · exact .inr (weights_all hd n hn)
theorem addr_add (a : Addr) (i j : Nat) : (a.add i).add j = a.add (i + j) := by
  unfold Addr.add
  by_cases h1 : i = 0 <;> by_cases h2 : j = 0 <;> simp [h1, h2, Nat.add_assoc]

theorem opens_slice {α : Type} {P : Program} {t e : TypeId} {k : Kd α} {Good : α → Prop} (ht : P.underlying t = some (.slice e)) (hc : P.cellsOf e = k.sz) {B : Nat} (hB : P.bytesOf e = B) (fuel : Nat) (he : ∀ n, n < fuel → Opens P e k Good n) :
    Opens P t (Kd.slice e k) (fun xs => xs.length * B ≤ 140737488351232 ∧ ∀ x ∈ xs, Good x) fuel := by
  intro H enc W base spare held cs x h hw
  rcases DataW.trod_slice ht h with ⟨rfl, rfl⟩ | ⟨a, len, cap, elems, rest, n, rfl, rfl, rfl, hb, hl, hm, hlen, hel, hsp, hns⟩
  · exact ⟨[], ⟨none, 0, rfl, Nat.le_refl _, Kd.C_nil _ _⟩, by simp, fun _ h => by cases h⟩
  · have hwt : (elems.length + rest.length) * B ≤ reachBytes := by
      refine hw _ ?_
      simp only [DataW.weights, ht, List.length_map, hB]
      exact List.mem_cons_self ..
    have each : ∀ i, i < len → ∃ y : α, Good y ∧ ∃ c : List Value, c.length = k.sz ∧ k.K W y c ∧ ∀ j u, c[j]? = some u → W.cell? (a.add (i * k.sz + j)) = some u := by
      intro i hi
      have h1 := hel i hi
      rw [hc, List.getElem?_eq_getElem (by omega)] at h1
      obtain ⟨c, hcs, hy⟩ := Option.bind_eq_some_iff.1 h1
      obtain ⟨_, hcl, hcc⟩ := World.cells?_some hcs
      obtain ⟨y, hK, hG⟩ := he n (by omega) H enc W base spare held c _ hy (fun q hq => hw q (by
        simp only [DataW.weights, ht, List.mem_cons, List.mem_append]
        exact .inr (.inl (weights_all (List.mem_map.2 ⟨elems[i], List.getElem_mem _, rfl⟩) q hq))))
      refine ⟨y, hG, c, hcl, hK, fun j u hu => ?_⟩
      have hj : j < k.sz := by have := (List.getElem?_eq_some_iff.1 hu).1; omega
      have h2 := hcc j hj
      rw [addr_add] at h2
      rw [h2]
      exact hu
    let ys : List α := List.ofFn fun i : Fin len => Classical.choose (each i i.isLt)
    have hyl : ys.length = len := List.length_ofFn
    have hyg : ∀ (i : Nat) (hi : i < len), ys[i]'(by omega) = Classical.choose (each i hi) := fun i hi => by simp [ys]
    refine ⟨ys, ⟨some a, cap, by rw [hyl], by omega, rfl, ?_, fun hp => ⟨a, rfl, fun j p hj => ?_⟩⟩, ?_, fun y hy => ?_⟩
    · rw [hyl]
      simp only [maxLen] at hm
      omega
    · obtain ⟨hjl, rfl⟩ := List.getElem?_eq_some_iff.1 hj
      have h1 := Classical.choose_spec (each j (by omega))
      rw [hyg j (by omega)]
      exact h1.2
    · rw [hyl]
      refine Nat.le_trans (Nat.mul_le_mul_right _ ?_) hwt
      omega
    · obtain ⟨i, hi, rfl⟩ := List.getElem_of_mem hy
      rw [hyg i (by omega)]
      exact (Classical.choose_spec (each i (by omega))).1

/-- An argument of a law that is a slice: its value, what it reads as, how large. -/
theorem open_slice {α : Type} {P : Program} {t e : TypeId} {k : Kd α} {Good : α → Prop} {B : Nat} {H : Type} {enc : TypeId × Value → H} {W : World} {base : Nat} {spare : Nat → Bool} {held : Bool} {v : Value} {d : DataW H} {ps : List MemPlace} {ts : List TypeId} {ds : List (DataW H)} {j : Nat}
    (hO : ∀ fuel, Opens P t (Kd.slice e k) (fun xs => xs.length * B ≤ 140737488351232 ∧ ∀ x ∈ xs, Good x) fuel) (hd : DataW.Trod enc P W base spare held t v d ps)
    (hsz : (DataW.weightsEach P ts ds).all (· ≤ reachBytes) = true) (ht : ts[j]? = some t) (hdj : ds[j]? = some d) :
    ∃ (xs : List α) (A : Option Addr) (c : Nat), v.cells.toList = [.slice A xs.length c] ∧ xs.length ≤ c ∧ k.C W A xs.length xs ∧ xs.length * B ≤ 140737488351232 ∧ ∀ x ∈ xs, Good x := by
  obtain ⟨fuel, hf⟩ := hd
  obtain ⟨xs, ⟨A, c, hcs, hl, hC⟩, hB, hG⟩ := hO fuel H enc W base spare held _ _ hf (fun n hn => by
    have := List.all_eq_true.1 hsz n (DataW.weights_mem_each ht hdj n hn)
    simpa using this)
  exact ⟨xs, A, c, hcs, hl, hC, hB, hG⟩

end Go.Proofs.Ytfciokcielponaa.Open

/- What impl.cellsOf and impl.bytesOf return: the texts as rows of bytes. For texts and rows within a row's reach. -/
namespace Go.Proofs.Ytfciokcielponaa.Cells
open Go.RowKit Go.Proofs.YtfciokcielponaaW.PrintWords Go.Proofs.YtfciokcielponaaW.PrintLast Go.Proofs.YtfciokcielponaaW.PrintMore
set_option linter.unusedVariables false
set_option linter.unusedSimpArgs false

/-- A row of bytes; a row of such rows. -/
abbrev kB : Kd (List Int) := Kd.slice 5 (Kd.int .u8)
abbrev kBB : Kd (List (List Int)) := Kd.slice 46 kB
theorem infoB : (Try.prog.info? 46).map (fun i => (i.zero, i.size, i.bytes)) = some (some (.slice none 0 0), 1, 24) := by kernel_rfl
theorem infoBB : (Try.prog.info? 50).map (fun i => (i.zero, i.size, i.bytes)) = some (some (.slice none 0 0), 1, 24) := by kernel_rfl

/-- The new row of a text's bytes is all that a reading of it needs. -/
theorem bytes_foot (W : World) (s : ByteArray) (hs : s.size ≤ 9223372036854775807) (ok : Nat → Prop) (hok : ok W.heap.size) :
    Kd.FK kB (Lib.bytesWorld W 5 s) ok (bytesOf s) [.slice (some ⟨W.heap.size, 0, none⟩) s.size (grownCap W s.size 0 5)] := by
  intro W' hW
  have hb := hW W.heap.size hok (by rw [Lib.bytesWorld_size]; omega)
  refine ⟨some ⟨W.heap.size, 0, none⟩, grownCap W s.size 0 5, by rw [bytesOf_length], by rw [bytesOf_length]; exact grownCap_ge _ _ _ _, ?_⟩
  have hr := bytes_reads W 5 s hs
  rw [bytesOf_length]
  refine Kd.C_of_reads (d := (0 : Int)) ⟨hr.1, hr.2.1, fun hp => ?_⟩
  obtain ⟨ad, e, hc⟩ := hr.2.2 hp
  injection e with e
  subst e
  refine ⟨_, rfl, fun j hj => ?_⟩
  have h1 := hc j hj
  rw [add_plain] at h1 ⊢
  rw [← h1]
  simp [World.cell?, hb]

theorem cells_calls (A0 : Option Addr) (c0 : Nat) (l0 : List ByteArray) (w : World) (hr : Kd.string.C w A0 l0.length l0) (hc : l0.length ≤ c0) (hl : l0.length ≤ 2147483647) (hs : ∀ s ∈ l0, s.size ≤ 140737488351232) :
    Calls Try.prog 27 #[.slice A0 l0.length c0] w fun e w' => ∃ v : Value, e = .returned v ∧ Kd.N kB 46 w' w.heap.size (fun k => w.heap.size ≤ k) v (l0.map bytesOf) ∧ Below w.heap.size w w' := by
  have HR := Aside0.mk hr
  have HC := Aside0.mk hc
  have HS := Aside0.mk hs
  have hl64 : l0.length ≤ 9223372036854775807 := by omega
  have HL := Aside0.mk hl
  clear hr hc hl hs
  go_enter Try.func27, Try.ntmps27
  go_wp2_with fail
  go_loopw [3, 8] (fun v i wr => ∃ j : Nat, j ≤ l0.length ∧ i = .int .i64 j ∧ Aside0 (Kd.N kB 46 wr w.heap.size (fun k => w.heap.size ≤ k) v ((l0.map bytesOf).take j)) ∧ Aside0 (Below w.heap.size w wr)) (fun _ i _ => l0.length - (intOf i).toNat)
  case atStart => exact ⟨0, Nat.zero_le _, rfl, ⟨Kd.N_nil _ _ _ _ _⟩, ⟨Below.refl _ _⟩⟩
  case round =>
    obtain ⟨j, hj, rfl, HO, HB⟩ := hrel
    by_cases hlt : j < l0.length
    · obtain ⟨ad, rfl, hx⟩ := Kd.at_string (Kd.C_below HR.out HB.out) (j : Int) (by omega) (by omega)
      simp only [Int.toNat_natCast] at hx
      have he : rdOf ByteArray.empty l0 (j : Int) = l0[j] := by simp [rdOf, List.getD_eq_getElem?_getD, List.getElem?_eq_getElem hlt]
      have hsz0 := HS.out l0[j] (List.getElem_mem _)
      have hsn : (l0.map bytesOf).take (j + 1) = (l0.map bytesOf).take j ++ [bytesOf l0[j]] := by
        rw [List.take_succ_eq_append_getElem (by rw [List.length_map]; exact hlt), List.getElem_map]
      rw [he] at hx
      generalize l0[j] = s at hx hsz0 hsn
      clear he
      have hsz : s.size ≤ 9223372036854775807 := by omega
      have kb := fun W => print_bytes (P := Try.prog) 9 46 5 Try.underlying9 Try.underlying46 Try.underlying5 s W
      have hF := Aside0.mk (bytes_foot wr s hsz (fun k => k = wr.heap.size) rfl)
      have HW := Aside0.mk (bytes_below HB.out HB.out.size 5 s)
      have HO1 := Aside0.mk (Kd.N_below HO.out (bytes_below (Below.refl _ _) (Nat.le_refl _) 5 s))
      have hlen := Aside0.mk (show ((l0.map bytesOf).take j).length ≤ j from List.length_take_le _ _)
      have HSN := Aside0.mk hsn
      clear hsn hsz hsz0
      go_wp2_with (at_builtin; refine Kd.N_append kB (w0 := w) w.heap.size rfl (.tmp 12) (.tmp 15) 50 46 (.slice none 0 0) 24 rfl Try.underlying50 infoB rfl (by decide) (by omega) u3 ((l0.map bytesOf).take j) (bytesOf s) [.slice (some ⟨wr.heap.size, 0, none⟩) s.size (grownCap wr s.size 0 5)] (fun k => w.heap.size ≤ k) (fun k => k = wr.heap.size) rfl (by go_simp) hF.out (fun k hk => ⟨by rw [hk]; exact HB.out.size, fun e => by have := Kd.N_lt HO.out k e.symm; omega⟩) (fun k hk => Nat.le_trans HW.out.size hk) HO1.out HW.out HW.out.size (by have := hlen.out; have := HL.out; omega) ?_)
      intro v1 w2 ho hb hg hat
      have HO2 := Aside0.mk (show Kd.N kB 46 w2 w.heap.size (fun k => w.heap.size ≤ k) v1 ((l0.map bytesOf).take (j + 1)) by rw [HSN.out]; exact ho)
      have HB2 := Aside0.mk hb
      clear ho hb hg hat
      go_wp2
      go_roundw
      case rel => exact ⟨j + 1, by omega, by go_num, HO2, HB2⟩
      case measure => simp [intOf]; omega
    · have hje : j = l0.length := by omega
      subst hje
      have hO := HO.out
      rw [List.take_of_length_le (by simp)] at hO
      go_wp2
      go_ret
      exact ⟨_, rfl, hO, HB.out⟩

theorem FK_of_N {w : World} {base : Nat} {ok : Nat → Prop} {v : Value} {xs : List (List Int)} (h : Kd.N kB 46 w base ok v xs) : Kd.FK kBB w ok xs [v] := by
  obtain ⟨A, c, rfl⟩ := Kd.N_slice h
  intro W' hW
  have h2 := Kd.N_reads' (Kd.N_step h hW)
  exact ⟨A, c, rfl, h2.2.1, h2.2.2⟩

theorem rows_calls (A0 : Option Addr) (c0 : Nat) (l0 : List (List ByteArray)) (w : World) (hr : (Kd.slice 9 Kd.string).C w A0 l0.length l0) (hc : l0.length ≤ c0) (hl : l0.length ≤ 2147483647) (hs : ∀ r ∈ l0, r.length ≤ 2147483647 ∧ ∀ s ∈ r, s.size ≤ 140737488351232) :
    Calls Try.prog 21 #[.slice A0 l0.length c0] w fun e w' => ∃ v : Value, e = .returned v ∧ Kd.N kBB 50 w' w.heap.size (fun k => w.heap.size ≤ k) v (l0.map fun r => r.map bytesOf) ∧ Below w.heap.size w w' := by
  have HR := Aside0.mk hr
  have HC := Aside0.mk hc
  have HS := Aside0.mk hs
  have hl64 : l0.length ≤ 9223372036854775807 := by omega
  have HL := Aside0.mk hl
  clear hr hc hl hs
  go_enter Try.func21, Try.ntmps21
  go_wp2_with fail
  go_loopw [3, 8] (fun v i wr => ∃ j : Nat, j ≤ l0.length ∧ i = .int .i64 j ∧ Aside0 (Kd.N kBB 50 wr w.heap.size (fun k => w.heap.size ≤ k) v ((l0.map fun r => r.map bytesOf).take j)) ∧ Aside0 (Below w.heap.size w wr)) (fun _ i _ => l0.length - (intOf i).toNat)
  case atStart => exact ⟨0, Nat.zero_le _, rfl, ⟨Kd.N_nil _ _ _ _ _⟩, ⟨Below.refl _ _⟩⟩
  case round =>
    obtain ⟨j, hj, rfl, HO, HB⟩ := hrel
    by_cases hlt : j < l0.length
    · obtain ⟨ad, c, rfl, hcl, ⟨A1, c1, rfl, hl1, hC1⟩, hcc⟩ := Kd.C_get (Kd.C_below HR.out HB.out) ([] : List ByteArray) (j : Int) (by omega) (by omega)
      have hx := hcc 0 _ rfl
      have hsz1 : (Kd.slice 9 Kd.string).sz = 1 := rfl
      simp only [Int.toNat_natCast, hsz1, Nat.mul_one, Nat.add_zero] at hx hl1 hC1
      have he : l0.getD j [] = l0[j] := by simp [List.getD_eq_getElem?_getD, List.getElem?_eq_getElem hlt]
      have hsz0 := HS.out l0[j] (List.getElem_mem _)
      have hsn : (l0.map fun r => r.map bytesOf).take (j + 1) = (l0.map fun r => r.map bytesOf).take j ++ [l0[j].map bytesOf] := by
        rw [List.take_succ_eq_append_getElem (by rw [List.length_map]; exact hlt), List.getElem_map]
      rw [he] at hx hl1 hC1
      generalize l0[j] = s at hx hl1 hC1 hsz0 hsn
      clear he hcc hcl hsz1
      have HL1 := Aside0.mk hl1
      have HC1 := Aside0.mk hC1
      have HS0 := Aside0.mk hsz0
      have HSN := Aside0.mk hsn
      have hlen := Aside0.mk (show ((l0.map fun r => r.map bytesOf).take j).length ≤ j from List.length_take_le _ _)
      clear hsn hsz0 hl1 hC1
      go_wp2_with fail
      refine (cells_calls _ _ s _ HC1.out HL1.out HS0.out.1 HS0.out.2).mono ?_
      rintro e w1 ⟨v0, rfl, hN, hB⟩
      have hlo := Kd.N_lt HO.out
      have HO1 := Aside0.mk (Kd.N_below HO.out hB)
      have HB1 := Aside0.mk (below_step HB.out hB)
      have HSZ := Aside0.mk HB.out.size
      have HOL := Aside0.mk hlo
      obtain ⟨A2, c2, rfl⟩ := Kd.N_slice hN
      have HF := Aside0.mk (show Kd.FK kBB w1 (fun k => wr.heap.size ≤ k) (s.map bytesOf) [.slice A2 s.length c2] from by have h := FK_of_N hN; rwa [List.length_map] at h)
      clear hN hB hlo
      go_wp2_with (at_builtin; refine Kd.N_append kBB (w0 := w) w.heap.size rfl (.tmp 12) (.tmp 15) 41 50 (.slice none 0 0) 24 rfl Try.underlying41 infoBB rfl (by decide) (by omega) u3 ((l0.map fun r => r.map bytesOf).take j) (s.map bytesOf) [.slice A2 s.length c2] (fun k => w.heap.size ≤ k) (fun k => wr.heap.size ≤ k) rfl (by go_simp) HF.out (fun k hk => ⟨Nat.le_trans HSZ.out hk, fun e => by have := HOL.out k e.symm; omega⟩) (fun k hk => Nat.le_trans HB1.out.size hk) HO1.out HB1.out HB1.out.size (by have := hlen.out; have := HL.out; omega) ?_)
      intro v1 w2 ho hb hg hat
      have HO2 := Aside0.mk (show Kd.N kBB 50 w2 w.heap.size (fun k => w.heap.size ≤ k) v1 ((l0.map fun r => r.map bytesOf).take (j + 1)) by rw [HSN.out]; exact ho)
      have HB2 := Aside0.mk hb
      clear ho hb hg hat
      go_wp2
      go_roundw
      case rel => exact ⟨j + 1, by omega, by go_num, HO2, HB2⟩
      case measure => simp [intOf]; omega
    · have hje : j = l0.length := by omega
      subst hje
      have hO := HO.out
      rw [List.take_of_length_le (by simp)] at hO
      go_wp2
      go_ret
      exact ⟨_, rfl, hO, HB.out⟩

end Go.Proofs.Ytfciokcielponaa.Cells

/- Rows without the empty ones: isEmptyRow, the closure of removeEmptyRows, slices.IndexFunc and DeleteFunc at it. -/
namespace Go.Proofs.Ytfciokcielponaa.PTab
open Go.RowKit Go.Proofs.YtfciokcielponaaW.PrintWords Go.Proofs.YtfciokcielponaaW.PrintLast Go.Proofs.YtfciokcielponaaW.PrintMore Go.Proofs.Ytfciokcielponaa.Cells
set_option linter.unusedVariables false
set_option linter.unusedSimpArgs false

def emptyR (r : List (List Int)) : Bool := r.all fun c => c.isEmpty
theorem succ_wrap (j : Nat) (h : j ≤ 4611686018427387904) : wrap64 ((j : Int) + 1) = ((j + 1 : Nat) : Int) := by
  rw [show wrap64 ((j : Int) + 1) = (j : Int) + 1 from by unfold wrap64; omega]
  omega
theorem empty_ev (r : List (List Int)) (hl : r.length ≤ 4611686018427387904) : Ev (fun k => table_isEmptyRow.f k r) (emptyR r) := by
  have key : ∀ (n j : Nat), r.length = j + n → Ev (fun k => table_isEmptyRow.l0 k r (r.length : Int) (j : Int)) ((r.drop j).all fun c => c.isEmpty) := by
    intro n
    induction n with
    | zero =>
      intro j hj
      rw [List.drop_eq_nil_of_le (by omega)]
      refine Ev.step (f := fun _ => some true) (fun k => ?_) (Ev.now _)
      simp only [table_isEmptyRow.l0]
      rw [if_neg (by omega)]
    | succ n ih =>
      intro j hj
      have hlt : j < r.length := by omega
      have hrd : rd_L3 r (j : Int) = r[j] := by simp [rd_L3, List.getD_eq_getElem?_getD, List.getElem?_eq_getElem hlt]
      rw [List.drop_eq_getElem_cons hlt, List.all_cons]
      cases hc : r[j] with
      | nil =>
        refine Ev.step (fun k => ?_) (ih (j + 1) (by omega))
        simp only [table_isEmptyRow.l0]
        rw [if_pos (by omega), if_pos (by omega), if_pos (by omega), hrd, hc, if_neg (by simp), succ_wrap j (by omega)]
      | cons a l =>
        refine Ev.step (f := fun _ => some false) (fun k => ?_) (Ev.now _)
        simp only [table_isEmptyRow.l0]
        rw [if_pos (by omega), if_pos (by omega), if_pos (by omega), hrd, hc, if_pos (by simp)]
  exact key r.length 0 (by omega)
theorem empty_calls (A : Option Addr) (c0 : Nat) (r : List (List Int)) (w : World) (hr : Kd.C kB w A r.length r) (hc : r.length ≤ c0) (hl : r.length ≤ 4611686018427387904) :
    Calls Try.prog 46 #[.slice A r.length c0] w fun e w' => e = .returned (.bool (emptyR r)) ∧ Drawn0 w w' := by
  obtain ⟨k, h⟩ := (empty_ev r hl).rounds
  exact table_isEmptyRow.calls k A c0 r _ w hr hc h

theorem pred_calls (W w : World) (ok : Nat → Prop) (gi c : Nat) (hgi : ¬ ok gi) (hS : ∀ k, ok k → k < W.heap.size → w.heap[k]? = W.heap[k]?) (hb : w.heap[gi]? = some (.cells #[.int .i64 (c : Int)] 3 (0, 0))) (hc : c ≤ 4611686018427387904)
    (r : List (List Int)) (v : Value) (hF : Kd.FK kBB W ok r [v]) (hl : r.length ≤ 4611686018427387904) :
    Calls Try.prog 45 #[v, .pointer (some ⟨gi, 0, none⟩)] w fun e w' => e = .returned (.bool (decide (c ≠ 0) && emptyR r)) ∧ ∃ nd, w' = (w.setCell ⟨gi, 0, none⟩ (.int .i64 ((c + 1 : Nat) : Int))).drewN nd := by
  obtain ⟨A, c0, e, hlc, hFF⟩ := Kd.FK_slice_open hF
  obtain rfl : v = .slice A r.length c0 := by injection e
  have hrd := Aside0.mk (hFF (w.setCell ⟨gi, 0, none⟩ (.int .i64 ((c + 1 : Nat) : Int))) (fun k hk hlt => by
    rw [← hS k hk hlt]
    exact Below.heap_setCell w _ _ k (fun h => hgi (by obtain rfl : k = gi := h; exact hk))))
  have hcell : w.cell? ⟨gi, 0, none⟩ = some (.int .i64 (c : Int)) := blk_cell hb 0
  have hfz := blk_frozen hb 0
  have HLC := Aside0.mk hlc
  have HL := Aside0.mk hl
  have HC := Aside0.mk hc
  have HW := Aside0.mk (succ_wrap c hc)
  clear hF hFF hS hb hlc hl e
  by_cases h0 : c = 0
  · subst h0
    go_enter Try.func45, Try.ntmps45
    go_wp2_with fail
    go_ret
    exact ⟨rfl, 0, rfl⟩
  · have hne : ((c : Int) == 0) = false := beq_eq_false_iff_ne.2 (by omega)
    go_enter Try.func45, Try.ntmps45
    go_wp2_with (go_at_call 46; go_must (refine (empty_calls _ _ r _ (by first | exact hrd.out | (rw [HW.out]; exact hrd.out)) HLC.out HL.out).mono ?_; rintro e w' ⟨rfl, hd⟩; obtain ⟨⟨nd, rfl⟩⟩ := hd))
    go_ret
    exact ⟨by simp [h0], nd, rfl⟩
/-- The memory while rows are struck: the row's block, the counter's, and what else is only read. -/
structure Mem (W : World) (ok : Nat → Prop) (base g gi : Nat) (w : World) (cs : Array Value) (c : Nat) : Prop where
  row : w.heap[g]? = some (.cells cs 50 (0, 0))
  box : w.heap[gi]? = some (.cells #[.int .i64 (c : Int)] 3 (0, 0))
  far : ∀ k, ok k → k < W.heap.size → w.heap[k]? = W.heap[k]?
  below : Below base W w
theorem Mem.drewN {W : World} {ok : Nat → Prop} {base g gi : Nat} {w : World} {cs : Array Value} {c : Nat} (h : Mem W ok base g gi w cs c) (n : Nat) : Mem W ok base g gi (w.drewN n) cs c :=
  ⟨h.row, h.box, h.far, pw_below_drewN h.below n⟩
theorem Mem.tick {W : World} {ok : Nat → Prop} {base g gi : Nat} {w : World} {cs : Array Value} {c : Nat} (h : Mem W ok base g gi w cs c) (hne : g ≠ gi) (hgi : ¬ ok gi) (hb : base ≤ gi) (c' : Nat) : Mem W ok base g gi (w.setCell ⟨gi, 0, none⟩ (.int .i64 (c' : Int))) cs c' :=
  ⟨blk_far h.row hne _, blk_set h.box 0 _, fun k hk hlt => by
    rw [← h.far k hk hlt]
    exact Below.heap_setCell w _ _ k (fun e => hgi (by obtain rfl : k = gi := e; exact hk)), Below.setCell h.below hb _⟩
theorem Mem.put {W : World} {ok : Nat → Prop} {base g gi : Nat} {w : World} {cs : Array Value} {c : Nat} (h : Mem W ok base g gi w cs c) (hne : g ≠ gi) (hg : ¬ ok g) (hb : base ≤ g) (i : Nat) (v : Value) : Mem W ok base g gi (w.setCell ⟨g, i, none⟩ v) (cs.setIfInBounds i v) c :=
  ⟨blk_set h.row i _, blk_far h.box (Ne.symm hne) _, fun k hk hlt => by
    rw [← h.far k hk hlt]
    exact Below.heap_setCell w _ _ k (fun e => hg (by obtain rfl : k = g := e; exact hk)), Below.setCell h.below hb _⟩

def struckAt (rs : List (List (List Int))) (j : Nat) : Bool := decide (j ≠ 0) && emptyR (rs.getD j [])
theorem idx_calls (W w : World) (ok : Nat → Prop) (base g gi n cap : Nat) (cs : Array Value) (vals : List Value) (rs : List (List (List Int))) (hne : g ≠ gi) (hgi : ¬ ok gi) (hbi : base ≤ gi) (hM : Mem W ok base g gi w cs 0)
    (hn : rs.length = n) (hnl : n ≤ 4611686018427387904) (hcs : ∀ j, j < n → cs[j]? = some (vals.getD j (.bool false))) (hF : ∀ j, j < n → Kd.FK kBB W ok (rs.getD j []) [vals.getD j (.bool false)]) (hrl : ∀ j, j < n → (rs.getD j []).length ≤ 4611686018427387904) :
    Calls Try.prog 53 #[.slice (some ⟨g, 0, none⟩) n cap, .func (.func 45) #[] #[.pointer (some ⟨gi, 0, none⟩)]] w fun e w' =>
      (∃ i, i < n ∧ struckAt rs i = true ∧ (∀ j, j < i → struckAt rs j = false) ∧ e = .returned (.int .i64 (i : Int)) ∧ Mem W ok base g gi w' cs (i + 1)) ∨
      ((∀ j, j < n → struckAt rs j = false) ∧ e = .returned (.int .i64 (-1)) ∧ Mem W ok base g gi w' cs n) := by
  have HM := Aside0.mk hM
  have HCS := Aside0.mk hcs
  have HF := Aside0.mk hF
  have HRL := Aside0.mk hrl
  have HN := Aside0.mk hn
  clear hM hcs hF hrl hn
  go_enter Try.func53, Try.ntmps53
  go_wp2_with fail
  go_loopw [5, 8] (fun _ s8 wr => ∃ j : Nat, j ≤ n ∧ s8 = .int .i64 (j : Int) ∧ Aside0 (Mem W ok base g gi wr cs j) ∧ Aside0 (∀ m, m < j → struckAt rs m = false)) (fun _ i _ => n - (intOf i).toNat)
  case atStart => exact ⟨0, Nat.zero_le _, rfl, ⟨HM.out⟩, ⟨fun m hm => absurd hm (Nat.not_lt_zero _)⟩⟩
  case round =>
    obtain ⟨j, hj, rfl, HR, HS⟩ := hrel
    by_cases hlt : j < n
    · have hcell : wr.cell? ⟨g, j, none⟩ = some (vals.getD j (.bool false)) := (blk_cell HR.out.row j).trans (HCS.out j hlt)
      have hp := pred_calls W wr ok gi j hgi HR.out.far HR.out.box (by omega) (rs.getD j []) (vals.getD j (.bool false)) (HF.out j hlt) (HRL.out j hlt)
      have HST := Aside0.mk (show struckAt rs j = (decide (j ≠ 0) && emptyR (rs.getD j [])) from rfl)
      obtain ⟨A, c0, e, _, _⟩ := Kd.FK_slice_open (HF.out j hlt)
      have e1 : vals.getD j (.bool false) = .slice A (rs.getD j []).length c0 := by injection e
      clear e
      rw [e1] at hcell hp
      generalize (decide (j ≠ 0) && emptyR (rs.getD j [])) = b at hp HST
      have HP := Aside0.mk hp
      clear hp e1
      cases b with
      | true =>
        go_wp2_with (go_at_call 45; go_must (refine HP.out.mono ?_; rintro e w' ⟨rfl, nd, rfl⟩))
        go_ret
        exact Or.inl ⟨j, hlt, HST.out, HS.out, rfl, ((HR.out.tick hne hgi hbi (j + 1)).drewN nd)⟩
      | false =>
        go_wp2_with (go_at_call 45; go_must (refine HP.out.mono ?_; rintro e w' ⟨rfl, nd, rfl⟩))
        go_roundw
        case rel => exact ⟨j + 1, by omega, by go_num, ⟨(HR.out.tick hne hgi hbi (j + 1)).drewN nd⟩, ⟨fun m hm => by
          rcases Nat.lt_or_ge m j with h | h
          · exact HS.out m h
          · obtain rfl : m = j := by omega
            exact HST.out⟩⟩
        case measure => simp [intOf]; omega
    · have hje : j = n := by omega
      subst hje
      go_wp2
      go_ret
      exact Or.inr ⟨HS.out, rfl, HR.out⟩
theorem Mem.wipe {W : World} {ok : Nat → Prop} {base g gi : Nat} {w : World} {cs : Array Value} {c : Nat} (h : Mem W ok base g gi w cs c) (hne : g ≠ gi) (hg : ¬ ok g) (hb : base ≤ g) (i : Nat) (vs : List Value) (hi : i + vs.length ≤ cs.size) :
    ∃ cs', Mem W ok base g gi (w.setCells g i vs) cs' c ∧ ∀ m, m < i → cs'[m]? = cs[m]? := by
  obtain ⟨cs', h1, h2, h3⟩ := setCells_row vs i w cs h.row hi
  have hf : ∀ k, k ≠ g → (w.setCells g i vs).heap[k]? = w.heap[k]? := fun k hk => setCells_far vs i k hk
  obtain ⟨s1, s2, s3, s4⟩ := setCells_same g vs i w
  refine ⟨cs', ⟨h1, (hf gi (Ne.symm hne)).trans h.box, fun k hk hlt => ?_, ⟨s1.trans h.below.os, s2.trans h.below.tape, s3.trans h.below.output, by rw [s4]; exact h.below.size, fun k hk => ?_⟩⟩, fun m hm => ?_⟩
  · rw [hf k (fun e => hg (e ▸ hk))]
    exact h.far k hk hlt
  · rw [hf k (by omega)]
    exact h.below.block k hk
  · have e1 : cs'[m]? = cs'.toList[m]? := by simp
    have e2 : cs[m]? = cs.toList[m]? := by simp
    rw [e1, e2, h3, List.append_assoc, List.getElem?_append_left (by rw [List.length_take, Array.length_toList]; omega), List.getElem?_take, if_pos hm]
/-- The places of the rows that stay, of the first j. -/
def keptI (rs : List (List (List Int))) (j : Nat) : List Nat := (List.range j).filter fun m => !struckAt rs m
theorem keptI_succ (rs : List (List (List Int))) (j : Nat) : keptI rs (j + 1) = keptI rs j ++ if struckAt rs j = true then [] else [j] := by
  unfold keptI
  rw [List.range_succ, List.filter_append, List.filter_cons]
  cases struckAt rs j <;> rfl
theorem keptI_le (rs : List (List (List Int))) (j : Nat) : (keptI rs j).length ≤ j := by
  have := List.length_filter_le (fun m => !struckAt rs m) (List.range j)
  rw [List.length_range] at this
  exact this
theorem keptI_all (rs : List (List (List Int))) (j : Nat) (h : ∀ m, m < j → struckAt rs m = false) : keptI rs j = List.range j := by
  unfold keptI
  rw [List.filter_eq_self]
  intro m hm
  rw [h m (List.mem_range.1 hm)]
  rfl
abbrev bf : Value := .bool false
structure Kept (rs : List (List (List Int))) (vals : List Value) (n cap i j : Nat) (cs : Array Value) : Prop where
  len : i = (keptI rs j).length
  lt : i < j
  size : cs.size = cap
  low : ∀ m, m < i → cs[m]? = some (vals.getD ((keptI rs j).getD m 0) bf)
  high : ∀ m, j ≤ m → m < n → cs[m]? = some (vals.getD m bf)
theorem Kept.skip {rs : List (List (List Int))} {vals : List Value} {n cap i j : Nat} {cs : Array Value} (h : Kept rs vals n cap i j cs) (hs : struckAt rs j = true) : Kept rs vals n cap i (j + 1) cs := by
  have e : keptI rs (j + 1) = keptI rs j := by rw [keptI_succ, if_pos hs, List.append_nil]
  exact ⟨by rw [e]; exact h.len, by have := h.lt; omega, h.size, by rw [e]; exact h.low, fun m h1 h2 => h.high m (by omega) h2⟩
theorem Kept.keep {rs : List (List (List Int))} {vals : List Value} {n cap i j : Nat} {cs : Array Value} (h : Kept rs vals n cap i j cs) (hs : struckAt rs j = false) (hi : i < cap) : Kept rs vals n cap (i + 1) (j + 1) (cs.setIfInBounds i (vals.getD j bf)) := by
  have e : keptI rs (j + 1) = keptI rs j ++ [j] := by rw [keptI_succ, if_neg (by simp [hs])]
  have hlt := h.lt
  refine ⟨by rw [e, List.length_append, ← h.len]; rfl, by omega, by rw [Array.size_setIfInBounds]; exact h.size, fun m hm => ?_, fun m h1 h2 => ?_⟩
  · rw [e]
    rcases Nat.lt_or_ge m i with h1 | h1
    · have hg : (keptI rs j ++ [j]).getD m 0 = (keptI rs j).getD m 0 := by
        rw [List.getD_eq_getElem?_getD, List.getD_eq_getElem?_getD, List.getElem?_append_left (by rw [← h.len]; exact h1)]
      rw [hg, Array.getElem?_setIfInBounds_ne (by omega)]
      exact h.low m h1
    · obtain rfl : m = i := by omega
      have hg : (keptI rs j ++ [j]).getD m 0 = j := by
        rw [List.getD_eq_getElem?_getD, List.getElem?_append_right (by rw [← h.len]; exact Nat.le_refl _), ← h.len, Nat.sub_self]
        rfl
      rw [hg, Array.getElem?_setIfInBounds_self_of_lt (by rw [h.size]; exact hi)]
  · rw [Array.getElem?_setIfInBounds_ne (by omega)]
    exact h.high m (by omega) h2
theorem Kept.start {rs : List (List (List Int))} {vals : List Value} {n cap i : Nat} {cs : Array Value} (hs : struckAt rs i = true) (hb : ∀ m, m < i → struckAt rs m = false) (hin : i < n) (hsz : cs.size = cap) (hcs : ∀ j, j < n → cs[j]? = some (vals.getD j bf)) : Kept rs vals n cap i (i + 1) cs := by
  have e : keptI rs (i + 1) = List.range i := by rw [keptI_succ, if_pos hs, List.append_nil, keptI_all rs i hb]
  refine ⟨by rw [e, List.length_range], by omega, hsz, fun m hm => ?_, fun m h1 h2 => hcs m h2⟩
  have hg : (List.range i).getD m 0 = m := by
    rw [List.getD_eq_getElem?_getD, List.getElem?_range hm]
    rfl
  rw [e, hg]
  exact hcs m (by omega)
theorem first_struck (rs : List (List (List Int))) (n : Nat) : (∃ i, i < n ∧ struckAt rs i = true ∧ ∀ j, j < i → struckAt rs j = false) ∨ ∀ j, j < n → struckAt rs j = false := by
  induction n with
  | zero => exact .inr fun j hj => absurd hj (Nat.not_lt_zero _)
  | succ n ih =>
    rcases ih with ⟨i, h1, h2⟩ | h
    · exact .inl ⟨i, by omega, h2⟩
    · cases hs : struckAt rs n with
      | true => exact .inl ⟨n, by omega, hs, h⟩
      | false =>
        refine .inr (fun j hj => ?_)
        rcases Nat.lt_or_ge j n with h1 | h1
        · exact h j h1
        · obtain rfl : j = n := by omega
          exact hs
end Go.Proofs.Ytfciokcielponaa.PTab

/- slices.DeleteFunc at the closure of removeEmptyRows. -/
namespace Go.Proofs.Ytfciokcielponaa.PTab
open Go.RowKit Go.Proofs.YtfciokcielponaaW.PrintWords Go.Proofs.YtfciokcielponaaW.PrintLast Go.Proofs.YtfciokcielponaaW.PrintMore Go.Proofs.Ytfciokcielponaa.Cells
set_option linter.unusedVariables false
set_option linter.unusedSimpArgs false

theorem del_calls (W w : World) (ok : Nat → Prop) (base g gi n cap : Nat) (cs : Array Value) (vals : List Value) (rs : List (List (List Int))) (hne : g ≠ gi) (hgi : ¬ ok gi) (hg : ¬ ok g) (hbi : base ≤ gi) (hbg : base ≤ g) (hM : Mem W ok base g gi w cs 0)
    (hn : rs.length = n) (hnc : n ≤ cap) (hnl : n ≤ 4611686018427387904) (hcap : cap ≤ 9223372036854775807) (hsz : cs.size = cap) (hcs : ∀ j, j < n → cs[j]? = some (vals.getD j (.bool false))) (hF : ∀ j, j < n → Kd.FK kBB W ok (rs.getD j []) [vals.getD j (.bool false)]) (hrl : ∀ j, j < n → (rs.getD j []).length ≤ 4611686018427387904) :
    Calls Try.prog 44 #[.slice (some ⟨g, 0, none⟩) n cap, .func (.func 45) #[] #[.pointer (some ⟨gi, 0, none⟩)]] w fun e w' =>
      e = .returned (.slice (some ⟨g, 0, none⟩) (keptI rs n).length cap) ∧ ∃ cs' c', Mem W ok base g gi w' cs' c' ∧ ∀ m, m < (keptI rs n).length → cs'[m]? = some (vals.getD ((keptI rs n).getD m 0) bf) := by
  have hI := idx_calls W w ok base g gi n cap cs vals rs hne hgi hbi hM hn hnl hcs hF hrl
  have HF := Aside0.mk hF
  have HRL := Aside0.mk hrl
  have HN := Aside0.mk hn
  have HCS := Aside0.mk hcs
  rcases first_struck rs n with ⟨i0, hi0, hst, hbef⟩ | hall
  · have HI : Aside0 (Calls Try.prog 53 #[.slice (some ⟨g, 0, none⟩) n cap, .func (.func 45) #[] #[.pointer (some ⟨gi, 0, none⟩)]] w fun e w' => e = .returned (.int .i64 (i0 : Int)) ∧ Mem W ok base g gi w' cs (i0 + 1)) := ⟨hI.mono (fun e w' h => by
      rcases h with ⟨i, h1, h2, h3, h4, h5⟩ | ⟨h1, _⟩
      · have : i = i0 := by
          rcases Nat.lt_trichotomy i i0 with h | h | h
          · rw [hbef i h] at h2; cases h2
          · exact h
          · rw [h3 i0 h] at hst; cases hst
        subst this
        exact ⟨h4, h5⟩
      · rw [h1 i0 hi0] at hst; cases hst)⟩
    have HS := Aside0.mk (Kept.start hst hbef hi0 hsz hcs)
    have hne1 : ((i0 : Int) == -1) = false := beq_eq_false_iff_ne.2 (by omega)
    clear hI hF hrl hn hcs hM hst hbef hsz
    go_enter Try.func44, Try.ntmps44
    go_wp2_with (go_at_call 53; go_must (refine HI.out.mono ?_; rintro e w1 ⟨rfl, hm1⟩; have HM1 := Aside0.mk hm1; clear hm1))
    go_loopw [5, 6, 7] (fun s5 s6 _ wr => ∃ (i j : Nat) (cs' : Array Value), s5 = .int .i64 (i : Int) ∧ s6 = .int .i64 (j : Int) ∧ j ≤ n ∧ Aside0 (Mem W ok base g gi wr cs' j) ∧ Aside0 (Kept rs vals n cap i j cs')) (fun _ s6 _ _ => n - (intOf s6).toNat)
    case atStart => exact ⟨i0, i0 + 1, cs, rfl, by go_num, by omega, HM1, HS⟩
    case round =>
      obtain ⟨i, j, cs', rfl, rfl, hj, HR, HK⟩ := hrel
      have hij := HK.out.lt
      by_cases hlt : j < n
      · have hcell : wr.cell? ⟨g, j, none⟩ = some (vals.getD j (.bool false)) := (blk_cell HR.out.row j).trans (HK.out.high j (Nat.le_refl _) hlt)
        have hp := pred_calls W wr ok gi j hgi HR.out.far HR.out.box (by omega) (rs.getD j []) (vals.getD j (.bool false)) (HF.out j hlt) (HRL.out j hlt)
        have HP0 := hp.mono (R' := fun e w' => e = .returned (.bool (struckAt rs j)) ∧ Mem W ok base g gi w' cs' (j + 1)) (fun e w' h => by
          obtain ⟨h1, nd, rfl⟩ := h
          exact ⟨h1, (HR.out.tick hne hgi hbi (j + 1)).drewN nd⟩)
        clear hp
        obtain ⟨A, c0, e, _, _⟩ := Kd.FK_slice_open (HF.out j hlt)
        have e1 : vals.getD j (.bool false) = .slice A (rs.getD j []).length c0 := by injection e
        have E1 := Aside0.mk e1
        clear e
        rw [e1] at hcell HP0
        clear e1
        cases hs : struckAt rs j with
        | true =>
          rw [hs] at HP0
          have HP := Aside0.mk HP0
          clear HP0
          go_wp2_with (go_at_call 45; go_must (refine HP.out.mono ?_; rintro e w2 ⟨rfl, hm2⟩; have HM2 := Aside0.mk hm2; clear hm2))
          go_roundw
          case rel => exact ⟨i, j + 1, cs', rfl, by go_num, by omega, HM2, ⟨HK.out.skip hs⟩⟩
          case measure => simp [intOf]; omega
        | false =>
          rw [hs] at HP0
          have HP := Aside0.mk HP0
          clear HP0
          have hicap : i < cs'.size := by rw [HK.out.size]; omega
          go_wp2_with (go_at_call 45; go_must (refine HP.out.mono ?_; rintro e w2 ⟨rfl, hm2⟩; have HM2 := Aside0.mk hm2; have hci : w2.cell? ⟨g, i, none⟩ = some cs'[i] := (blk_cell hm2.row i).trans (Array.getElem?_eq_getElem hicap); have hfi := blk_frozen hm2.row i; clear hm2))
          go_roundw
          case rel => exact ⟨i + 1, j + 1, _, by go_num, by go_num, by omega, ⟨HM2.out.put hne hg hbg i _⟩, ⟨by have := HK.out.keep hs (by rw [HK.out.size] at hicap; exact hicap); rw [show vals.getD j bf = _ from E1.out] at this; exact this⟩⟩
          case measure => simp [intOf]; omega
      · have hje : j = n := by omega
        subst hje
        have hsz2 := HK.out.size
        have hlen := HK.out.len
        obtain ⟨cs2, hm2, hlow⟩ := HR.out.wipe hne hg hbg i (List.replicate (j - i) (.slice none 0 0)) (by rw [List.length_replicate, hsz2]; omega)
        have HM2 := Aside0.mk hm2
        have HLOW := Aside0.mk (fun m (hm : m < i) => (hlow m hm).trans (HK.out.low m hm))
        have hcl : ∀ ty, (Builtin.clear_ #[41] ty #[.slice (some ⟨g, 0 + i, none⟩) (j - i) (cap - i)]).run Try.prog wr = .ok (.tuple #[]) (wr.setCells g i (List.replicate (j - i) (.slice none 0 0))) := fun ty => by
          have := Lib.run_clear_slice (P := Try.prog) wr 41 50 ty (.slice none 0 0) Try.underlying41 (fun w => by kernel_rfl) rfl rfl g i (j - i) (cap - i) (by omega) (fun t ht => by
            rw [show wr.cell? ⟨g, i + t, none⟩ = some cs'[i + t] from (blk_cell HR.out.row (i + t)).trans (Array.getElem?_eq_getElem (by omega))]
            rfl) (fun t ht => blk_frozen HR.out.row (i + t))
          rw [Nat.zero_add]
          exact this
        simp only [Nat.zero_add] at hcl
        have HLEN := Aside0.mk hlen
        clear hm2 hlow hlen hsz2 HN HRL HF HCS
        go_wp2
        go_ret
        rw [← HLEN.out]
        exact ⟨rfl, cs2, j, HM2.out, HLOW.out⟩
  · have HI : Aside0 (Calls Try.prog 53 #[.slice (some ⟨g, 0, none⟩) n cap, .func (.func 45) #[] #[.pointer (some ⟨gi, 0, none⟩)]] w fun e w' => e = .returned (.int .i64 (-1)) ∧ Mem W ok base g gi w' cs n) := ⟨hI.mono (fun e w' h => by
      rcases h with ⟨i, h1, h2, h3, h4, h5⟩ | ⟨_, h2, h3⟩
      · rw [hall i h1] at h2; cases h2
      · exact ⟨h2, h3⟩)⟩
    have ek := keptI_all rs n hall
    have el : (keptI rs n).length = n := by rw [ek, List.length_range]
    rw [el, ek]
    clear hI hF hrl hn hcs hM hall hsz ek el
    go_enter Try.func44, Try.ntmps44
    go_wp2_with (go_at_call 53; go_must (refine HI.out.mono ?_; rintro e w1 ⟨rfl, hm1⟩; have HM1 := Aside0.mk hm1; clear hm1))
    go_ret
    exact ⟨rfl, cs, n, HM1.out, fun m hm => by
      have hg : (List.range n).getD m 0 = m := by
        rw [List.getD_eq_getElem?_getD, List.getElem?_range hm]
        rfl
      rw [hg]
      exact HCS.out m hm⟩
end Go.Proofs.Ytfciokcielponaa.PTab

/- removeEmptyRows, and impl.NoEmpty. -/
namespace Go.Proofs.Ytfciokcielponaa.PTab
open Go.RowKit Go.Proofs.YtfciokcielponaaW.PrintWords Go.Proofs.YtfciokcielponaaW.PrintLast Go.Proofs.YtfciokcielponaaW.PrintMore Go.Proofs.Ytfciokcielponaa.Cells
set_option linter.unusedVariables false
set_option linter.unusedSimpArgs false

theorem rows_open {w : World} {base : Nat} {ok : Nat → Prop} {v : Value} {rs : List (List (List Int))} (h : Kd.N kBB 50 w base ok v rs) :
    (v = .slice none 0 0 ∧ rs = []) ∨ ∃ (g cap : Nat) (cur : Array Value), v = .slice (some ⟨g, 0, none⟩) rs.length cap ∧ base ≤ g ∧ w.heap[g]? = some (.cells cur 50 (0, 0)) ∧ rs.length ≤ cap ∧ cap ≤ 9223372036854775807 ∧ cur.size = cap ∧
      (∀ j, j < rs.length → cur[j]? = some (cur.toList.getD j bf)) ∧ ∀ j, j < rs.length → Kd.FK kBB w (fun k => ok k ∧ k ≠ g) (rs.getD j []) [cur.toList.getD j bf] := by
  have h' := h
  obtain ⟨_, rows, hl, hR, hf⟩ := h
  obtain ⟨_, inner, ho, hr⟩ := hR
  rcases ho.2 with ⟨rfl, hn0⟩ | ⟨g, cap, cur, rfl, hb, hh, hnc, hcm, hsz, ht⟩
  · exact .inl ⟨rfl, List.eq_nil_of_length_eq_zero (by omega)⟩
  · have hsz' : cur.size = cap := by rw [hsz]; exact Nat.mul_one _
    have e1 : rows.length = rs.length := hl
    rw [e1] at h' hnc ⊢
    have hcur : ∀ j, j < rs.length → cur[j]? = some (cur.toList.getD j bf) := fun j hj => by
      have hlt : j < cur.size := by omega
      rw [List.getD_eq_getElem?_getD, Array.getElem?_toList, Array.getElem?_eq_getElem hlt]
      rfl
    refine .inr ⟨g, cap, cur, rfl, hb, hh, hnc, hcm, hsz', hcur, fun j hj => ?_⟩
    obtain ⟨c, hcl, hFK, hcc, _⟩ := Kd.N_elem h' ([] : List (List Int)) (j : Int) (by omega) (by omega)
    have hcl1 : c.length = 1 := hcl
    obtain ⟨u, rfl⟩ := List.length_eq_one_iff.1 hcl1
    have h3 := hcc 0 u rfl
    have hs1 : kBB.sz = 1 := rfl
    simp only [hs1, Nat.mul_one, Nat.add_zero, Int.toNat_natCast] at h3 hFK
    rw [blk_cell hh j, hcur j hj] at h3
    injection h3 with h3
    rw [h3]
    exact hFK
theorem mem_reads {W w : World} {ok : Nat → Prop} {base g gi c : Nat} {cs : Array Value} {vals : List Value} {rs : List (List (List Int))} {n : Nat} (hM : Mem W ok base g gi w cs c) (l : List Nat) (hlm : l.length ≤ 9223372036854775807) (hl : ∀ m, m < l.length → cs[m]? = some (vals.getD (l.getD m 0) bf)) (hn : ∀ x ∈ l, x < n)
    (hF : ∀ j, j < n → Kd.FK kBB W ok (rs.getD j []) [vals.getD j bf]) : Kd.C kBB w (some ⟨g, 0, none⟩) l.length (l.map fun j => rs.getD j []) := by
  refine ⟨by rw [List.length_map], hlm, fun hp => ⟨⟨g, 0, none⟩, rfl, fun j p hj => ?_⟩⟩
  have hjl : j < l.length := by have := (List.getElem?_eq_some_iff.1 hj).1; rwa [List.length_map] at this
  have hp : p = rs.getD l[j] [] := by
    rw [List.getElem?_map, List.getElem?_eq_getElem hjl] at hj
    exact (Option.some.inj hj).symm
  have hx : l.getD j 0 = l[j] := by rw [List.getD_eq_getElem?_getD, List.getElem?_eq_getElem hjl]; rfl
  refine ⟨[vals.getD l[j] bf], rfl, ?_, fun j' u hu => ?_⟩
  · rw [hp]
    exact hF l[j] (hn _ (List.getElem_mem hjl)) w hM.far
  · cases j' with
    | zero =>
      have e : u = vals.getD l[j] bf := (Option.some.inj hu).symm
      have h2 := hl j hjl
      rw [hx] at h2
      show w.cell? (Addr.add ⟨g, 0, none⟩ (j * 1 + 0)) = _
      rw [e, ← h2, Nat.mul_one, Nat.add_zero, add_plain]
      exact blk_cell hM.row j
    | succ _ => cases hu
def noEmpty (rs : List (List (List Int))) : List (List (List Int)) :=
  if (keptI rs rs.length).length = 1 ∧ emptyR (rs.getD ((keptI rs rs.length).getD 0 0) []) = true then [] else (keptI rs rs.length).map fun j => rs.getD j []
/-- What removeEmptyRows leaves: a row that reads as the rows that stay. -/
def Left (base : Nat) (W : World) (rs : List (List (List Int))) (e : Ending) (w' : World) : Prop := ∃ A m c, e = .returned (.slice A m c) ∧ m = (noEmpty rs).length ∧ m ≤ c ∧ Kd.C kBB w' A m (noEmpty rs) ∧ Below base W w'
theorem idx_nil (f : Value) (w : World) : Calls Try.prog 53 #[.slice none 0 0, f] w fun e w' => e = .returned (.int .i64 (-1)) ∧ w' = w := by
  go_enter Try.func53, Try.ntmps53
  go_wp2_with fail
  go_loopw [5, 8] (fun _ s8 wr => s8 = .int .i64 0 ∧ wr = w) (fun _ i _ => 0)
  case atStart => exact ⟨rfl, rfl⟩
  case round =>
    obtain ⟨rfl, rfl⟩ := hrel
    go_wp2
    go_ret
    exact ⟨rfl, rfl⟩
theorem del_nil (f : Value) (w : World) : Calls Try.prog 44 #[.slice none 0 0, f] w fun e w' => e = .returned (.slice none 0 0) ∧ w' = w := by
  go_enter Try.func44, Try.ntmps44
  go_wp2_with (go_at_call 53; go_must (refine (idx_nil _ _).mono ?_; rintro e w1 ⟨rfl, rfl⟩))
  go_ret
  exact ⟨rfl, rfl⟩
theorem remove_calls (w : World) (base : Nat) (hbw : base ≤ w.heap.size) (v : Value) (rs : List (List (List Int))) (h : Kd.N kBB 50 w base (fun k => base ≤ k) v rs) (hnl : rs.length ≤ 4611686018427387904) (hrl : ∀ r ∈ rs, r.length ≤ 4611686018427387904) :
    Calls Try.prog 36 #[v] w (Left base w rs) := by
  rcases rows_open h with ⟨rfl, rfl⟩ | ⟨g, cap, cur, rfl, hbg, hh, hnc, hcm, hsz, hcur, hF⟩
  · clear h
    go_enter Try.func36, Try.ntmps36
    go_wp2_with (go_at_call 44; go_must (refine (del_nil _ _).mono ?_; rintro e w1 ⟨rfl, rfl⟩))
    go_ret
    refine ⟨none, 0, 0, rfl, rfl, Nat.le_refl _, ⟨rfl, Nat.zero_le _, fun hp => absurd hp (Nat.lt_irrefl _)⟩, (Below.refl _ _).alloc hbw _⟩
  · have hgs : g < w.heap.size := blk_lt hh
    have hM0 : Mem w (fun k => base ≤ k ∧ k ≠ g ∧ k < w.heap.size) base g w.heap.size (w.alloc (.cells #[.int .i64 0] 3)) cur 0 :=
      ⟨blk_alloc hh _, blk_new w _, fun k hk hlt => Below.heap_alloc w _ k hlt, (Below.refl _ _).alloc hbw _⟩
    have hF' : ∀ j, j < rs.length → Kd.FK kBB w (fun k => base ≤ k ∧ k ≠ g ∧ k < w.heap.size) (rs.getD j []) [cur.toList.getD j bf] := fun j hj W' hW => hF j hj W' (fun k hk hlt => hW k ⟨hk.1, hk.2, hlt⟩ hlt)
    have hrl' : ∀ j, j < rs.length → (rs.getD j []).length ≤ 4611686018427387904 := fun j hj => by
      rw [List.getD_eq_getElem?_getD, List.getElem?_eq_getElem hj]
      exact hrl _ (List.getElem_mem hj)
    have hD := del_calls w _ _ base g w.heap.size rs.length cap cur cur.toList rs (by omega) (fun hk => Nat.lt_irrefl _ hk.2.2) (fun hk => hk.2.1 rfl) hbw hbg hM0 rfl hnc hnl hcm hsz hcur hF' hrl'
    have hkl := keptI_le rs rs.length
    have hkm : ∀ x ∈ keptI rs rs.length, x < rs.length := fun x hx => List.mem_range.1 (List.mem_filter.1 hx).1
    have hD2 := hD.mono (R' := fun e w' => e = .returned (.slice (some ⟨g, 0, none⟩) (keptI rs rs.length).length cap) ∧ (∃ cs' c', Mem w (fun k => base ≤ k ∧ k ≠ g ∧ k < w.heap.size) base g w.heap.size w' cs' c' ∧ ∀ m, m < (keptI rs rs.length).length → cs'[m]? = some (cur.toList.getD ((keptI rs rs.length).getD m 0) bf)) ∧ Kd.C kBB w' (some ⟨g, 0, none⟩) (keptI rs rs.length).length ((keptI rs rs.length).map fun j => rs.getD j [])) (fun e w' h => by
      obtain ⟨h1, cs', c', h2, h3⟩ := h
      exact ⟨h1, ⟨cs', c', h2, h3⟩, mem_reads h2 _ (by omega) h3 hkm hF'⟩)
    have HD := Aside0.mk hD2
    have HF := Aside0.mk hF'
    have HRL := Aside0.mk hrl'
    have HKM := Aside0.mk hkm
    have hml : (keptI rs rs.length).length ≤ cap := by omega
    have HE := Aside0.mk (show noEmpty rs = if (keptI rs rs.length).length = 1 ∧ emptyR (rs.getD ((keptI rs rs.length).getD 0 0) []) = true then [] else (keptI rs rs.length).map fun j => rs.getD j [] from rfl)
    clear hD hD2 hF hF' hrl hrl' hkm h hcur hM0 hh hkl
    have hmap : ((keptI rs rs.length).map fun j => rs.getD j []).length = (keptI rs rs.length).length := List.length_map _
    have HMAP := Aside0.mk hmap
    clear hmap
    by_cases h1 : (keptI rs rs.length).length = 1
    · obtain ⟨x, hx⟩ := List.length_eq_one_iff.1 h1
      have hxm := HKM.out x (by rw [hx]; exact List.mem_cons_self)
      rw [hx] at HD HE HMAP hml
      have HX := Aside0.mk hx
      clear hx h1 HKM
      have e0 : ([x] : List Nat).getD 0 0 = x := rfl
      rw [e0] at HE
      simp only [List.length_singleton] at HD hml
      obtain ⟨A0, c0, e, hlc, hFF⟩ := Kd.FK_slice_open (HF.out x hxm)
      have E0 := Aside0.mk (show cur.toList.getD x bf = .slice A0 (rs.getD x []).length c0 from by injection e)
      have HLC := Aside0.mk hlc
      have HFF := Aside0.mk hFF
      have HRX := Aside0.mk (HRL.out x hxm)
      clear e hlc hFF HRL HF
      generalize rs.getD x [] = r at E0 HLC HFF HRX HE
      cases hb : emptyR r with
      | true =>
        rw [if_pos ⟨rfl, hb⟩] at HE
        go_enter Try.func36, Try.ntmps36
        go_wp2_with (first | (go_at_call 44; go_must (refine HD.out.mono ?_; rintro e w1 ⟨rfl, ⟨cs', c', hm1, hlow⟩, hC⟩; have hc0 : w1.cell? ⟨g, 0, none⟩ = some (.slice A0 r.length c0) := ((blk_cell hm1.row 0).trans (hlow 0 Nat.zero_lt_one)).trans (congrArg some E0.out); have HR0 := Aside0.mk (HFF.out w1 hm1.far); have HB := Aside0.mk hm1.below; have HC := Aside0.mk hC; clear hm1 hC hlow)) | (go_at_call 46; go_must (refine (empty_calls _ _ r _ HR0.out HLC.out HRX.out).mono ?_; rw [hb]; rintro e w2 ⟨rfl, hd⟩; obtain ⟨⟨nd, rfl⟩⟩ := hd)))
        go_ret
        exact ⟨none, 0, 0, rfl, by rw [HE.out]; rfl, Nat.le_refl _, by rw [HE.out]; exact ⟨rfl, Nat.zero_le _, fun hp => absurd hp (Nat.lt_irrefl _)⟩, pw_below_drewN HB.out nd⟩
      | false =>
        rw [if_neg (fun h => by rw [hb] at h; cases h.2)] at HE
        go_enter Try.func36, Try.ntmps36
        go_wp2_with (first | (go_at_call 44; go_must (refine HD.out.mono ?_; rintro e w1 ⟨rfl, ⟨cs', c', hm1, hlow⟩, hC⟩; have hc0 : w1.cell? ⟨g, 0, none⟩ = some (.slice A0 r.length c0) := ((blk_cell hm1.row 0).trans (hlow 0 Nat.zero_lt_one)).trans (congrArg some E0.out); have HR0 := Aside0.mk (HFF.out w1 hm1.far); have HB := Aside0.mk hm1.below; have HC := Aside0.mk hC; clear hm1 hC hlow)) | (go_at_call 46; go_must (refine (empty_calls _ _ r _ HR0.out HLC.out HRX.out).mono ?_; rw [hb]; rintro e w2 ⟨rfl, hd⟩; obtain ⟨⟨nd, rfl⟩⟩ := hd)))
        go_ret
        exact ⟨_, 1, cap, rfl, by rw [HE.out]; rfl, hml, by rw [HE.out]; exact Kd.C_drewN HC.out nd, pw_below_drewN HB.out nd⟩
    · have hne : (((keptI rs rs.length).length : Int) == 1) = false := beq_eq_false_iff_ne.2 (by omega)
      rw [if_neg (fun h => h1 h.1)] at HE
      generalize hm : (keptI rs rs.length).length = m at HD HMAP hml hne
      clear h1 HKM hm
      go_enter Try.func36, Try.ntmps36
      go_wp2_with (go_at_call 44; go_must (refine HD.out.mono ?_; rintro e w1 ⟨rfl, ⟨cs', c', hm1, _⟩, hC⟩; have HB := Aside0.mk hm1.below; have HC := Aside0.mk hC; clear hm1 hC))
      go_ret
      refine ⟨_, m, cap, rfl, by rw [HE.out]; exact HMAP.out.symm, hml, by rw [HE.out]; exact HC.out, HB.out⟩
end Go.Proofs.Ytfciokcielponaa.PTab

/- impl.NoEmpty: what it returns. -/
namespace Go.Proofs.Ytfciokcielponaa.PTab
open Go.RowKit Go.Proofs.YtfciokcielponaaW.PrintWords Go.Proofs.YtfciokcielponaaW.PrintLast Go.Proofs.YtfciokcielponaaW.PrintMore Go.Proofs.Ytfciokcielponaa.Cells
set_option linter.unusedVariables false
set_option linter.unusedSimpArgs false

theorem str_back (s : ByteArray) : strOfNums (bytesOf s) = s := by
  unfold strOfNums bytesOf
  apply ByteArray.ext
  apply Array.toList_inj.1
  rw [List.map_map]
  have : ((fun n : Int => UInt8.ofNat n.toNat) ∘ fun b : UInt8 => (b.toNat : Int)) = id := by
    funext b
    simp
  rw [this]
  simp
theorem texts_ev (l : List (List (List Int))) (hl : l.length < 5864062014805) (hr : ∀ r ∈ l, r.length < 8796093022208) : Ev (fun k => impl_textsOf.f k l) (l.map fun r => r.map strOfNums) := by
  have key : ∀ (n j : Nat), l.length = j + n → Ev (fun k => impl_textsOf.l0 k ((l.take j).map fun r => r.map strOfNums) l (l.length : Int) (j : Int)) (l.map fun r => r.map strOfNums) := by
    intro n
    induction n with
    | zero =>
      intro j hj
      rw [List.take_of_length_le (by omega)]
      refine Ev.step (f := fun _ => some (l.map fun r => r.map strOfNums)) (fun k => ?_) (Ev.now _)
      simp only [impl_textsOf.l0]
      rw [if_neg (by omega)]
    | succ n ih =>
      intro j hj
      have hlt : j < l.length := by omega
      have hrd : rd_L4 l (j : Int) = l[j] := by simp [rd_L4, List.getD_eq_getElem?_getD, List.getElem?_eq_getElem hlt]
      have hrj := hr _ (List.getElem_mem hlt)
      have inner : ∀ (m i : Nat), l[j].length = i + m → Ev (fun k => impl_textsOf.l1 k ((l.take j).map fun r => r.map strOfNums) ((l[j].take i).map strOfNums) l (l.length : Int) (j : Int) l[j] (l[j].length : Int) (i : Int)) (l.map fun r => r.map strOfNums) := by
        intro m
        induction m with
        | zero =>
          intro i hi
          rw [List.take_of_length_le (show l[j].length ≤ i by omega)]
          refine Ev.step (fun k => ?_) (ih (j + 1) (by omega))
          simp only [impl_textsOf.l1]
          rw [if_neg (by omega), if_pos (by rw [List.length_map, List.length_take]; omega), succ_wrap j (by omega)]
          have e : ((l.take j).map fun r => r.map strOfNums) ++ [l[j].map strOfNums] = (l.take (j + 1)).map fun r => r.map strOfNums := by
            rw [List.take_succ_eq_append_getElem hlt, List.map_append]
            rfl
          rw [e]
        | succ m ihm =>
          intro i hi
          have hil : i < l[j].length := by omega
          have hrd3 : rd_L3 l[j] (i : Int) = l[j][i] := by simp [rd_L3, List.getD_eq_getElem?_getD, List.getElem?_eq_getElem hil]
          refine Ev.step (fun k => ?_) (ihm (i + 1) (by omega))
          simp only [impl_textsOf.l1]
          rw [if_pos (by omega), if_pos (by omega), if_pos (by omega), if_pos (by rw [List.length_map, List.length_take]; omega), succ_wrap i (by omega), hrd3]
          have e : (l[j].take i).map strOfNums ++ [strOfNums l[j][i]] = (l[j].take (i + 1)).map strOfNums := by
            rw [List.take_succ_eq_append_getElem hil, List.map_append]
            rfl
          rw [e]
      refine Ev.step (fun k => ?_) (inner l[j].length 0 (by omega))
      simp only [impl_textsOf.l0]
      rw [if_pos (by omega), if_pos (by omega), if_pos (by omega), hrd]
      rfl
  exact key l.length 0 (by omega)
/-- Whether all cells of a row are without a byte; the places of the rows that stay; these. -/
def emptyS (r : List ByteArray) : Bool := r.all fun c => decide (c.size = 0)
def keptS (rows : List (List ByteArray)) (j : Nat) : List Nat := (List.range j).filter fun m => decide (m = 0) || !emptyS (rows.getD m [])
def noEmptyS (rows : List (List ByteArray)) : List (List ByteArray) :=
  if (keptS rows rows.length).length = 1 ∧ emptyS (rows.getD ((keptS rows rows.length).getD 0 0) []) = true then [] else (keptS rows rows.length).map fun j => rows.getD j []
theorem empty_bytes (r : List ByteArray) : emptyR (r.map bytesOf) = emptyS r := by
  unfold emptyR emptyS
  induction r with
  | nil => rfl
  | cons s r ih =>
    rw [List.map_cons, List.all_cons, List.all_cons, ih]
    have h := bytesOf_length s
    cases hb : bytesOf s with
    | nil =>
      rw [hb] at h
      have : s.size = 0 := h.symm
      simp [this]
    | cons a l =>
      rw [hb] at h
      have : ¬ s.size = 0 := by rw [← h]; simp
      simp [this]
theorem getD_bytes (rows : List (List ByteArray)) (j : Nat) : (rows.map fun r => r.map bytesOf).getD j [] = (rows.getD j []).map bytesOf := by
  rw [List.getD_eq_getElem?_getD, List.getD_eq_getElem?_getD, List.getElem?_map]
  cases rows[j]? <;> rfl
theorem kept_bytes (rows : List (List ByteArray)) (j : Nat) : keptI (rows.map fun r => r.map bytesOf) j = keptS rows j := by
  unfold keptI keptS
  congr 1
  funext m
  unfold struckAt
  rw [getD_bytes, empty_bytes]
  by_cases h : m = 0 <;> simp [h]
theorem noEmpty_back (rows : List (List ByteArray)) : (noEmpty (rows.map fun r => r.map bytesOf)).map (fun r => r.map strOfNums) = noEmptyS rows := by
  unfold noEmpty noEmptyS
  rw [List.length_map, kept_bytes, getD_bytes, empty_bytes]
  split
  · rfl
  · rw [List.map_map]
    apply List.map_congr_left
    intro j _
    show ((rows.map fun r => r.map bytesOf).getD j []).map strOfNums = _
    rw [getD_bytes, List.map_map]
    have : strOfNums ∘ bytesOf = id := by funext s; exact str_back s
    rw [this, List.map_id]
theorem noEmpty_small (rs : List (List (List Int))) : (noEmpty rs).length ≤ rs.length ∧ ∀ r ∈ noEmpty rs, r = [] ∨ r ∈ rs := by
  unfold noEmpty
  split
  · exact ⟨Nat.zero_le _, fun r hr => by cases hr⟩
  · refine ⟨by rw [List.length_map]; exact keptI_le rs _, fun r hr => ?_⟩
    obtain ⟨j, _, rfl⟩ := List.mem_map.1 hr
    rw [List.getD_eq_getElem?_getD]
    cases h : rs[j]? with
    | none => exact .inl rfl
    | some x => exact .inr (List.mem_of_getElem? h)
theorem zz_calls (w : World) (base : Nat) (hbw : base ≤ w.heap.size) (v : Value) (rs : List (List (List Int))) (h : Kd.N kBB 50 w base (fun k => base ≤ k) v rs) (hnl : rs.length ≤ 4611686018427387904) (hrl : ∀ r ∈ rs, r.length ≤ 4611686018427387904) :
    Calls Try.prog 20 #[v] w (Left base w rs) := by
  have H := Aside0.mk (remove_calls w base hbw v rs h hnl hrl)
  obtain ⟨A, c, rfl⟩ := Kd.N_slice h
  clear h hnl hrl
  go_enter Try.func20, Try.ntmps20
  go_wp2_with (go_at_call 36; go_must (refine H.out.mono ?_; rintro e w1 ⟨A2, m, c2, rfl, hm, hmc, hC, hB⟩; have HR := Aside0.mk (And.intro hm (And.intro hmc (And.intro hC hB))); clear hm hmc hC hB))
  go_ret
  exact ⟨A2, m, c2, rfl, HR.out⟩
theorem noempty_calls (A0 : Option Addr) (c0 : Nat) (l0 : List (List ByteArray)) (w : World) (hr : (Kd.slice 9 Kd.string).C w A0 l0.length l0) (hc : l0.length ≤ c0) (hl : l0.length ≤ 2147483647) (hs : ∀ r ∈ l0, r.length ≤ 2147483647 ∧ ∀ s ∈ r, s.size ≤ 140737488351232) :
    Calls Try.prog 9 #[.slice A0 l0.length c0] w fun e w' => ∃ A m c, e = .returned (.slice A m c) ∧ m = (noEmptyS l0).length ∧ m ≤ c ∧ Kd.C (Kd.slice 9 Kd.string) w' A m (noEmptyS l0) ∧ Below w.heap.size w w' := by
  have h1 := rows_calls A0 c0 l0 w hr hc hl hs
  have HL := Aside0.mk hl
  have HS := Aside0.mk hs
  have H1 := Aside0.mk h1
  have HRL := Aside0.mk (show ∀ r ∈ (l0.map fun r => r.map bytesOf), r.length ≤ 4611686018427387904 from fun r hr => by
    obtain ⟨x, hx, rfl⟩ := List.mem_map.1 hr
    rw [List.length_map]
    have := (hs x hx).1
    omega)
  have HRN := Aside0.mk (show (l0.map fun r => r.map bytesOf).length ≤ 4611686018427387904 by rw [List.length_map]; omega)
  have hsm := noEmpty_small (l0.map fun r => r.map bytesOf)
  have HT := Aside0.mk (texts_ev (noEmpty (l0.map fun r => r.map bytesOf)) (by have := hsm.1; rw [List.length_map] at this; omega) (fun r hr => by
    rcases hsm.2 r hr with rfl | h
    · simp
    · obtain ⟨x, hx, rfl⟩ := List.mem_map.1 h
      rw [List.length_map]
      have := (hs x hx).1
      omega))
  have HB := Aside0.mk (noEmpty_back l0)
  clear h1 hs hsm hr hc hl
  generalize (l0.map fun r => r.map bytesOf) = rs at H1 HRL HRN HT HB
  generalize noEmptyS l0 = out at HB
  obtain ⟨kt, ht⟩ := HT.out.rounds
  have HTT := Aside0.mk ht
  clear ht HT
  go_enter Try.func9, Try.ntmps9
  go_wp2_with (first
    | (go_at_call 21; go_must (refine H1.out.mono ?_; rintro e w1 ⟨v1, rfl, hN, hB⟩; have HN := Aside0.mk hN; have HB1 := Aside0.mk hB; clear hN hB))
    | (go_at_call 20; go_must (refine (zz_calls w1 w.heap.size HB1.out.size v1 rs HN.out HRN.out HRL.out).mono ?_; rintro e w2 ⟨A2, m2, c2, rfl, hm2, hmc, hC, hB⟩; have HC2 := Aside0.mk hC; have HM2 := Aside0.mk hm2; have HMC := Aside0.mk hmc; have HB2 := Aside0.mk (HB1.out.trans hB); clear hC hm2 hmc hB; obtain rfl := HM2.out))
    | (go_at_call 19; go_must (refine (impl_textsOf.calls kt A2 c2 (noEmpty rs) _ w2 HC2.out HMC.out HTT.out).mono ?_; rintro e w3 ⟨v3, rfl, hS, hB⟩; have HS3 := Aside0.mk hS; have HB3 := Aside0.mk (HB2.out.trans (hB.mono HB2.out.size)); clear hS hB)))
  go_ret
  obtain ⟨A3, c3, rfl, h3, h4⟩ := Kd.S_reads HS3.out
  rw [HB.out] at h3 h4
  exact ⟨A3, _, c3, rfl, by rw [HB.out], by rw [HB.out]; exact h3, by rw [HB.out]; exact h4, HB3.out⟩
end Go.Proofs.Ytfciokcielponaa.PTab

/- Printed by the program extprint.py of this session, out of the kit's print and contracts of this session's own; Lean checks it. -/
namespace Go.Proofs.Ytfciokcielponaa.PTab
open Go.RowKit Go.Proofs.YtfciokcielponaaW.PrintWords Go.Proofs.YtfciokcielponaaW.PrintLast Go.Proofs.YtfciokcielponaaW.PrintMore
attribute [local go_sem] max2_int min2_int max_two min_two max_three min_three max_four min_four   -- for this text's walks alone
set_option linter.unusedVariables false
set_option linter.unusedSimpArgs false


/-! ### laws_zzFits5: function 10 -/
def laws_zzFits5.l0 : Nat → List ByteArray → Int → Int → Option (Bool)
  | 0, _, _, _ => none
  | k + 1, x8, x9, x10 => if x10 < x9 then (if 0 ≤ x10 then (if x10 < (x8.length : Int) then (if ((rdOf ByteArray.empty x8 x10).size : Int) > 2147483647 then (some false) else (laws_zzFits5.l0 k x8 x9 (wrap64 (x10 + 1)))) else (none)) else (none)) else (some true)
def laws_zzFits5.f (k : Nat) (l0 : List ByteArray) : Option (Bool) := if (l0.length : Int) > 2147483647 then (some false) else (laws_zzFits5.l0 k l0 (l0.length : Int) 0)
theorem laws_zzFits5.mono_l : ∀ k, (∀ y0 y1 y2, LeO (laws_zzFits5.l0 k y0 y1 y2) (laws_zzFits5.l0 (k + 1) y0 y1 y2))
  | 0 => fun _ _ _ r h => by simp [laws_zzFits5.l0] at h
  | k + 1 => by
    have ih0 := laws_zzFits5.mono_l k
    · intro y0 y1 y2
      unfold laws_zzFits5.l0
      repeat' first
      | (with_reducible exact ih0 _ _ _)
      | (with_reducible exact LeO.refl _)
      | (with_reducible exact LeO.none _)
      | (with_reducible refine LeO.ite ?_ ?_)
      | (with_reducible refine LeO.bind ?_ (fun _ => ?_))
      | exact ih0 _ _ _
      | exact LeO.none _
      | refine LeO.ite ?_ ?_
      | refine LeO.bind ?_ (fun _ => ?_)
theorem laws_zzFits5.mono : ∀ a0 k, LeO (laws_zzFits5.f k a0) (laws_zzFits5.f (k + 1) a0) := by
  intro a0 k
  have ih0 := laws_zzFits5.mono_l k
  unfold laws_zzFits5.f
  repeat' first
      | (with_reducible exact ih0 _ _ _)
      | (with_reducible exact LeO.refl _)
      | (with_reducible exact LeO.none _)
      | (with_reducible refine LeO.ite ?_ ?_)
      | (with_reducible refine LeO.bind ?_ (fun _ => ?_))
      | exact ih0 _ _ _
      | exact LeO.none _
      | refine LeO.ite ?_ ?_
      | refine LeO.bind ?_ (fun _ => ?_)
set_option maxHeartbeats 8000000 in
set_option maxRecDepth 100000 in
theorem laws_zzFits5.calls (k : Nat) (A0 : Option Addr) (c0 : Nat) (l0 : List ByteArray) (r : Bool) (w : World) (hr0 : Kd.C Kd.string w A0 l0.length l0) (hc0 : l0.length ≤ c0) (h : laws_zzFits5.f k l0 = some r) :
    Calls Try.prog 10 #[.slice A0 l0.length c0] w fun e w' => e = .returned (.bool r) ∧ Drawn0 w w' := by
  have HR0 := Aside0.mk hr0
  have HC0 := Aside0.mk hc0
  clear hr0 hc0
  have H : (if (l0.length : Int) > 2147483647 then (some false) else (laws_zzFits5.l0 k l0 (l0.length : Int) 0)) = some r := h
  clear h
  by_cases c2 : (l0.length : Int) > 2147483647
  · rw [if_pos c2] at H
    have c2b0 : decide (2147483647 < (l0.length : Int)) = true := decide_eq_true c2
    have c2b1 : decide (2147483647 < l0.length) = true := decide_eq_true (by omega)
    clear c2
    obtain rfl := Option.some.inj H
    go_enter Try.func10, Try.ntmps10
    go_wp2
    go_ret
    exact ⟨by first | rfl | (simp; done) | (simp [*]; done), by repeat (first | exact Drawn0.refl _ | apply Drawn0.step)⟩
  · rw [if_neg c2] at H
    have c2b0 : decide (2147483647 < (l0.length : Int)) = false := decide_eq_false c2
    have c2b1 : decide (2147483647 < l0.length) = false := decide_eq_false (by omega)
    clear c2
    have H' := Aside0.mk H
    clear H
    go_enter Try.func10, Try.ntmps10
    go_wp2
    go_loopg [10] k (fun kq v10 w' => ∃ (x10_1 : Int), v10 = .int .i64 x10_1 ∧ Aside0 (laws_zzFits5.l0 kq l0 (l0.length : Int) x10_1 = some r) ∧ Aside0 (kq ≤ k) ∧ Drawn0 w w')
    case atStart => exact ⟨(0), (by first | rfl | (simp; done) | (simp [*]; done)), H', ⟨Nat.le_refl _⟩, by repeat (first | exact Drawn0.refl _ | apply Drawn0.step)⟩
    case round =>
      clear H'
      try clear c1
      try clear c2
      try clear c2b0
      try clear c2b1
      try clear p2
      obtain ⟨x10_1, rfl, HA, HK1, ⟨m1, rfl⟩⟩ := hrel
      cases gk with
      | zero => exact absurd HA.out (by simp [laws_zzFits5.l0])
      | succ k1 =>
        have H := HA.out
        clear HA
        simp only [laws_zzFits5.l0] at H
        by_cases c3 : x10_1 < (l0.length : Int)
        · rw [if_pos c3] at H
          have c3b0 : decide (x10_1 < (l0.length : Int)) = true := decide_eq_true c3
          clear c3
          by_cases c4 : 0 ≤ x10_1
          · rw [if_pos c4] at H
            have c4b0 : decide (0 ≤ x10_1) = true := decide_eq_true c4
            clear c4
            by_cases c5 : x10_1 < (l0.length : Int)
            · rw [if_pos c5] at H
              have c5b0 : decide (x10_1 < (l0.length : Int)) = true := decide_eq_true c5
              clear c5
              by_cases c6 : ((rdOf ByteArray.empty l0 x10_1).size : Int) > 2147483647
              · rw [if_pos c6] at H
                have c6b0 : decide (2147483647 < ((rdOf ByteArray.empty l0 x10_1).size : Int)) = true := decide_eq_true c6
                have c6b1 : decide (2147483647 < (rdOf ByteArray.empty l0 x10_1).size) = true := decide_eq_true (by omega)
                clear c6
                obtain rfl := Option.some.inj H
                have p101 : 0 ≤ (x10_1 : Int) := of_decide_eq_true (by first | (with_reducible assumption) | assumption)
                have q101 : x10_1 < (l0.length : Int) := of_decide_eq_true (by first | (with_reducible assumption) | assumption)
                obtain ⟨ad101, e101, hx101_0⟩ := Kd.at_string HR0.out x10_1 p101 q101
                cases e101
                replace p101 := eq_true p101
                replace q101 := eq_true q101
                go_wp2
                go_ret
                exact ⟨by first | rfl | (simp; done) | (simp [*]; done), by repeat (first | exact Drawn0.refl _ | apply Drawn0.step)⟩
              · rw [if_neg c6] at H
                have c6b0 : decide (2147483647 < ((rdOf ByteArray.empty l0 x10_1).size : Int)) = false := decide_eq_false c6
                have c6b1 : decide (2147483647 < (rdOf ByteArray.empty l0 x10_1).size) = false := decide_eq_false (by omega)
                clear c6
                have H' := Aside0.mk H
                clear H
                have p101 : 0 ≤ (x10_1 : Int) := of_decide_eq_true (by first | (with_reducible assumption) | assumption)
                have q101 : x10_1 < (l0.length : Int) := of_decide_eq_true (by first | (with_reducible assumption) | assumption)
                obtain ⟨ad101, e101, hx101_0⟩ := Kd.at_string HR0.out x10_1 p101 q101
                cases e101
                replace p101 := eq_true p101
                replace q101 := eq_true q101
                go_wp2
                go_roundg k1
                case measure => have := HK1.out; omega
                case rel => exact ⟨(wrap64 (x10_1 + 1)), (by first | rfl | (simp; done) | (simp [*]; done)), H', ⟨by have := HK1.out; omega⟩, by repeat (first | exact Drawn0.refl _ | apply Drawn0.step)⟩
            · rw [if_neg c5] at H
              exact absurd H (by simp)
          · rw [if_neg c4] at H
            exact absurd H (by simp)
        · rw [if_neg c3] at H
          have c3b0 : decide (x10_1 < (l0.length : Int)) = false := decide_eq_false c3
          clear c3
          obtain rfl := Option.some.inj H
          go_wp2
          go_ret
          exact ⟨by first | rfl | (simp; done) | (simp [*]; done), by repeat (first | exact Drawn0.refl _ | apply Drawn0.step)⟩
/-! ### laws_zzFits6: function 6 -/
def laws_zzFits6.l0 : Nat → List (List ByteArray) → Int → Int → Option (Bool)
  | 0, _, _, _ => none
  | k + 1, x8, x9, x10 => if x10 < x9 then (if 0 ≤ x10 then (if x10 < (x8.length : Int) then ((laws_zzFits5.f k (rd_L1 x8 x10)).bind fun t103 => (if t103 = true then (laws_zzFits6.l0 k x8 x9 (wrap64 (x10 + 1))) else (some false))) else (none)) else (none)) else (some true)
def laws_zzFits6.f (k : Nat) (l0 : List (List ByteArray)) : Option (Bool) := if (l0.length : Int) > 2147483647 then (some false) else (laws_zzFits6.l0 k l0 (l0.length : Int) 0)
theorem laws_zzFits6.mono_l : ∀ k, (∀ y0 y1 y2, LeO (laws_zzFits6.l0 k y0 y1 y2) (laws_zzFits6.l0 (k + 1) y0 y1 y2))
  | 0 => fun _ _ _ r h => by simp [laws_zzFits6.l0] at h
  | k + 1 => by
    have ih0 := laws_zzFits6.mono_l k
    · intro y0 y1 y2
      unfold laws_zzFits6.l0
      repeat' first
      | (with_reducible exact ih0 _ _ _)
      | (with_reducible exact laws_zzFits5.mono _ _)
      | (with_reducible exact LeO.refl _)
      | (with_reducible exact LeO.none _)
      | (with_reducible refine LeO.ite ?_ ?_)
      | (with_reducible refine LeO.bind ?_ (fun _ => ?_))
      | exact ih0 _ _ _
      | exact laws_zzFits5.mono _ _
      | exact LeO.none _
      | refine LeO.ite ?_ ?_
      | refine LeO.bind ?_ (fun _ => ?_)
theorem laws_zzFits6.mono : ∀ a0 k, LeO (laws_zzFits6.f k a0) (laws_zzFits6.f (k + 1) a0) := by
  intro a0 k
  have ih0 := laws_zzFits6.mono_l k
  unfold laws_zzFits6.f
  repeat' first
      | (with_reducible exact ih0 _ _ _)
      | (with_reducible exact laws_zzFits5.mono _ _)
      | (with_reducible exact LeO.refl _)
      | (with_reducible exact LeO.none _)
      | (with_reducible refine LeO.ite ?_ ?_)
      | (with_reducible refine LeO.bind ?_ (fun _ => ?_))
      | exact ih0 _ _ _
      | exact laws_zzFits5.mono _ _
      | exact LeO.none _
      | refine LeO.ite ?_ ?_
      | refine LeO.bind ?_ (fun _ => ?_)
set_option maxHeartbeats 8000000 in
set_option maxRecDepth 100000 in
theorem laws_zzFits6.calls (k : Nat) (A0 : Option Addr) (c0 : Nat) (l0 : List (List ByteArray)) (r : Bool) (w : World) (hr0 : Kd.C (Kd.slice 9 Kd.string) w A0 l0.length l0) (hc0 : l0.length ≤ c0) (h : laws_zzFits6.f k l0 = some r) :
    Calls Try.prog 6 #[.slice A0 l0.length c0] w fun e w' => e = .returned (.bool r) ∧ Drawn0 w w' := by
  have HR0 := Aside0.mk hr0
  have HC0 := Aside0.mk hc0
  clear hr0 hc0
  have H : (if (l0.length : Int) > 2147483647 then (some false) else (laws_zzFits6.l0 k l0 (l0.length : Int) 0)) = some r := h
  clear h
  by_cases c2 : (l0.length : Int) > 2147483647
  · rw [if_pos c2] at H
    have c2b0 : decide (2147483647 < (l0.length : Int)) = true := decide_eq_true c2
    have c2b1 : decide (2147483647 < l0.length) = true := decide_eq_true (by omega)
    clear c2
    obtain rfl := Option.some.inj H
    go_enter Try.func6, Try.ntmps6
    go_wp2
    go_ret
    exact ⟨by first | rfl | (simp; done) | (simp [*]; done), by repeat (first | exact Drawn0.refl _ | apply Drawn0.step)⟩
  · rw [if_neg c2] at H
    have c2b0 : decide (2147483647 < (l0.length : Int)) = false := decide_eq_false c2
    have c2b1 : decide (2147483647 < l0.length) = false := decide_eq_false (by omega)
    clear c2
    have H' := Aside0.mk H
    clear H
    go_enter Try.func6, Try.ntmps6
    go_wp2
    go_loopg [10] k (fun kq v10 w' => ∃ (x10_1 : Int), v10 = .int .i64 x10_1 ∧ Aside0 (laws_zzFits6.l0 kq l0 (l0.length : Int) x10_1 = some r) ∧ Aside0 (kq ≤ k) ∧ Drawn0 w w')
    case atStart => exact ⟨(0), (by first | rfl | (simp; done) | (simp [*]; done)), H', ⟨Nat.le_refl _⟩, by repeat (first | exact Drawn0.refl _ | apply Drawn0.step)⟩
    case round =>
      clear H'
      try clear c2
      try clear c2b0
      try clear c2b1
      try clear p2
      obtain ⟨x10_1, rfl, HA, HK1, ⟨m1, rfl⟩⟩ := hrel
      cases gk with
      | zero => exact absurd HA.out (by simp [laws_zzFits6.l0])
      | succ k1 =>
        have H := HA.out
        clear HA
        simp only [laws_zzFits6.l0] at H
        by_cases c3 : x10_1 < (l0.length : Int)
        · rw [if_pos c3] at H
          have c3b0 : decide (x10_1 < (l0.length : Int)) = true := decide_eq_true c3
          clear c3
          by_cases c4 : 0 ≤ x10_1
          · rw [if_pos c4] at H
            have c4b0 : decide (0 ≤ x10_1) = true := decide_eq_true c4
            clear c4
            by_cases c5 : x10_1 < (l0.length : Int)
            · rw [if_pos c5] at H
              have c5b0 : decide (x10_1 < (l0.length : Int)) = true := decide_eq_true c5
              clear c5
              replace H := Option.bind_eq_some_iff.mp H
              obtain ⟨t103, A60, H⟩ := H
              replace H : (if t103 = true then (laws_zzFits6.l0 k1 l0 (l0.length : Int) (wrap64 (x10_1 + 1))) else (some false)) = some r := H
              have A6 := Aside0.mk A60
              clear A60
              by_cases c7 : t103 = true
              · subst c7
                have H1 : (laws_zzFits6.l0 k1 l0 (l0.length : Int) (wrap64 (x10_1 + 1))) = some r := by rw [if_pos rfl] at H; exact H
                clear H
                have H := H1
                clear H1
                have H' := Aside0.mk H
                clear H
                have p102 : 0 ≤ (x10_1 : Int) := of_decide_eq_true (by first | (with_reducible assumption) | assumption)
                have q102 : x10_1 < (l0.length : Int) := of_decide_eq_true (by first | (with_reducible assumption) | assumption)
                obtain ⟨ad102, A102_0, c102_0, e102, hx102_0, hl102_0, hi102_0⟩ := at_L1 HR0.out x10_1 p102 q102
                cases e102
                have HR102_0 := Aside0.mk hi102_0
                have HC102_0 := Aside0.mk hl102_0
                clear hi102_0 hl102_0
                replace p102 := eq_true p102
                replace q102 := eq_true q102
                go_wp2_with (first | ((with_reducible refine gate_callee (f := 10) rfl ?_); refine goesL_ (some 15) rfl rfl Try.func10 (by kernel_rfl) rfl #[.slice A102_0 (rd_L1 l0 x10_1).length c102_0] rfl (by (try simp only [List.map_toArray, List.map_cons, List.map_nil]); first | done | rfl | (simp only [List.length_drop, List.length_take]; rfl)) ?_; (with_reducible refine (laws_zzFits5.calls k1 _ _ (rd_L1 l0 x10_1) true _ ?side1 ?side2 A6.out).mono ?_); (case side1 => repeat (first | exact HR102_0.out | (with_reducible refine Kd.C_alloc ?_ _) | (with_reducible refine Kd.C_drewN ?_ _) | (with_reducible refine Kd.C_drew ?_))); (case side2 => exact HC102_0.out); rintro e w' ⟨rfl, ⟨nd, rfl⟩⟩; refine ⟨_, rfl, ?_⟩))
                go_roundg k1
                case measure => have := HK1.out; omega
                case rel => exact ⟨(wrap64 (x10_1 + 1)), (by first | rfl | (simp; done) | (simp [*]; done)), H', ⟨by have := HK1.out; omega⟩, by repeat (first | exact Drawn0.refl _ | apply Drawn0.step)⟩
              · replace c7 := Bool.eq_false_iff.mpr c7
                subst c7
                have H1 : (some false) = some r := by rw [if_neg (show ¬ (false = true) by decide)] at H; exact H
                clear H
                have H := H1
                clear H1
                obtain rfl := Option.some.inj H
                have p102 : 0 ≤ (x10_1 : Int) := of_decide_eq_true (by first | (with_reducible assumption) | assumption)
                have q102 : x10_1 < (l0.length : Int) := of_decide_eq_true (by first | (with_reducible assumption) | assumption)
                obtain ⟨ad102, A102_0, c102_0, e102, hx102_0, hl102_0, hi102_0⟩ := at_L1 HR0.out x10_1 p102 q102
                cases e102
                have HR102_0 := Aside0.mk hi102_0
                have HC102_0 := Aside0.mk hl102_0
                clear hi102_0 hl102_0
                replace p102 := eq_true p102
                replace q102 := eq_true q102
                go_wp2_with (first | ((with_reducible refine gate_callee (f := 10) rfl ?_); refine goesL_ (some 15) rfl rfl Try.func10 (by kernel_rfl) rfl #[.slice A102_0 (rd_L1 l0 x10_1).length c102_0] rfl (by (try simp only [List.map_toArray, List.map_cons, List.map_nil]); first | done | rfl | (simp only [List.length_drop, List.length_take]; rfl)) ?_; (with_reducible refine (laws_zzFits5.calls k1 _ _ (rd_L1 l0 x10_1) false _ ?side1 ?side2 A6.out).mono ?_); (case side1 => repeat (first | exact HR102_0.out | (with_reducible refine Kd.C_alloc ?_ _) | (with_reducible refine Kd.C_drewN ?_ _) | (with_reducible refine Kd.C_drew ?_))); (case side2 => exact HC102_0.out); rintro e w' ⟨rfl, ⟨nd, rfl⟩⟩; refine ⟨_, rfl, ?_⟩))
                go_ret
                exact ⟨by first | rfl | (simp; done) | (simp [*]; done), by repeat (first | exact Drawn0.refl _ | apply Drawn0.step)⟩
            · rw [if_neg c5] at H
              exact absurd H (by simp)
          · rw [if_neg c4] at H
            exact absurd H (by simp)
        · rw [if_neg c3] at H
          have c3b0 : decide (x10_1 < (l0.length : Int)) = false := decide_eq_false c3
          clear c3
          obtain rfl := Option.some.inj H
          go_wp2
          go_ret
          exact ⟨by first | rfl | (simp; done) | (simp [*]; done), by repeat (first | exact Drawn0.refl _ | apply Drawn0.step)⟩
/-! ### laws_empty29: function 7 -/
def laws_empty29.l0 : Nat → List ByteArray → Int → Int → Option (Bool)
  | 0, _, _, _ => none
  | k + 1, x5, x6, x7 => if x7 < x6 then (if 0 ≤ x7 then (if x7 < (x5.length : Int) then (if (rdOf ByteArray.empty x5 x7).toList = ([] : List UInt8) then (laws_empty29.l0 k x5 x6 (wrap64 (x7 + 1))) else (some false)) else (none)) else (none)) else (some true)
def laws_empty29.f (k : Nat) (l0 : List ByteArray) : Option (Bool) := laws_empty29.l0 k l0 (l0.length : Int) 0
theorem laws_empty29.mono_l : ∀ k, (∀ y0 y1 y2, LeO (laws_empty29.l0 k y0 y1 y2) (laws_empty29.l0 (k + 1) y0 y1 y2))
  | 0 => fun _ _ _ r h => by simp [laws_empty29.l0] at h
  | k + 1 => by
    have ih0 := laws_empty29.mono_l k
    · intro y0 y1 y2
      unfold laws_empty29.l0
      repeat' first
      | (with_reducible exact ih0 _ _ _)
      | (with_reducible exact LeO.refl _)
      | (with_reducible exact LeO.none _)
      | (with_reducible refine LeO.ite ?_ ?_)
      | (with_reducible refine LeO.bind ?_ (fun _ => ?_))
      | exact ih0 _ _ _
      | exact LeO.none _
      | refine LeO.ite ?_ ?_
      | refine LeO.bind ?_ (fun _ => ?_)
theorem laws_empty29.mono : ∀ a0 k, LeO (laws_empty29.f k a0) (laws_empty29.f (k + 1) a0) := by
  intro a0 k
  have ih0 := laws_empty29.mono_l k
  unfold laws_empty29.f
  repeat' first
      | (with_reducible exact ih0 _ _ _)
      | (with_reducible exact LeO.refl _)
      | (with_reducible exact LeO.none _)
      | (with_reducible refine LeO.ite ?_ ?_)
      | (with_reducible refine LeO.bind ?_ (fun _ => ?_))
      | exact ih0 _ _ _
      | exact LeO.none _
      | refine LeO.ite ?_ ?_
      | refine LeO.bind ?_ (fun _ => ?_)
set_option maxHeartbeats 8000000 in
set_option maxRecDepth 100000 in
theorem laws_empty29.calls (k : Nat) (A0 : Option Addr) (c0 : Nat) (l0 : List ByteArray) (r : Bool) (w : World) (hr0 : Kd.C Kd.string w A0 l0.length l0) (hc0 : l0.length ≤ c0) (h : laws_empty29.f k l0 = some r) :
    Calls Try.prog 7 #[.slice A0 l0.length c0] w fun e w' => e = .returned (.bool r) ∧ Drawn0 w w' := by
  have HR0 := Aside0.mk hr0
  have HC0 := Aside0.mk hc0
  clear hr0 hc0
  have H : (laws_empty29.l0 k l0 (l0.length : Int) 0) = some r := h
  clear h
  have H' := Aside0.mk H
  clear H
  go_enter Try.func7, Try.ntmps7
  go_wp2
  go_loopg [7] k (fun kq v7 w' => ∃ (x7_1 : Int), v7 = .int .i64 x7_1 ∧ Aside0 (laws_empty29.l0 kq l0 (l0.length : Int) x7_1 = some r) ∧ Aside0 (kq ≤ k) ∧ Drawn0 w w')
  case atStart => exact ⟨(0), (by first | rfl | (simp; done) | (simp [*]; done)), H', ⟨Nat.le_refl _⟩, by repeat (first | exact Drawn0.refl _ | apply Drawn0.step)⟩
  case round =>
    clear H'
    obtain ⟨x7_1, rfl, HA, HK1, ⟨m1, rfl⟩⟩ := hrel
    cases gk with
    | zero => exact absurd HA.out (by simp [laws_empty29.l0])
    | succ k1 =>
      have H := HA.out
      clear HA
      simp only [laws_empty29.l0] at H
      by_cases c2 : x7_1 < (l0.length : Int)
      · rw [if_pos c2] at H
        have c2b0 : decide (x7_1 < (l0.length : Int)) = true := decide_eq_true c2
        clear c2
        by_cases c3 : 0 ≤ x7_1
        · rw [if_pos c3] at H
          have c3b0 : decide (0 ≤ x7_1) = true := decide_eq_true c3
          clear c3
          by_cases c4 : x7_1 < (l0.length : Int)
          · rw [if_pos c4] at H
            have c4b0 : decide (x7_1 < (l0.length : Int)) = true := decide_eq_true c4
            clear c4
            by_cases c5 : (rdOf ByteArray.empty l0 x7_1).toList = ([] : List UInt8)
            · rw [if_pos c5] at H
              have c5b0 : ((rdOf ByteArray.empty l0 x7_1).toList == ([] : List UInt8)) = true := beq_iff_eq.mpr c5
              have c5b1 : ((rdOf ByteArray.empty l0 x7_1).toList != ([] : List UInt8)) = false := bne_eq_false_iff_eq.mpr c5
              clear c5
              have H' := Aside0.mk H
              clear H
              have p104 : 0 ≤ (x7_1 : Int) := of_decide_eq_true (by first | (with_reducible assumption) | assumption)
              have q104 : x7_1 < (l0.length : Int) := of_decide_eq_true (by first | (with_reducible assumption) | assumption)
              obtain ⟨ad104, e104, hx104_0⟩ := Kd.at_string HR0.out x7_1 p104 q104
              cases e104
              replace p104 := eq_true p104
              replace q104 := eq_true q104
              go_wp2
              go_roundg k1
              case measure => have := HK1.out; omega
              case rel => exact ⟨(wrap64 (x7_1 + 1)), (by first | rfl | (simp; done) | (simp [*]; done)), H', ⟨by have := HK1.out; omega⟩, by repeat (first | exact Drawn0.refl _ | apply Drawn0.step)⟩
            · rw [if_neg c5] at H
              have c5b0 : ((rdOf ByteArray.empty l0 x7_1).toList == ([] : List UInt8)) = false := beq_eq_false_iff_ne.mpr c5
              have c5b1 : ((rdOf ByteArray.empty l0 x7_1).toList != ([] : List UInt8)) = true := bne_iff_ne.mpr c5
              obtain rfl := Option.some.inj H
              have p104 : 0 ≤ (x7_1 : Int) := of_decide_eq_true (by first | (with_reducible assumption) | assumption)
              have q104 : x7_1 < (l0.length : Int) := of_decide_eq_true (by first | (with_reducible assumption) | assumption)
              obtain ⟨ad104, e104, hx104_0⟩ := Kd.at_string HR0.out x7_1 p104 q104
              cases e104
              replace p104 := eq_true p104
              replace q104 := eq_true q104
              go_wp2
              go_ret
              exact ⟨by first | rfl | (simp; done) | (simp [*]; done), by repeat (first | exact Drawn0.refl _ | apply Drawn0.step)⟩
          · rw [if_neg c4] at H
            exact absurd H (by simp)
        · rw [if_neg c3] at H
          exact absurd H (by simp)
      · rw [if_neg c2] at H
        have c2b0 : decide (x7_1 < (l0.length : Int)) = false := decide_eq_false c2
        clear c2
        obtain rfl := Option.some.inj H
        go_wp2
        go_ret
        exact ⟨by first | rfl | (simp; done) | (simp [*]; done), by repeat (first | exact Drawn0.refl _ | apply Drawn0.step)⟩
/-! ### laws_same29: function 18 -/
def laws_same29.l0 : Nat → List ByteArray → List ByteArray → Int → Int → Option (Bool)
  | 0, _, _, _, _ => none
  | k + 1, x0, x1, x12, x13 => if x13 < x12 then (if 0 ≤ x13 then (if x13 < (x0.length : Int) then (if x13 < (x1.length : Int) then (if (rdOf ByteArray.empty x0 x13).toList = (rdOf ByteArray.empty x1 x13).toList then (laws_same29.l0 k x0 x1 x12 (wrap64 (x13 + 1))) else (some false)) else (none)) else (none)) else (none)) else (some true)
def laws_same29.f (k : Nat) (l0 : List ByteArray) (l1 : List ByteArray) : Option (Bool) := if (l0.length : Int) = (l1.length : Int) then (laws_same29.l0 k l0 l1 (l0.length : Int) 0) else (some false)
theorem laws_same29.mono_l : ∀ k, (∀ y0 y1 y2 y3, LeO (laws_same29.l0 k y0 y1 y2 y3) (laws_same29.l0 (k + 1) y0 y1 y2 y3))
  | 0 => fun _ _ _ _ r h => by simp [laws_same29.l0] at h
  | k + 1 => by
    have ih0 := laws_same29.mono_l k
    · intro y0 y1 y2 y3
      unfold laws_same29.l0
      repeat' first
      | (with_reducible exact ih0 _ _ _ _)
      | (with_reducible exact LeO.refl _)
      | (with_reducible exact LeO.none _)
      | (with_reducible refine LeO.ite ?_ ?_)
      | (with_reducible refine LeO.bind ?_ (fun _ => ?_))
      | exact ih0 _ _ _ _
      | exact LeO.none _
      | refine LeO.ite ?_ ?_
      | refine LeO.bind ?_ (fun _ => ?_)
theorem laws_same29.mono : ∀ a0 a1 k, LeO (laws_same29.f k a0 a1) (laws_same29.f (k + 1) a0 a1) := by
  intro a0 a1 k
  have ih0 := laws_same29.mono_l k
  unfold laws_same29.f
  repeat' first
      | (with_reducible exact ih0 _ _ _ _)
      | (with_reducible exact LeO.refl _)
      | (with_reducible exact LeO.none _)
      | (with_reducible refine LeO.ite ?_ ?_)
      | (with_reducible refine LeO.bind ?_ (fun _ => ?_))
      | exact ih0 _ _ _ _
      | exact LeO.none _
      | refine LeO.ite ?_ ?_
      | refine LeO.bind ?_ (fun _ => ?_)
set_option maxHeartbeats 8000000 in
set_option maxRecDepth 100000 in
theorem laws_same29.calls (k : Nat) (A0 : Option Addr) (c0 : Nat) (l0 : List ByteArray) (A1 : Option Addr) (c1 : Nat) (l1 : List ByteArray) (r : Bool) (w : World) (hr0 : Kd.C Kd.string w A0 l0.length l0) (hc0 : l0.length ≤ c0) (hr1 : Kd.C Kd.string w A1 l1.length l1) (hc1 : l1.length ≤ c1) (h : laws_same29.f k l0 l1 = some r) :
    Calls Try.prog 18 #[.slice A0 l0.length c0, .slice A1 l1.length c1] w fun e w' => e = .returned (.bool r) ∧ Drawn0 w w' := by
  have HR0 := Aside0.mk hr0
  have HC0 := Aside0.mk hc0
  clear hr0 hc0
  have HR1 := Aside0.mk hr1
  have HC1 := Aside0.mk hc1
  clear hr1 hc1
  have H : (if (l0.length : Int) = (l1.length : Int) then (laws_same29.l0 k l0 l1 (l0.length : Int) 0) else (some false)) = some r := h
  clear h
  by_cases c3 : (l0.length : Int) = (l1.length : Int)
  · rw [if_pos c3] at H
    have c3b0 : ((l0.length : Int) == (l1.length : Int)) = true := beq_iff_eq.mpr c3
    have c3b1 : ((l0.length : Int) != (l1.length : Int)) = false := bne_eq_false_iff_eq.mpr c3
    have c3b2 : (l0.length == l1.length) = true := by first | simpa using c3 | (simp at c3 ⊢; omega)
    clear c3
    have H' := Aside0.mk H
    clear H
    go_enter Try.func18, Try.ntmps18
    go_wp2
    repeat (go_quiet (fail); try go_wp2)
    go_loopg [13] k (fun kq v13 w' => ∃ (x13_1 : Int), v13 = .int .i64 x13_1 ∧ Aside0 (laws_same29.l0 kq l0 l1 (l0.length : Int) x13_1 = some r) ∧ Aside0 (kq ≤ k) ∧ Drawn0 w w')
    case atStart => exact ⟨(0), (by first | rfl | (simp; done) | (simp [*]; done)), H', ⟨Nat.le_refl _⟩, by repeat (first | exact Drawn0.refl _ | apply Drawn0.step)⟩
    case round =>
      clear H'
      try clear c1
      try clear p2
      try clear c3
      try clear c3b0
      try clear c3b1
      try clear c3b2
      obtain ⟨x13_1, rfl, HA, HK1, ⟨m1, rfl⟩⟩ := hrel
      cases gk with
      | zero => exact absurd HA.out (by simp [laws_same29.l0])
      | succ k1 =>
        have H := HA.out
        clear HA
        simp only [laws_same29.l0] at H
        by_cases c4 : x13_1 < (l0.length : Int)
        · rw [if_pos c4] at H
          have c4b0 : decide (x13_1 < (l0.length : Int)) = true := decide_eq_true c4
          clear c4
          by_cases c5 : 0 ≤ x13_1
          · rw [if_pos c5] at H
            have c5b0 : decide (0 ≤ x13_1) = true := decide_eq_true c5
            clear c5
            by_cases c6 : x13_1 < (l0.length : Int)
            · rw [if_pos c6] at H
              have c6b0 : decide (x13_1 < (l0.length : Int)) = true := decide_eq_true c6
              clear c6
              by_cases c7 : x13_1 < (l1.length : Int)
              · rw [if_pos c7] at H
                have c7b0 : decide (x13_1 < (l1.length : Int)) = true := decide_eq_true c7
                clear c7
                by_cases c8 : (rdOf ByteArray.empty l0 x13_1).toList = (rdOf ByteArray.empty l1 x13_1).toList
                · rw [if_pos c8] at H
                  have c8b0 : ((rdOf ByteArray.empty l0 x13_1).toList == (rdOf ByteArray.empty l1 x13_1).toList) = true := beq_iff_eq.mpr c8
                  have c8b1 : ((rdOf ByteArray.empty l0 x13_1).toList != (rdOf ByteArray.empty l1 x13_1).toList) = false := bne_eq_false_iff_eq.mpr c8
                  clear c8
                  have H' := Aside0.mk H
                  clear H
                  have p105 : 0 ≤ (x13_1 : Int) := of_decide_eq_true (by first | (with_reducible assumption) | assumption)
                  have q105 : x13_1 < (l0.length : Int) := of_decide_eq_true (by first | (with_reducible assumption) | assumption)
                  obtain ⟨ad105, e105, hx105_0⟩ := Kd.at_string HR0.out x13_1 p105 q105
                  cases e105
                  replace p105 := eq_true p105
                  replace q105 := eq_true q105
                  have p106 : 0 ≤ (x13_1 : Int) := of_decide_eq_true (by first | (with_reducible assumption) | assumption)
                  have q106 : x13_1 < (l1.length : Int) := of_decide_eq_true (by first | (with_reducible assumption) | assumption)
                  obtain ⟨ad106, e106, hx106_0⟩ := Kd.at_string HR1.out x13_1 p106 q106
                  cases e106
                  replace p106 := eq_true p106
                  replace q106 := eq_true q106
                  go_wp2
                  repeat (go_quiet (fail); try go_wp2)
                  go_roundg k1
                  case measure => have := HK1.out; omega
                  case rel => exact ⟨(wrap64 (x13_1 + 1)), (by first | rfl | (simp; done) | (simp [*]; done)), H', ⟨by have := HK1.out; omega⟩, by repeat (first | exact Drawn0.refl _ | apply Drawn0.step)⟩
                · rw [if_neg c8] at H
                  have c8b0 : ((rdOf ByteArray.empty l0 x13_1).toList == (rdOf ByteArray.empty l1 x13_1).toList) = false := beq_eq_false_iff_ne.mpr c8
                  have c8b1 : ((rdOf ByteArray.empty l0 x13_1).toList != (rdOf ByteArray.empty l1 x13_1).toList) = true := bne_iff_ne.mpr c8
                  obtain rfl := Option.some.inj H
                  have p105 : 0 ≤ (x13_1 : Int) := of_decide_eq_true (by first | (with_reducible assumption) | assumption)
                  have q105 : x13_1 < (l0.length : Int) := of_decide_eq_true (by first | (with_reducible assumption) | assumption)
                  obtain ⟨ad105, e105, hx105_0⟩ := Kd.at_string HR0.out x13_1 p105 q105
                  cases e105
                  replace p105 := eq_true p105
                  replace q105 := eq_true q105
                  have p106 : 0 ≤ (x13_1 : Int) := of_decide_eq_true (by first | (with_reducible assumption) | assumption)
                  have q106 : x13_1 < (l1.length : Int) := of_decide_eq_true (by first | (with_reducible assumption) | assumption)
                  obtain ⟨ad106, e106, hx106_0⟩ := Kd.at_string HR1.out x13_1 p106 q106
                  cases e106
                  replace p106 := eq_true p106
                  replace q106 := eq_true q106
                  go_wp2
                  repeat (go_quiet (fail); try go_wp2)
                  go_ret
                  exact ⟨by first | rfl | (simp; done) | (simp [*]; done), by repeat (first | exact Drawn0.refl _ | apply Drawn0.step)⟩
              · rw [if_neg c7] at H
                exact absurd H (by simp)
            · rw [if_neg c6] at H
              exact absurd H (by simp)
          · rw [if_neg c5] at H
            exact absurd H (by simp)
        · rw [if_neg c4] at H
          have c4b0 : decide (x13_1 < (l0.length : Int)) = false := decide_eq_false c4
          clear c4
          obtain rfl := Option.some.inj H
          go_wp2
          repeat (go_quiet (fail); try go_wp2)
          go_ret
          exact ⟨by first | rfl | (simp; done) | (simp [*]; done), by repeat (first | exact Drawn0.refl _ | apply Drawn0.step)⟩
  · rw [if_neg c3] at H
    have c3b0 : ((l0.length : Int) == (l1.length : Int)) = false := beq_eq_false_iff_ne.mpr c3
    have c3b1 : ((l0.length : Int) != (l1.length : Int)) = true := bne_iff_ne.mpr c3
    have c3b2 : (l0.length == l1.length) = false := by first | simpa using c3 | (simp at c3 ⊢; omega)
    obtain rfl := Option.some.inj H
    go_enter Try.func18, Try.ntmps18
    go_wp2
    repeat (go_quiet (fail); try go_wp2)
    go_ret
    exact ⟨by first | rfl | (simp; done) | (simp [*]; done), by repeat (first | exact Drawn0.refl _ | apply Drawn0.step)⟩
/-! ### laws_alike29: function 8 -/
def laws_alike29.l0 : Nat → List (List ByteArray) → List (List ByteArray) → Int → Int → Option (Bool)
  | 0, _, _, _, _ => none
  | k + 1, x0, x1, x12, x13 => if x13 < x12 then (if 0 ≤ x13 then (if x13 < (x0.length : Int) then (if x13 < (x1.length : Int) then ((laws_same29.f k (rd_L1 x0 x13) (rd_L1 x1 x13)).bind fun t109 => (if t109 = true then (laws_alike29.l0 k x0 x1 x12 (wrap64 (x13 + 1))) else (some false))) else (none)) else (none)) else (none)) else (some true)
def laws_alike29.f (k : Nat) (l0 : List (List ByteArray)) (l1 : List (List ByteArray)) : Option (Bool) := if (l0.length : Int) = (l1.length : Int) then (laws_alike29.l0 k l0 l1 (l0.length : Int) 0) else (some false)
theorem laws_alike29.mono_l : ∀ k, (∀ y0 y1 y2 y3, LeO (laws_alike29.l0 k y0 y1 y2 y3) (laws_alike29.l0 (k + 1) y0 y1 y2 y3))
  | 0 => fun _ _ _ _ r h => by simp [laws_alike29.l0] at h
  | k + 1 => by
    have ih0 := laws_alike29.mono_l k
    · intro y0 y1 y2 y3
      unfold laws_alike29.l0
      repeat' first
      | (with_reducible exact ih0 _ _ _ _)
      | (with_reducible exact laws_same29.mono _ _ _)
      | (with_reducible exact LeO.refl _)
      | (with_reducible exact LeO.none _)
      | (with_reducible refine LeO.ite ?_ ?_)
      | (with_reducible refine LeO.bind ?_ (fun _ => ?_))
      | exact ih0 _ _ _ _
      | exact laws_same29.mono _ _ _
      | exact LeO.none _
      | refine LeO.ite ?_ ?_
      | refine LeO.bind ?_ (fun _ => ?_)
theorem laws_alike29.mono : ∀ a0 a1 k, LeO (laws_alike29.f k a0 a1) (laws_alike29.f (k + 1) a0 a1) := by
  intro a0 a1 k
  have ih0 := laws_alike29.mono_l k
  unfold laws_alike29.f
  repeat' first
      | (with_reducible exact ih0 _ _ _ _)
      | (with_reducible exact laws_same29.mono _ _ _)
      | (with_reducible exact LeO.refl _)
      | (with_reducible exact LeO.none _)
      | (with_reducible refine LeO.ite ?_ ?_)
      | (with_reducible refine LeO.bind ?_ (fun _ => ?_))
      | exact ih0 _ _ _ _
      | exact laws_same29.mono _ _ _
      | exact LeO.none _
      | refine LeO.ite ?_ ?_
      | refine LeO.bind ?_ (fun _ => ?_)
set_option maxHeartbeats 8000000 in
set_option maxRecDepth 100000 in
theorem laws_alike29.calls (k : Nat) (A0 : Option Addr) (c0 : Nat) (l0 : List (List ByteArray)) (A1 : Option Addr) (c1 : Nat) (l1 : List (List ByteArray)) (r : Bool) (w : World) (hr0 : Kd.C (Kd.slice 9 Kd.string) w A0 l0.length l0) (hc0 : l0.length ≤ c0) (hr1 : Kd.C (Kd.slice 9 Kd.string) w A1 l1.length l1) (hc1 : l1.length ≤ c1) (h : laws_alike29.f k l0 l1 = some r) :
    Calls Try.prog 8 #[.slice A0 l0.length c0, .slice A1 l1.length c1] w fun e w' => e = .returned (.bool r) ∧ Drawn0 w w' := by
  have HR0 := Aside0.mk hr0
  have HC0 := Aside0.mk hc0
  clear hr0 hc0
  have HR1 := Aside0.mk hr1
  have HC1 := Aside0.mk hc1
  clear hr1 hc1
  have H : (if (l0.length : Int) = (l1.length : Int) then (laws_alike29.l0 k l0 l1 (l0.length : Int) 0) else (some false)) = some r := h
  clear h
  by_cases c3 : (l0.length : Int) = (l1.length : Int)
  · rw [if_pos c3] at H
    have c3b0 : ((l0.length : Int) == (l1.length : Int)) = true := beq_iff_eq.mpr c3
    have c3b1 : ((l0.length : Int) != (l1.length : Int)) = false := bne_eq_false_iff_eq.mpr c3
    have c3b2 : (l0.length == l1.length) = true := by first | simpa using c3 | (simp at c3 ⊢; omega)
    clear c3
    have H' := Aside0.mk H
    clear H
    go_enter Try.func8, Try.ntmps8
    go_wp2
    repeat (go_quiet (fail); try go_wp2)
    go_loopg [13] k (fun kq v13 w' => ∃ (x13_1 : Int), v13 = .int .i64 x13_1 ∧ Aside0 (laws_alike29.l0 kq l0 l1 (l0.length : Int) x13_1 = some r) ∧ Aside0 (kq ≤ k) ∧ Drawn0 w w')
    case atStart => exact ⟨(0), (by first | rfl | (simp; done) | (simp [*]; done)), H', ⟨Nat.le_refl _⟩, by repeat (first | exact Drawn0.refl _ | apply Drawn0.step)⟩
    case round =>
      clear H'
      try clear c1
      try clear p2
      try clear c3
      try clear c3b0
      try clear c3b1
      try clear c3b2
      obtain ⟨x13_1, rfl, HA, HK1, ⟨m1, rfl⟩⟩ := hrel
      cases gk with
      | zero => exact absurd HA.out (by simp [laws_alike29.l0])
      | succ k1 =>
        have H := HA.out
        clear HA
        simp only [laws_alike29.l0] at H
        by_cases c4 : x13_1 < (l0.length : Int)
        · rw [if_pos c4] at H
          have c4b0 : decide (x13_1 < (l0.length : Int)) = true := decide_eq_true c4
          clear c4
          by_cases c5 : 0 ≤ x13_1
          · rw [if_pos c5] at H
            have c5b0 : decide (0 ≤ x13_1) = true := decide_eq_true c5
            clear c5
            by_cases c6 : x13_1 < (l0.length : Int)
            · rw [if_pos c6] at H
              have c6b0 : decide (x13_1 < (l0.length : Int)) = true := decide_eq_true c6
              clear c6
              by_cases c7 : x13_1 < (l1.length : Int)
              · rw [if_pos c7] at H
                have c7b0 : decide (x13_1 < (l1.length : Int)) = true := decide_eq_true c7
                clear c7
                replace H := Option.bind_eq_some_iff.mp H
                obtain ⟨t109, A80, H⟩ := H
                replace H : (if t109 = true then (laws_alike29.l0 k1 l0 l1 (l0.length : Int) (wrap64 (x13_1 + 1))) else (some false)) = some r := H
                have A8 := Aside0.mk A80
                clear A80
                by_cases c9 : t109 = true
                · subst c9
                  have H1 : (laws_alike29.l0 k1 l0 l1 (l0.length : Int) (wrap64 (x13_1 + 1))) = some r := by rw [if_pos rfl] at H; exact H
                  clear H
                  have H := H1
                  clear H1
                  have H' := Aside0.mk H
                  clear H
                  have p107 : 0 ≤ (x13_1 : Int) := of_decide_eq_true (by first | (with_reducible assumption) | assumption)
                  have q107 : x13_1 < (l0.length : Int) := of_decide_eq_true (by first | (with_reducible assumption) | assumption)
                  obtain ⟨ad107, A107_0, c107_0, e107, hx107_0, hl107_0, hi107_0⟩ := at_L1 HR0.out x13_1 p107 q107
                  cases e107
                  have HR107_0 := Aside0.mk hi107_0
                  have HC107_0 := Aside0.mk hl107_0
                  clear hi107_0 hl107_0
                  replace p107 := eq_true p107
                  replace q107 := eq_true q107
                  have p108 : 0 ≤ (x13_1 : Int) := of_decide_eq_true (by first | (with_reducible assumption) | assumption)
                  have q108 : x13_1 < (l1.length : Int) := of_decide_eq_true (by first | (with_reducible assumption) | assumption)
                  obtain ⟨ad108, A108_0, c108_0, e108, hx108_0, hl108_0, hi108_0⟩ := at_L1 HR1.out x13_1 p108 q108
                  cases e108
                  have HR108_0 := Aside0.mk hi108_0
                  have HC108_0 := Aside0.mk hl108_0
                  clear hi108_0 hl108_0
                  replace p108 := eq_true p108
                  replace q108 := eq_true q108
                  go_wp2_with (first | (go_at_call 18; (with_reducible refine (laws_same29.calls k1 _ _ (rd_L1 l0 x13_1) _ _ (rd_L1 l1 x13_1) true _ ?side1 ?side2 ?side3 ?side4 A8.out).mono ?_); (case side1 => repeat (first | exact HR107_0.out | (with_reducible refine Kd.C_alloc ?_ _) | (with_reducible refine Kd.C_drewN ?_ _) | (with_reducible refine Kd.C_drew ?_))); (case side2 => exact HC107_0.out); (case side3 => repeat (first | exact HR108_0.out | (with_reducible refine Kd.C_alloc ?_ _) | (with_reducible refine Kd.C_drewN ?_ _) | (with_reducible refine Kd.C_drew ?_))); (case side4 => exact HC108_0.out); rintro e w' ⟨rfl, ⟨nd, rfl⟩⟩; (try first | exact ⟨rfl, _, World.drewN_drewN _ _ _⟩ | exact ⟨rfl, _, Eq.trans (World.drewN_drewN _ _ _) (congrArg (World.drewN _) (Nat.add_assoc _ _ _))⟩)))
                  repeat (go_quiet (first | (go_at_call 18; (with_reducible refine (laws_same29.calls k1 _ _ (rd_L1 l0 x13_1) _ _ (rd_L1 l1 x13_1) true _ ?side1 ?side2 ?side3 ?side4 A8.out).mono ?_); (case side1 => repeat (first | exact HR107_0.out | (with_reducible refine Kd.C_alloc ?_ _) | (with_reducible refine Kd.C_drewN ?_ _) | (with_reducible refine Kd.C_drew ?_))); (case side2 => exact HC107_0.out); (case side3 => repeat (first | exact HR108_0.out | (with_reducible refine Kd.C_alloc ?_ _) | (with_reducible refine Kd.C_drewN ?_ _) | (with_reducible refine Kd.C_drew ?_))); (case side4 => exact HC108_0.out); rintro e w' ⟨rfl, ⟨nd, rfl⟩⟩; (try first | exact ⟨rfl, _, World.drewN_drewN _ _ _⟩ | exact ⟨rfl, _, Eq.trans (World.drewN_drewN _ _ _) (congrArg (World.drewN _) (Nat.add_assoc _ _ _))⟩))); try go_wp2_with (first | (go_at_call 18; (with_reducible refine (laws_same29.calls k1 _ _ (rd_L1 l0 x13_1) _ _ (rd_L1 l1 x13_1) true _ ?side1 ?side2 ?side3 ?side4 A8.out).mono ?_); (case side1 => repeat (first | exact HR107_0.out | (with_reducible refine Kd.C_alloc ?_ _) | (with_reducible refine Kd.C_drewN ?_ _) | (with_reducible refine Kd.C_drew ?_))); (case side2 => exact HC107_0.out); (case side3 => repeat (first | exact HR108_0.out | (with_reducible refine Kd.C_alloc ?_ _) | (with_reducible refine Kd.C_drewN ?_ _) | (with_reducible refine Kd.C_drew ?_))); (case side4 => exact HC108_0.out); rintro e w' ⟨rfl, ⟨nd, rfl⟩⟩; (try first | exact ⟨rfl, _, World.drewN_drewN _ _ _⟩ | exact ⟨rfl, _, Eq.trans (World.drewN_drewN _ _ _) (congrArg (World.drewN _) (Nat.add_assoc _ _ _))⟩))))
                  go_roundg k1
                  case measure => have := HK1.out; omega
                  case rel => exact ⟨(wrap64 (x13_1 + 1)), (by first | rfl | (simp; done) | (simp [*]; done)), H', ⟨by have := HK1.out; omega⟩, by repeat (first | exact Drawn0.refl _ | apply Drawn0.step)⟩
                · replace c9 := Bool.eq_false_iff.mpr c9
                  subst c9
                  have H1 : (some false) = some r := by rw [if_neg (show ¬ (false = true) by decide)] at H; exact H
                  clear H
                  have H := H1
                  clear H1
                  obtain rfl := Option.some.inj H
                  have p107 : 0 ≤ (x13_1 : Int) := of_decide_eq_true (by first | (with_reducible assumption) | assumption)
                  have q107 : x13_1 < (l0.length : Int) := of_decide_eq_true (by first | (with_reducible assumption) | assumption)
                  obtain ⟨ad107, A107_0, c107_0, e107, hx107_0, hl107_0, hi107_0⟩ := at_L1 HR0.out x13_1 p107 q107
                  cases e107
                  have HR107_0 := Aside0.mk hi107_0
                  have HC107_0 := Aside0.mk hl107_0
                  clear hi107_0 hl107_0
                  replace p107 := eq_true p107
                  replace q107 := eq_true q107
                  have p108 : 0 ≤ (x13_1 : Int) := of_decide_eq_true (by first | (with_reducible assumption) | assumption)
                  have q108 : x13_1 < (l1.length : Int) := of_decide_eq_true (by first | (with_reducible assumption) | assumption)
                  obtain ⟨ad108, A108_0, c108_0, e108, hx108_0, hl108_0, hi108_0⟩ := at_L1 HR1.out x13_1 p108 q108
                  cases e108
                  have HR108_0 := Aside0.mk hi108_0
                  have HC108_0 := Aside0.mk hl108_0
                  clear hi108_0 hl108_0
                  replace p108 := eq_true p108
                  replace q108 := eq_true q108
                  go_wp2_with (first | (go_at_call 18; (with_reducible refine (laws_same29.calls k1 _ _ (rd_L1 l0 x13_1) _ _ (rd_L1 l1 x13_1) false _ ?side1 ?side2 ?side3 ?side4 A8.out).mono ?_); (case side1 => repeat (first | exact HR107_0.out | (with_reducible refine Kd.C_alloc ?_ _) | (with_reducible refine Kd.C_drewN ?_ _) | (with_reducible refine Kd.C_drew ?_))); (case side2 => exact HC107_0.out); (case side3 => repeat (first | exact HR108_0.out | (with_reducible refine Kd.C_alloc ?_ _) | (with_reducible refine Kd.C_drewN ?_ _) | (with_reducible refine Kd.C_drew ?_))); (case side4 => exact HC108_0.out); rintro e w' ⟨rfl, ⟨nd, rfl⟩⟩; (try first | exact ⟨rfl, _, World.drewN_drewN _ _ _⟩ | exact ⟨rfl, _, Eq.trans (World.drewN_drewN _ _ _) (congrArg (World.drewN _) (Nat.add_assoc _ _ _))⟩)))
                  repeat (go_quiet (first | (go_at_call 18; (with_reducible refine (laws_same29.calls k1 _ _ (rd_L1 l0 x13_1) _ _ (rd_L1 l1 x13_1) false _ ?side1 ?side2 ?side3 ?side4 A8.out).mono ?_); (case side1 => repeat (first | exact HR107_0.out | (with_reducible refine Kd.C_alloc ?_ _) | (with_reducible refine Kd.C_drewN ?_ _) | (with_reducible refine Kd.C_drew ?_))); (case side2 => exact HC107_0.out); (case side3 => repeat (first | exact HR108_0.out | (with_reducible refine Kd.C_alloc ?_ _) | (with_reducible refine Kd.C_drewN ?_ _) | (with_reducible refine Kd.C_drew ?_))); (case side4 => exact HC108_0.out); rintro e w' ⟨rfl, ⟨nd, rfl⟩⟩; (try first | exact ⟨rfl, _, World.drewN_drewN _ _ _⟩ | exact ⟨rfl, _, Eq.trans (World.drewN_drewN _ _ _) (congrArg (World.drewN _) (Nat.add_assoc _ _ _))⟩))); try go_wp2_with (first | (go_at_call 18; (with_reducible refine (laws_same29.calls k1 _ _ (rd_L1 l0 x13_1) _ _ (rd_L1 l1 x13_1) false _ ?side1 ?side2 ?side3 ?side4 A8.out).mono ?_); (case side1 => repeat (first | exact HR107_0.out | (with_reducible refine Kd.C_alloc ?_ _) | (with_reducible refine Kd.C_drewN ?_ _) | (with_reducible refine Kd.C_drew ?_))); (case side2 => exact HC107_0.out); (case side3 => repeat (first | exact HR108_0.out | (with_reducible refine Kd.C_alloc ?_ _) | (with_reducible refine Kd.C_drewN ?_ _) | (with_reducible refine Kd.C_drew ?_))); (case side4 => exact HC108_0.out); rintro e w' ⟨rfl, ⟨nd, rfl⟩⟩; (try first | exact ⟨rfl, _, World.drewN_drewN _ _ _⟩ | exact ⟨rfl, _, Eq.trans (World.drewN_drewN _ _ _) (congrArg (World.drewN _) (Nat.add_assoc _ _ _))⟩))))
                  go_ret
                  exact ⟨by first | rfl | (simp; done) | (simp [*]; done), by repeat (first | exact Drawn0.refl _ | apply Drawn0.step)⟩
              · rw [if_neg c7] at H
                exact absurd H (by simp)
            · rw [if_neg c6] at H
              exact absurd H (by simp)
          · rw [if_neg c5] at H
            exact absurd H (by simp)
        · rw [if_neg c4] at H
          have c4b0 : decide (x13_1 < (l0.length : Int)) = false := decide_eq_false c4
          clear c4
          obtain rfl := Option.some.inj H
          go_wp2
          repeat (go_quiet (fail); try go_wp2)
          go_ret
          exact ⟨by first | rfl | (simp; done) | (simp [*]; done), by repeat (first | exact Drawn0.refl _ | apply Drawn0.step)⟩
  · rw [if_neg c3] at H
    have c3b0 : ((l0.length : Int) == (l1.length : Int)) = false := beq_eq_false_iff_ne.mpr c3
    have c3b1 : ((l0.length : Int) != (l1.length : Int)) = true := bne_iff_ne.mpr c3
    have c3b2 : (l0.length == l1.length) = false := by first | simpa using c3 | (simp at c3 ⊢; omega)
    obtain rfl := Option.some.inj H
    go_enter Try.func8, Try.ntmps8
    go_wp2
    repeat (go_quiet (fail); try go_wp2)
    go_ret
    exact ⟨by first | rfl | (simp; done) | (simp [*]; done), by repeat (first | exact Drawn0.refl _ | apply Drawn0.step)⟩
end Go.Proofs.Ytfciokcielponaa.PTab

/- Plain facts on texts as lists of numbers: joined, cut, read back. No conditions. -/
namespace Go.Proofs.Ytfciokcielponaa.Txt
open Go.RowKit Go.Proofs.YtfciokcielponaaW.PrintWords Go.Proofs.YtfciokcielponaaW.PrintLast Go.Proofs.YtfciokcielponaaW.PrintMore

/-- All numbers are bytes. -/
def Byt (l : List Int) : Prop := ∀ x ∈ l, 0 ≤ x ∧ x < 256
theorem Byt.nil : Byt [] := fun _ h => by cases h
theorem Byt.app {a b : List Int} (h : Byt a) (k : Byt b) : Byt (a ++ b) := fun x hx => by
  rcases List.mem_append.1 hx with h1 | h1
  · exact h x h1
  · exact k x h1
theorem Byt.one {x : Int} (h0 : 0 ≤ x) (h1 : x < 256) : Byt [x] := fun y hy => by
  obtain rfl : y = x := by simpa using hy
  exact ⟨h0, h1⟩
theorem Byt.cons {x : Int} {l : List Int} (h0 : 0 ≤ x) (h1 : x < 256) (h : Byt l) : Byt (x :: l) := (Byt.one h0 h1).app h
theorem Byt.take {l : List Int} (h : Byt l) (n : Nat) : Byt (l.take n) := fun x hx => h x (List.mem_of_mem_take hx)
theorem Byt.drop {l : List Int} (h : Byt l) (n : Nat) : Byt (l.drop n) := fun x hx => h x (List.mem_of_mem_drop hx)
theorem Byt.of (s : ByteArray) : Byt (bytesOf s) := fun x hx => by
  obtain ⟨b, _, rfl⟩ := List.mem_map.1 hx
  have := b.toNat_lt
  omega
theorem wrap_id {x : Int} (h0 : -9223372036854775808 ≤ x) (h1 : x ≤ 9223372036854775807) : wrap64 x = x := by
  unfold wrap64
  omega
theorem toList_inj {a b : ByteArray} (h : a.toList = b.toList) : a = b := by
  rw [Lib.toList_data, Lib.toList_data] at h
  exact ByteArray.ext (Array.ext' h)
end Go.Proofs.Ytfciokcielponaa.Txt

/- What laws.zzFits5 and zzFits6 tell: whether there are fewer than 2^31 texts, rows, and bytes. For rows within a row's reach. -/
namespace Go.Proofs.Ytfciokcielponaa.PTab
open Go.Proofs.Ytfciokcielponaa.Txt Go.RowKit Go.Proofs.YtfciokcielponaaW.PrintWords Go.Proofs.YtfciokcielponaaW.PrintLast Go.Proofs.YtfciokcielponaaW.PrintMore

def Fit5 (r : List ByteArray) : Prop := r.length ≤ 2147483647 ∧ ∀ s ∈ r, s.size ≤ 2147483647
theorem rdOf_get {l : List ByteArray} {i : Nat} (h : i < l.length) : rdOf ByteArray.empty l (i : Int) = l[i] := by simp [rdOf, List.getD_eq_getElem?_getD, List.getElem?_eq_getElem h]
theorem rd_L1_get {l : List (List ByteArray)} {i : Nat} (h : i < l.length) : rd_L1 l (i : Int) = l[i] := by simp [rd_L1, List.getD_eq_getElem?_getD, List.getElem?_eq_getElem h]

theorem fits5_loop (l : List ByteArray) (hl : l.length ≤ 2147483647) (d : Nat) : ∀ (k i : Nat), i + d = l.length → ∃ b, laws_zzFits5.l0 (k + d + 1) l (l.length : Int) (i : Int) = some b ∧ (b = true → ∀ s ∈ l.drop i, s.size ≤ 2147483647) := by
  induction d with
  | zero =>
    intro k i hi
    refine ⟨true, ?_, fun _ s hs => ?_⟩
    · rw [laws_zzFits5.l0, if_neg (by omega)]
    · rw [List.drop_of_length_le (by omega)] at hs
      cases hs
  | succ d ih =>
    intro k i hi
    have hlt : i < l.length := by omega
    obtain ⟨b, h1, h2⟩ := ih k (i + 1) (by omega)
    rw [show k + (d + 1) + 1 = (k + d + 1) + 1 from by omega, laws_zzFits5.l0, if_pos (by omega), if_pos (by omega), if_pos (by omega), rdOf_get hlt]
    have hw : wrap64 ((i : Int) + 1) = ((i + 1 : Nat) : Int) := by rw [wrap_id (by omega) (by omega)]; omega
    by_cases hb : (l[i].size : Int) > 2147483647
    · rw [if_pos hb]
      exact ⟨false, rfl, fun h => by cases h⟩
    · rw [if_neg hb, hw]
      refine ⟨b, h1, fun hb' s hs => ?_⟩
      rw [List.drop_eq_getElem_cons hlt] at hs
      rcases List.mem_cons.1 hs with rfl | hs
      · omega
      · exact h2 hb' s hs
theorem fits5 (l : List ByteArray) : ∃ b, (∀ k, l.length < k → laws_zzFits5.f k l = some b) ∧ (b = true → Fit5 l) := by
  by_cases hb : (l.length : Int) > 2147483647
  · exact ⟨false, fun k hk => by unfold laws_zzFits5.f; rw [if_pos hb], fun h => by cases h⟩
  · obtain ⟨b, h1, h2⟩ := fits5_loop l (by omega) l.length 0 0 (by omega)
    have h3 : laws_zzFits5.f (l.length + 1) l = some b := by
      unfold laws_zzFits5.f
      rw [if_neg hb]
      rw [Nat.zero_add] at h1
      exact h1
    exact ⟨b, fun k hk => at_rounds (fun k => laws_zzFits5.mono _ k) (show l.length + 1 ≤ k by omega) h3, fun h => ⟨by omega, fun s hs => h2 h s (by simpa using hs)⟩⟩

def Fit6 (r : List (List ByteArray)) : Prop := r.length ≤ 2147483647 ∧ ∀ s ∈ r, Fit5 s
theorem fits6_loop (l : List (List ByteArray)) (hl : l.length ≤ 2147483647) (d : Nat) : ∀ (i : Nat), i + d = l.length → ∃ b K, (∀ k, K ≤ k → laws_zzFits6.l0 k l (l.length : Int) (i : Int) = some b) ∧ (b = true → ∀ s ∈ l.drop i, Fit5 s) := by
  induction d with
  | zero =>
    intro i hi
    refine ⟨true, 1, fun k hk => ?_, fun _ s hs => ?_⟩
    · obtain ⟨k, rfl⟩ : ∃ m, k = m + 1 := ⟨k - 1, by omega⟩
      rw [laws_zzFits6.l0, if_neg (by omega)]
    · rw [List.drop_of_length_le (by omega)] at hs
      cases hs
  | succ d ih =>
    intro i hi
    have hlt : i < l.length := by omega
    obtain ⟨b, K, h1, h2⟩ := ih (i + 1) (by omega)
    obtain ⟨b5, h3, h4⟩ := fits5 l[i]
    have hw : wrap64 ((i : Int) + 1) = ((i + 1 : Nat) : Int) := by rw [wrap_id (by omega) (by omega)]; omega
    refine ⟨b5 && b, max K (l[i].length + 1) + 1, fun k hk => ?_, fun hb s hs => ?_⟩
    · obtain ⟨k, rfl⟩ : ∃ m, k = m + 1 := ⟨k - 1, by omega⟩
      rw [laws_zzFits6.l0, if_pos (by omega), if_pos (by omega), if_pos (by omega), rd_L1_get hlt, h3 k (by omega), Option.bind_some, hw]
      cases b5 with
      | true => rw [if_pos rfl, Bool.true_and]; exact h1 k (by omega)
      | false => rfl
    · rw [Bool.and_eq_true] at hb
      rw [List.drop_eq_getElem_cons hlt] at hs
      rcases List.mem_cons.1 hs with rfl | hs
      · exact h4 hb.1
      · exact h2 hb.2 s hs
theorem fits6 (l : List (List ByteArray)) : ∃ b K, (∀ k, K ≤ k → laws_zzFits6.f k l = some b) ∧ (b = true → Fit6 l) := by
  by_cases hb : (l.length : Int) > 2147483647
  · exact ⟨false, 0, fun k hk => by unfold laws_zzFits6.f; rw [if_pos hb], fun h => by cases h⟩
  · obtain ⟨b, K, h1, h2⟩ := fits6_loop l (by omega) l.length 0 (by omega)
    refine ⟨b, K, fun k hk => ?_, fun h => ⟨by omega, fun s hs => h2 h s (by simpa using hs)⟩⟩
    unfold laws_zzFits6.f
    rw [if_neg hb]
    exact h1 k hk

end Go.Proofs.Ytfciokcielponaa.PTab

/- Facts on rows of texts: empty29, alike29, and argument rows as elements of a row of the call's own. -/
namespace Go.Proofs.Ytfciokcielponaa.PTab
open Go.RowKit Go.Proofs.YtfciokcielponaaW.PrintWords Go.Proofs.YtfciokcielponaaW.PrintLast Go.Proofs.YtfciokcielponaaW.PrintMore Go.Proofs.Ytfciokcielponaa.Cells
set_option linter.unusedVariables false
set_option linter.unusedSimpArgs false

theorem nil_size (s : ByteArray) : s.toList = [] ↔ s.size = 0 := by
  rw [ByteArray.toList_eq]
  constructor
  · intro h
    show s.data.size = 0
    rw [← Array.length_toList, h]
    rfl
  · intro h
    have h : s.data.size = 0 := h
    exact List.eq_nil_of_length_eq_zero (by rw [Array.length_toList]; exact h)
theorem empty29_ev (r : List ByteArray) (hl : r.length ≤ 4611686018427387904) : Ev (fun k => laws_empty29.f k r) (emptyS r) := by
  have key : ∀ (n j : Nat), r.length = j + n → Ev (fun k => laws_empty29.l0 k r (r.length : Int) (j : Int)) ((r.drop j).all fun c => decide (c.size = 0)) := by
    intro n
    induction n with
    | zero =>
      intro j hj
      rw [List.drop_eq_nil_of_le (by omega)]
      refine Ev.step (f := fun _ => some true) (fun k => ?_) (Ev.now _)
      simp only [laws_empty29.l0]
      rw [if_neg (by omega)]
    | succ n ih =>
      intro j hj
      have hlt : j < r.length := by omega
      rw [List.drop_eq_getElem_cons hlt, List.all_cons]
      by_cases hc : r[j].size = 0
      · refine Ev.step (fun k => ?_) (f := fun k => laws_empty29.l0 k r (r.length : Int) ((j + 1 : Nat) : Int)) ?_
        · simp only [laws_empty29.l0]
          rw [if_pos (by omega), if_pos (by omega), if_pos (by omega), rdOf_get hlt, if_pos ((nil_size _).2 hc), succ_wrap j (by omega)]
        · rw [decide_eq_true hc, Bool.true_and]
          exact ih (j + 1) (by omega)
      · refine Ev.step (f := fun _ => some false) (fun k => ?_) ?_
        · simp only [laws_empty29.l0]
          rw [if_pos (by omega), if_pos (by omega), if_pos (by omega), rdOf_get hlt, if_neg (fun h => hc ((nil_size _).1 h))]
        · rw [decide_eq_false hc, Bool.false_and]
          exact Ev.now _
  exact key r.length 0 (by omega)
theorem same29_self (r : List ByteArray) (hl : r.length ≤ 4611686018427387904) : Ev (fun k => laws_same29.f k r r) true := by
  have key : ∀ (n j : Nat), r.length = j + n → Ev (fun k => laws_same29.l0 k r r (r.length : Int) (j : Int)) true := by
    intro n
    induction n with
    | zero =>
      intro j hj
      refine Ev.step (f := fun _ => some true) (fun k => ?_) (Ev.now _)
      simp only [laws_same29.l0]
      rw [if_neg (by omega)]
    | succ n ih =>
      intro j hj
      refine Ev.step (fun k => ?_) (ih (j + 1) (by omega))
      simp only [laws_same29.l0]
      rw [if_pos (by omega), if_pos (by omega), if_pos (by omega), if_pos (by omega), if_pos trivial, succ_wrap j (by omega)]
  refine Ev.congr (fun k => ?_) (key r.length 0 (by omega))
  unfold laws_same29.f
  rw [if_pos rfl]
  rfl
theorem alike29_self (l : List (List ByteArray)) (hl : l.length ≤ 4611686018427387904) (hr : ∀ r ∈ l, r.length ≤ 4611686018427387904) : Ev (fun k => laws_alike29.f k l l) true := by
  have key : ∀ (n j : Nat), l.length = j + n → Ev (fun k => laws_alike29.l0 k l l (l.length : Int) (j : Int)) true := by
    intro n
    induction n with
    | zero =>
      intro j hj
      refine Ev.step (f := fun _ => some true) (fun k => ?_) (Ev.now _)
      simp only [laws_alike29.l0]
      rw [if_neg (by omega)]
    | succ n ih =>
      intro j hj
      have hlt : j < l.length := by omega
      refine Ev.step (fun k => ?_) (f := fun k => (laws_same29.f k l[j] l[j]).bind fun t109 => (if t109 = true then (laws_alike29.l0 k l l (l.length : Int) ((j + 1 : Nat) : Int)) else (some false))) ?_
      · simp only [laws_alike29.l0]
        rw [if_pos (by omega), if_pos (by omega), if_pos (by omega), if_pos (by omega), rd_L1_get hlt, succ_wrap j (by omega)]
      · refine Ev.bind (same29_self _ (hr _ (List.getElem_mem hlt))) ?_
        simp only [if_true]
        exact ih (j + 1) (by omega)
  refine Ev.congr (fun k => ?_) (key l.length 0 (by omega))
  unfold laws_alike29.f
  rw [if_pos rfl]
  rfl
theorem C_same {W W' : World} (hm : ∀ k, k < W.heap.size → W'.heap[k]? = W.heap[k]?) {A : Option Addr} {n : Nat} {xs : List ByteArray} (h : Kd.string.C W A n xs) : Kd.string.C W' A n xs := by
  obtain ⟨h1, h2, h3⟩ := h
  refine ⟨h1, h2, fun hp => ?_⟩
  obtain ⟨ad, e, hc⟩ := h3 hp
  refine ⟨ad, e, fun j p hj => ?_⟩
  obtain ⟨c, hcl, hK, hcc⟩ := hc j p hj
  refine ⟨c, hcl, hK, fun j' u hu => ?_⟩
  have h4 := hcc j' u hu
  have h5 := hm _ (World.block_lt_of_cell? W _ h4)
  rw [← h4]
  simp [World.cell?, h5]
/-- A row of texts of the caller's: what a reading of it needs. -/
theorem row_foot {W : World} {A : Option Addr} {c : Nat} {r : List ByteArray} (h : Kd.string.C W A r.length r) (hl : r.length ≤ c) : Kd.FK (Kd.slice 9 Kd.string) W (fun k => k < W.heap.size) r [.slice A r.length c] :=
  Kd.FK_slice_mk hl (fun W' hW => C_same (fun k hk => hW k hk hk) h)
/-- The rows that stay, of the first j. -/
def wantS (rows : List (List ByteArray)) (j : Nat) : List (List ByteArray) := (keptS rows j).map fun m => rows.getD m []
theorem wantS_succ (rows : List (List ByteArray)) (j : Nat) : wantS rows (j + 1) = wantS rows j ++ if (decide (j = 0) || !emptyS (rows.getD j [])) = true then [rows.getD j []] else [] := by
  unfold wantS keptS
  rw [List.range_succ, List.filter_append, List.filter_cons, List.map_append]
  cases (decide (j = 0) || !emptyS (rows.getD j [])) <;> rfl
theorem wantS_len (rows : List (List ByteArray)) (j : Nat) : (wantS rows j).length ≤ j := by
  unfold wantS
  rw [List.length_map]
  have := List.length_filter_le (fun m => decide (m = 0) || !emptyS (rows.getD m [])) (List.range j)
  rw [List.length_range] at this
  exact this
theorem noEmptyS_want (rows : List (List ByteArray)) : noEmptyS rows = if (wantS rows rows.length).length = 1 ∧ emptyS ((wantS rows rows.length).getD 0 []) = true then [] else wantS rows rows.length := by
  unfold noEmptyS wantS
  rw [List.length_map]
  cases h : keptS rows rows.length with
  | nil => rfl
  | cons a l => rfl
end Go.Proofs.Ytfciokcielponaa.PTab

/- FnNoEmpty: the law's walk. Printed by the program gen_lawne.py of this session. -/
namespace Go.Proofs.Ytfciokcielponaa.PTab
open Go.RowKit Go.Proofs.YtfciokcielponaaW.PrintWords Go.Proofs.YtfciokcielponaaW.PrintLast Go.Proofs.YtfciokcielponaaW.PrintMore Go.Proofs.Ytfciokcielponaa.Cells
set_option linter.unusedVariables false
set_option linter.unusedSimpArgs false

abbrev kS : Kd (List ByteArray) := Kd.slice 9 Kd.string
theorem infoS : (Try.prog.info? 24).map (fun i => (i.zero, i.size, i.bytes)) = some (some (.slice none 0 0), 1, 24) := by kernel_rfl
theorem none_yet (w : World) (base : Nat) (hb : base ≤ w.heap.size) : Kd.N kS 24 (w.alloc (.cells #[] 24)) base (fun _ => True) (.slice (some ⟨w.heap.size, 0, none⟩) 0 0) [] :=
  ⟨fun _ _ => trivial, [], rfl, ⟨fun k hk => hk.symm, [], ⟨rfl, .inr ⟨w.heap.size, 0, #[], rfl, hb, blk_new w _, Nat.le_refl _, Nat.zero_le _, rfl, rfl⟩⟩, Reps.none _ _⟩, fun j x c h => by cases h⟩
def litW (w : World) : World := (w.alloc (.cells #[.string ⟨#[97]⟩] 9)).alloc (.cells #[.slice (some ⟨w.heap.size, 0, none⟩) 1 1] 24)
theorem lit_reads (w : World) : Kd.C kS (litW w) (some ⟨w.heap.size + 1, 0, none⟩) 1 [[(⟨#[97]⟩ : ByteArray)]] := by
  have h0 : (litW w).heap[w.heap.size]? = some (.cells #[.string ⟨#[97]⟩] 9 (0, 0)) := blk_alloc (blk_new w _) _
  have h1 : (litW w).heap[w.heap.size + 1]? = some (.cells #[.slice (some ⟨w.heap.size, 0, none⟩) 1 1] 24 (0, 0)) := by
    have := blk_new (w.alloc (.cells #[.string ⟨#[97]⟩] 9)) (.cells #[.slice (some ⟨w.heap.size, 0, none⟩) 1 1] 24)
    rw [show (w.alloc (.cells #[.string ⟨#[97]⟩] 9)).heap.size = w.heap.size + 1 from Array.size_push _] at this
    exact this
  refine ⟨rfl, by decide, fun _ => ⟨_, rfl, fun j p hj => ?_⟩⟩
  cases j with
  | succ j => simp at hj
  | zero =>
    obtain rfl := Option.some.inj hj
    refine ⟨[.slice (some ⟨w.heap.size, 0, none⟩) 1 1], rfl, ⟨_, 1, rfl, Nat.le_refl _, ⟨rfl, by decide, fun _ => ⟨_, rfl, fun j p hj => ?_⟩⟩⟩, fun j' u hu => ?_⟩
    · cases j with
      | succ j => simp at hj
      | zero =>
        obtain rfl := Option.some.inj hj
        refine ⟨[.string ⟨#[97]⟩], rfl, rfl, fun j' u hu => ?_⟩
        cases j' with
        | succ _ => simp at hu
        | zero =>
          obtain rfl := Option.some.inj hu
          exact blk_cell h0 0
    · cases j' with
      | succ _ => simp at hu
      | zero =>
        obtain rfl := Option.some.inj hu
        exact blk_cell h1 0
theorem chain {w wr w4 w6 : World} {n5 : Nat} (h1 : Below w.heap.size w wr) (h2 : Below wr.heap.size wr w4) (h3 : Below (litW (w4.drewN n5)).heap.size (litW (w4.drewN n5)) w6) : Below w.heap.size w w6 :=
  below_step (below_alloc (below_alloc (pw_below_drewN (below_step h1 h2) n5) _) _) h3
theorem law_calls (A0 : Option Addr) (c0 : Nat) (l0 : List (List ByteArray)) (w : World) (hr : Kd.C kS w A0 l0.length l0) (hc : l0.length ≤ c0) (_ : l0.length * 24 ≤ 140737488351232) (_ : ∀ r ∈ l0, r.length * 16 ≤ 140737488351232 ∧ ∀ s ∈ r, s.size ≤ 140737488351232) :
    Calls Try.prog 3 #[.slice A0 l0.length c0] w fun e w' => e = .returned (.bool true) ∧ Below w.heap.size w w' := by
  obtain ⟨b6, K6, h6, hfit⟩ := fits6 l0
  have H6 := Aside0.mk (h6 K6 (Nat.le_refl _))
  have HR := Aside0.mk hr
  have HC := Aside0.mk hc
  clear h6 hr hc
  cases b6 with
  | false =>
    clear hfit
    go_enter Try.func3, Try.ntmps3
    go_wp2_with (go_at_call 6; go_must (refine (laws_zzFits6.calls K6 A0 c0 l0 false w HR.out HC.out H6.out).mono ?_; rintro e w1 ⟨rfl, hd⟩; obtain ⟨⟨nd, rfl⟩⟩ := hd))
    go_ret
    exact ⟨rfl, pw_below_drewN (Below.refl _ _) nd⟩
  | true =>
    have hf := hfit rfl
    have HL := Aside0.mk hf.1
    have HS := Aside0.mk (show ∀ r ∈ l0, r.length ≤ 2147483647 ∧ ∀ s ∈ r, s.size ≤ 140737488351232 from fun r hr => ⟨(hf.2 r hr).1, fun s hs => by have := (hf.2 r hr).2 s hs; omega⟩)
    have hl64 : l0.length ≤ 9223372036854775807 := by have := hf.1; omega
    clear hfit hf
    go_enter Try.func3, Try.ntmps3
    go_wp2_with (go_at_call 6; go_must (refine (laws_zzFits6.calls K6 A0 c0 l0 true w HR.out HC.out H6.out).mono ?_; rintro e w1 ⟨rfl, hd⟩; obtain ⟨⟨nd, rfl⟩⟩ := hd))
    go_loopw [3, 12] (fun v i wr => ∃ j : Nat, j ≤ l0.length ∧ i = .int .i64 (j : Int) ∧ Aside0 (Kd.N kS 24 wr w.heap.size (fun _ => True) v (wantS l0 j)) ∧ Aside0 (Below w.heap.size w wr)) (fun _ i _ => l0.length - (intOf i).toNat)
    case atStart => exact ⟨0, Nat.zero_le _, rfl, ⟨none_yet (w.drewN nd) w.heap.size (Nat.le_refl _)⟩, ⟨Below.alloc (pw_below_drewN (Below.refl _ _) nd) (Nat.le_refl _) _⟩⟩
    case round =>
      obtain ⟨j, hj, rfl, HO, HB⟩ := hrel
      by_cases hlt : j < l0.length
      · obtain ⟨ad, c, rfl, hcl, ⟨A1, c1, rfl, hl1, hC1⟩, hcc⟩ := Kd.C_get HR.out ([] : List ByteArray) (j : Int) (by omega) (by omega)
        have hx0 := hcc 0 _ rfl
        have hsz1 : kS.sz = 1 := rfl
        simp only [Int.toNat_natCast, hsz1, Nat.mul_one, Nat.add_zero] at hx0 hl1 hC1
        have hx : wr.cell? (ad.add j) = some (.slice A1 (l0.getD j []).length c1) := (HB.out.cell (World.block_lt_of_cell? w _ hx0)).trans hx0
        have HF0 := Aside0.mk (Kd.FK_below (row_foot hC1 hl1) HB.out)
        have HC1 := Aside0.mk (Kd.C_below hC1 HB.out)
        have HL1 := Aside0.mk hl1
        have HWS := Aside0.mk (wantS_succ l0 j)
        have hmem : l0.getD j [] ∈ l0 := by rw [List.getD_eq_getElem?_getD, List.getElem?_eq_getElem hlt]; exact List.getElem_mem hlt
        obtain ⟨ke, he⟩ := (empty29_ev (l0.getD j []) (by have := (HS.out _ hmem).1; omega)).rounds
        have HEV := Aside0.mk he
        have HWL := Aside0.mk (wantS_len l0 j)
        have HBB := Aside0.mk (Kd.N_base HO.out)
        clear hcc hcl hsz1 hx0 hC1 hl1 he hmem
        generalize l0.getD j [] = x at hx HF0 HC1 HL1 HWS HEV
        by_cases h0 : j = 0
        · subst h0
          rw [show (decide ((0 : Nat) = 0) || !emptyS x) = true from rfl, if_pos rfl] at HWS
          clear HEV
          have hx2 : wr.cell? ad = some (.slice A1 x.length c1) := by rw [Addr.add_zero'] at hx; exact hx
          go_wp2_with ((with_reducible refine gate_builtin (b := .append) (xs := #[.tmp 24, .tmp 26]) rfl ?_); at_builtin; go_must (refine Kd.N_append kS (w0 := w) w.heap.size rfl (.tmp 24) (.tmp 26) 22 24 (.slice none 0 0) 24 rfl Try.underlying22 infoS rfl (by decide) (by omega) u3 (wantS l0 0) x [.slice A1 x.length c1] (fun _ => True) (fun k => k < w.heap.size) rfl (by go_simp) (by first | exact HF0.out | exact Kd.FK_below HF0.out (pw_below_drewN (Below.refl _ _) _)) (fun k hk => ⟨trivial, fun e => by have := HBB.out k e.symm; omega⟩) (fun k hk => trivial) (by first | exact HO.out | exact Kd.N_drewN HO.out _) (by first | exact HB.out | exact pw_below_drewN HB.out _) HB.out.size (by have := HWL.out; have := HL.out; omega) ?_))
          intro v1 w2 ho hbb hg hat
          have HO2 := Aside0.mk (show Kd.N kS 24 w2 w.heap.size (fun _ => True) v1 (wantS l0 (0 + 1)) by rw [HWS.out]; exact ho)
          have HB2 := Aside0.mk hbb
          clear ho hbb hg hat
          go_wp2
          go_roundw
          case rel => exact ⟨0 + 1, by omega, by go_num, HO2, HB2⟩
          case measure => simp [intOf]; omega
        · have hne : ((j : Int) == 0) = false := beq_eq_false_iff_ne.2 (by omega)
          cases hb : emptyS x with
          | true =>
            rw [hb] at HEV
            rw [show (decide (j = 0) || !emptyS x) = false from by rw [hb]; simp [h0], if_neg (by decide), List.append_nil] at HWS
            go_wp2_with (go_at_call 7; go_must (refine (laws_empty29.calls ke A1 c1 x true wr HC1.out HL1.out HEV.out).mono ?_; rintro e w1 ⟨rfl, hd⟩; obtain ⟨⟨ne, rfl⟩⟩ := hd))
            go_roundw
            case rel => exact ⟨j + 1, by omega, by go_num, ⟨by rw [HWS.out]; exact Kd.N_drewN HO.out ne⟩, ⟨pw_below_drewN HB.out ne⟩⟩
            case measure => simp [intOf]; omega
          | false =>
            rw [hb] at HEV
            rw [show (decide (j = 0) || !emptyS x) = true from by rw [hb]; simp, if_pos rfl] at HWS
            go_wp2_with (first | (go_at_call 7; go_must (refine (laws_empty29.calls ke A1 c1 x false wr HC1.out HL1.out HEV.out).mono ?_; rintro e w1 ⟨rfl, hd⟩; obtain ⟨⟨ne, rfl⟩⟩ := hd)) | ((with_reducible refine gate_builtin (b := .append) (xs := #[.tmp 24, .tmp 26]) rfl ?_); at_builtin; go_must (refine Kd.N_append kS (w0 := w) w.heap.size rfl (.tmp 24) (.tmp 26) 22 24 (.slice none 0 0) 24 rfl Try.underlying22 infoS rfl (by decide) (by omega) u3 (wantS l0 j) x [.slice A1 x.length c1] (fun _ => True) (fun k => k < w.heap.size) rfl (by go_simp) (by first | exact HF0.out | exact Kd.FK_below HF0.out (pw_below_drewN (Below.refl _ _) _)) (fun k hk => ⟨trivial, fun e => by have := HBB.out k e.symm; omega⟩) (fun k hk => trivial) (by first | exact HO.out | exact Kd.N_drewN HO.out _) (by first | exact HB.out | exact pw_below_drewN HB.out _) HB.out.size (by have := HWL.out; have := HL.out; omega) ?_)))
            intro v1 w2 ho hbb hg hat
            have HO2 := Aside0.mk (show Kd.N kS 24 w2 w.heap.size (fun _ => True) v1 (wantS l0 (j + 1)) by rw [HWS.out]; exact ho)
            have HB2 := Aside0.mk hbb
            clear ho hbb hg hat
            go_wp2
            go_roundw
            case rel => exact ⟨j + 1, by omega, by go_num, HO2, HB2⟩
            case measure => simp [intOf]; omega
      · have hje : j = l0.length := by omega
        subst hje
        obtain ⟨A, c, rfl⟩ := Kd.N_slice HO.out
        have hrd := Kd.N_reads' HO.out
        have HE := Aside0.mk (noEmptyS_want l0)
        have HWM := Aside0.mk (show ∀ r ∈ wantS l0 l0.length, r.length ≤ 2147483647 from fun r hr => by
          obtain ⟨m, _, rfl⟩ := List.mem_map.1 hr
          rw [List.getD_eq_getElem?_getD]
          cases h : l0[m]? with
          | none => simp
          | some x => exact (HS.out x (List.mem_of_getElem? h)).1)
        have HWL := Aside0.mk (wantS_len l0 l0.length)
        clear HO
        generalize wantS l0 l0.length = W at hrd HE HWM HWL
        have HCW := Aside0.mk hrd.2.2
        have HCL := Aside0.mk hrd.2.1
        clear hrd
        by_cases h1 : W.length = 1
        · obtain ⟨r0, rfl⟩ := List.length_eq_one_iff.1 h1
          obtain ⟨ad, c', rfl, hcl, ⟨A1, c1, rfl, hl1, hC1⟩, hcc⟩ := Kd.C_get HCW.out ([] : List ByteArray) (0 : Int) (by omega) (by simp)
          have hx0 := hcc 0 _ rfl
          have hsz1 : kS.sz = 1 := rfl
          simp only [Int.toNat_zero, Nat.zero_mul, Nat.add_zero, List.getD_cons_zero] at hx0 hl1 hC1
          have hx : wr.cell? ad = some (.slice A1 r0.length c1) := by rw [Addr.add_zero'] at hx0; exact hx0
          have HC1 := Aside0.mk hC1
          have HL1 := Aside0.mk hl1
          have hrl := HWM.out r0 List.mem_cons_self
          obtain ⟨ke, he⟩ := (empty29_ev r0 (by omega)).rounds
          have HEV := Aside0.mk he
          clear hcc hcl hsz1 hx0 hC1 hl1 he h1
          cases hb : emptyS r0 with
          | true =>
            rw [hb] at HEV
            rw [if_pos ⟨rfl, hb⟩] at HE
            obtain ⟨ka, hka⟩ := (alike29_self ([] : List (List ByteArray)) (by simp) (fun r hr => by cases hr)).rounds
            have HKA := Aside0.mk hka
            clear hka
            go_wp2_with (first
              | (go_at_call 7; go_must (refine (laws_empty29.calls ke A1 c1 r0 true wr HC1.out HL1.out HEV.out).mono ?_; rintro e w1 ⟨rfl, hd⟩; obtain ⟨⟨ne, rfl⟩⟩ := hd; have HB1 := Aside0.mk (pw_below_drewN HB.out ne)))
              | (go_at_call 8; go_must (refine (laws_alike29.calls ka A4 c4 [] none 0 [] true w4 HC4.out HL4.out (Kd.C_nil _ _) (Nat.le_refl _) HKA.out).mono ?_; rintro e w5 ⟨rfl, hd⟩; obtain ⟨⟨n5, rfl⟩⟩ := hd))
              | (go_at_call_has 9 l0; refine (noempty_calls A0 c0 l0 (wr.drewN ne) (Kd.C_below HR.out HB1.out) HC.out HL.out HS.out).mono ?_; rintro e w4 ⟨A4, m4, c4, rfl, h4, h5, h6, hB⟩; rw [HE.out] at h4 h6; obtain rfl := h4; have HC4 := Aside0.mk h6; have HL4 := Aside0.mk h5; have HB4 := Aside0.mk hB; clear h5 h6 hB)
              | (go_at_call 9; refine (noempty_calls (some ⟨w4.heap.size + 1, 0, none⟩) 1 [[(⟨#[97]⟩ : ByteArray)]] (litW (w4.drewN n5)) (lit_reads (w4.drewN n5)) (Nat.le_refl _) (by decide) (by decide)).mono ?_; rintro e w6 ⟨A6, m6, c6, rfl, h6, _, _, hB⟩; rw [show (noEmptyS [[(⟨#[97]⟩ : ByteArray)]]).length = 1 from rfl] at h6; obtain rfl := h6; have HB6 := Aside0.mk hB; clear hB))
            go_ret
            exact ⟨rfl, chain HB1.out HB4.out HB6.out⟩
          | false =>
            rw [hb] at HEV
            rw [if_neg (fun h => by have := h.2; rw [show ([r0] : List (List ByteArray)).getD 0 [] = r0 from rfl, hb] at this; cases this)] at HE
            obtain ⟨ka, hka⟩ := (alike29_self [r0] (by simp) (fun r hr => by obtain rfl := List.mem_singleton.1 hr; omega)).rounds
            have HKA := Aside0.mk hka
            clear hka
            go_wp2_with (first
              | (go_at_call 7; go_must (refine (laws_empty29.calls ke A1 c1 r0 false wr HC1.out HL1.out HEV.out).mono ?_; rintro e w1 ⟨rfl, hd⟩; obtain ⟨⟨ne, rfl⟩⟩ := hd; have HB1 := Aside0.mk (pw_below_drewN HB.out ne)))
              | (go_at_call 8; go_must (refine (laws_alike29.calls ka A4 c4 [r0] (some ad) c [r0] true w4 HC4.out HL4.out (Kd.C_below (Kd.C_drewN HCW.out ne) HB4.out) HCL.out HKA.out).mono ?_; rintro e w5 ⟨rfl, hd⟩; obtain ⟨⟨n5, rfl⟩⟩ := hd))
              | (go_at_call_has 9 l0; refine (noempty_calls A0 c0 l0 (wr.drewN ne) (Kd.C_below HR.out HB1.out) HC.out HL.out HS.out).mono ?_; rintro e w4 ⟨A4, m4, c4, rfl, h4, h5, h6, hB⟩; rw [HE.out] at h4 h6; obtain rfl := h4; have HC4 := Aside0.mk h6; have HL4 := Aside0.mk h5; have HB4 := Aside0.mk hB; clear h5 h6 hB)
              | (go_at_call 9; refine (noempty_calls (some ⟨w4.heap.size + 1, 0, none⟩) 1 [[(⟨#[97]⟩ : ByteArray)]] (litW (w4.drewN n5)) (lit_reads (w4.drewN n5)) (Nat.le_refl _) (by decide) (by decide)).mono ?_; rintro e w6 ⟨A6, m6, c6, rfl, h6, _, _, hB⟩; rw [show (noEmptyS [[(⟨#[97]⟩ : ByteArray)]]).length = 1 from rfl] at h6; obtain rfl := h6; have HB6 := Aside0.mk hB; clear hB))
            go_ret
            exact ⟨rfl, chain HB1.out HB4.out HB6.out⟩
        · have hne : ((W.length : Int) == 1) = false := beq_eq_false_iff_ne.2 (by omega)
          rw [if_neg (fun h => h1 h.1)] at HE
          obtain ⟨ka, hka⟩ := (alike29_self W (by have := HWL.out; have := HL.out; omega) (fun r hr => by have := HWM.out r hr; omega)).rounds
          have HKA := Aside0.mk hka
          clear h1 hka
          go_wp2_with (first
            | (go_at_call 8; go_must (refine (laws_alike29.calls ka A4 c4 W A c W true w4 HC4.out HL4.out (Kd.C_below HCW.out HB4.out) HCL.out HKA.out).mono ?_; rintro e w5 ⟨rfl, hd⟩; obtain ⟨⟨n5, rfl⟩⟩ := hd))
            | (go_at_call_has 9 l0; refine (noempty_calls A0 c0 l0 wr (Kd.C_below HR.out HB.out) HC.out HL.out HS.out).mono ?_; rintro e w4 ⟨A4, m4, c4, rfl, h4, h5, h6, hB⟩; rw [HE.out] at h4 h6; obtain rfl := h4; have HC4 := Aside0.mk h6; have HL4 := Aside0.mk h5; have HB4 := Aside0.mk hB; clear h5 h6 hB)
            | (go_at_call 9; refine (noempty_calls (some ⟨w4.heap.size + 1, 0, none⟩) 1 [[(⟨#[97]⟩ : ByteArray)]] (litW (w4.drewN n5)) (lit_reads (w4.drewN n5)) (Nat.le_refl _) (by decide) (by decide)).mono ?_; rintro e w6 ⟨A6, m6, c6, rfl, h6, _, _, hB⟩; rw [show (noEmptyS [[(⟨#[97]⟩ : ByteArray)]]).length = 1 from rfl] at h6; obtain rfl := h6; have HB6 := Aside0.mk hB; clear hB))
          go_ret
          exact ⟨rfl, chain HB.out HB4.out HB6.out⟩
end Go.Proofs.Ytfciokcielponaa.PTab

/- The row of the law FnNoEmpty, out of its walk. No further conditions. -/
namespace Go.Proofs.Ytfciokcielponaa.fnNoEmpty
open Go.ChangeShapes Go.WideShapes Go.ChangeAt Go.RowKit
open Go.ChangeMaps (open_string shut_string)
open Go.Proofs.Ytfciokcielponaa.PTab
set_option linter.unusedVariables false
theorem own : ownKnob Try.prog.godebug = none := by kernel_rfl
theorem laidOut : laidOutB Try.prog = true := by kernel_rfl
set_option maxRecDepth 100000 in
theorem lifted (os : Os) (started : os.Started) (H : Type) (enc : TypeId × Value → H) :
    ReturnsInHanded {} Try.checked os 3 .any (Rows.fnNoEmptySpec.pre6 enc Try.prog Try.f3 Rows.fnNoEmptyRow.domain false) (Rows.fnNoEmptySpec.post enc Try.prog Try.f3 false true false false) := by
  refine returnsInHanded_of_change_sized (C := Try.checked) own started (by kernel_rfl) Try.func3
    (ChangeSpec.witness6 (enc := enc) (C := Try.checked) false ⟨#[], #[.slice none 0 0], []⟩ 8 (by kernel_rfl) (by kernel_rfl) (by kernel_rfl) (by kernel_rfl)) ?_
  intro W base args ds gs before hval0 hW hcnd hsz0 _
  have hsz : (DataW.weightsEach Try.prog (Try.f3.params.toList ++ Rows.fnNoEmptySpec.plain.varTypes Try.prog) (ds ++ gs)).all (· ≤ reachBytes) = true := hsz0
  have hval : ∀ (j : Nat) t v, Try.f3.params[j]? = some t → args[j]? = some v → Value.okWide Try.prog W .any base t v := hval0
  have hW' := hW
  obtain ⟨p, q, hA0, hV, rfl, hfz, hnd⟩ := hW
  have hA : DataW.TrodAll enc Try.prog W 0 (fun _ => true) true Try.f3.params.toList args.toList ds p := hA0
  rw [Try.params3] at hA hval hsz
  obtain ⟨v0, vs0, d0, ds0, p0, q0, hargs, rfl, rfl, h0, r0⟩ := trodAll_cons hA
  obtain ⟨rfl, rfl, rfl⟩ := trodAll_nil r0
  obtain rfl : args = #[v0] := by cases args; simp_all
  obtain ⟨rfl, rfl⟩ := trodVars_none hV
  obtain ⟨a0, len0, cap0, rfl⟩ := okWide_slice Try.underlying22 (hval 0 22 v0 rfl rfl)
  have k0 := h0
  have lt0 : ∀ x ∈ p0, x.block < W.heap.size := by obtain ⟨m, hm⟩ := k0; exact DataW.trod_lt m _ _ _ hm
  obtain ⟨x0, A0, c0, hcs0, hl0, hC0, hB0, hG0⟩ := Open.open_slice (fun fuel => (Open.opens_slice Try.underlying22 (by kernel_rfl) (B := 24) (by kernel_rfl) fuel (fun n4 _ => (Open.opens_slice Try.underlying24 (by kernel_rfl) (B := 16) (by kernel_rfl) n4 (fun n2 _ => (Open.opens_string Try.underlying9 n2)))))) h0 hsz (j := 0) (t := 22) rfl rfl
  obtain ⟨rfl, rfl, rfl⟩ : a0 = A0 ∧ len0 = x0.length ∧ cap0 = c0 := by simpa [Value.cells] using hcs0
  clear hA0 hval0 hsz0
  refine (PTab.law_calls a0 cap0 x0 W hC0 hl0 hB0 hG0).mono fun e W' ⟨he, bel⟩ => ?_
  subst he
  exact ⟨_, rfl, _, _, _, [], _, [], hW', trodAll_mk1 (shut_bool Try.underlying4 _), (trodAll_cons_mk (Below.trod laidOut (by kernel_rfl) (of_decide_eq_true (by kernel_rfl)) k0 bel lt0) trodAll_mk0), rfl, bel.frame _, fun h => by cases h⟩
theorem over : Rows.fnNoEmptyRow.holds Try.pinned (OpenSpec.ofChange Rows.fnNoEmptySpec) :=
  OpenClaim.holds_of_wide 3 Try.f3 rfl rfl rfl rfl rfl rfl rfl ⟨rfl, rfl, rfl, rfl, rfl⟩ rfl rfl rfl rfl rfl (by kernel_rfl) Try.func3 (by kernel_rfl)
    (of_decide_eq_true (by kernel_rfl)) (by unfold Func.isWrapper; first | (rw [if_pos (by decide +kernel)]; kernel_rfl) | (rw [if_neg (by decide +kernel)]; exact ⟨rfl, rfl⟩))
    (fun os started H enc _ => lifted os started H enc)
theorem proved : Rows.FnNoEmptySaid := over
#print axioms proved
end Go.Proofs.Ytfciokcielponaa.fnNoEmpty
namespace Go.Proofs.Ytfciokcielponaa
/-- The row, under a short name, for the claim. -/
theorem fnNoEmpty_holds : Rows.FnNoEmptySaid := fnNoEmpty.proved
end Go.Proofs.Ytfciokcielponaa
