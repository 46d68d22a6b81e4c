/- A part of the proof of FnDomReplaced: Chg, Tell, SibM, ReplX, EqT, ReplY, Put, EDomx6, EDomx7, AtE, ReplL, PureRepl, Open, OpenT, RowFnDomReplaced, one behind the other. -/
import Derived.Test.YtibfoaahdbdogaaMFnDomReplaced4
import Derived.Test.YtibfoaahdbdogaaMFnDomReplaced3
import Derived.Laws.EntriesVeiled
import Derived.Deep.RegionLaw
import Derived.Test.YtibfoaahdbdogaaMFnDomReplaced2
import Derived.Deep.RegionWith
import Derived.StillTailTactics
import Derived.Test.YtibfoaahdbdogaaMFnDomReplaced1
import Derived.ChangeArms
import Derived.ChangeSlices
import Derived.DataReads
import Derived.SizedLaws
import Derived.Test.YtibfoaahdbdogaaRows
import Derived.WalkKit
import Derived.ProofKit
import Derived.OpenShut
import Derived.ShutString
import Derived.ChangeOld
import Derived.Below
/- impl.changedAt, over a function that changes a tree: what it returns. -/
namespace Go.Proofs.Ytibfoaahdbdogaa.Dom
open Go.RowKit Go.Proofs.YtibfoaahdbdogaaW.PrintWords Go.Proofs.YtibfoaahdbdogaaW.PrintLast Go.Proofs.YtibfoaahdbdogaaW.PrintMore Go.Proofs.Ytibfoaahdbdogaa.PDom
set_option linter.unusedVariables false
set_option linter.unusedSimpArgs false

theorem Dom.far {w : World} {D : Tab} (h : Dom w D) {g t : Nat} {cells : Array Value} (hb : w.heap[g]? = some (.cells cells t (0, 0))) (hD : D g = none) (ht : 89 ≠ t) (j : Nat) (u : Value) : Dom (w.setCell ⟨g, j, none⟩ u) D :=
  ⟨h.wf, fun {b i} hd => by
    obtain ⟨v, h1, h2⟩ := h.has hd
    refine ⟨v, h1.far (p := ⟨g, j, none⟩) (fun e => by rw [show b = g from e, hD] at hd; cases hd) u, ?_⟩
    exact Kd.R_set h2 hb (fun q hq => by
      have : q = 89 := by simpa [kA, Kd.iso, Kd.pair, Kd.string, Kd.scalar] using hq
      rw [this]
      exact ht) j u⟩
/-- What a tree becomes. -/
def Turns (w w' : World) (D : Tab) (r : RT) (u : T) : Prop := ∃ D' r', Dom w' D' ∧ Is D' none r' ∧ r'.id = r.id ∧ RFit r' ∧ r'.toT = u ∧ Only D w w' ∧ (∀ k, k < w.heap.size → D k = none → D' k = none)
theorem c79_calls (F : Nat) (cap : Array Value) (b5 b9 x : Nat) (w : World) (Q : World → Prop) (hF : ∀ (args : Array Value) (w : World), (callFunc F args).run Try.prog w = .ok (.enter F args) w)
    (c5 : w.cell? ⟨b5, 0, none⟩ = some (.func (.func F) #[] cap)) (c9 : w.cell? ⟨b9, 0, none⟩ = some (.pointer (some ⟨x, 0, none⟩)))
    (HC : Calls Try.prog F (#[.pointer (some ⟨x, 0, none⟩)] ++ cap) w fun e w' => e = .returned (.tuple #[]) ∧ Q w') :
    Calls Try.prog 79 #[.pointer (some ⟨b5, 0, none⟩), .pointer (some ⟨b9, 0, none⟩)] w fun e w' => e = .returned (.tuple #[]) ∧ Q w' := by
  have HC0 := Aside0.mk HC
  clear HC
  go_enter Try.func79, Try.ntmps79
  go_wp2_with fail
  refine HC0.out.mono ?_
  rintro e w' ⟨rfl, hq⟩
  have HQ := Aside0.mk hq
  clear hq
  go_wp2_with fail
  go_end0
  exact ⟨rfl, HQ.out⟩
theorem enters79 : ∀ (args : Array Value) (w : World), (callFunc 79 args).run Try.prog w = .ok (.enter 79 args) w := fun _ _ => by kernel_rfl
/-- A tree and a flag. -/
def ToldB (w w' : World) (t : T) (b : Bool) (e : Ending) : Prop := ∃ A3 c3 A4 c4, e = .returned (.tuple #[.agg #[.int .i64 t.f0, .string t.f1, .string t.f2, .slice A3 t.f3.length c3, .slice A4 t.f4.length c4], .bool b]) ∧ t.f3.length ≤ c3 ∧ Kd.F k78 w' (fun k => w.heap.size ≤ k) A3 t.f3.length t.f3 ∧ t.f4.length ≤ c4 ∧ Kd.F k25 w' (fun k => w.heap.size ≤ k) A4 t.f4.length t.f4 ∧ Below w.heap.size w w'
theorem push_size (w : World) (o : Obj) : (w.alloc o).heap.size = w.heap.size + 1 := Array.size_push _
theorem guard_step (F : Nat) (cap : Array Value) (hF : ∀ (args : Array Value) (w : World), (callFunc F args).run Try.prog w = .ok (.enter F args) w) (w2 : World) (D : Tab) (r : RT) (x : Nat) (u : T) (b5 b9 : Nat) (hdom : Dom w2 D)
    (c5 : w2.heap[b5]? = some (.cells #[.func (.func F) #[] cap] 76 (0, 0))) (c9 : w2.heap[b9]? = some (.cells #[.pointer (some ⟨x, 0, none⟩)] 59 (0, 0)))
    (HC : ∀ W, Below w2.heap.size w2 W → Calls Try.prog F (#[.pointer (some ⟨x, 0, none⟩)] ++ cap) W fun e w' => e = .returned (.tuple #[]) ∧ Turns W w' D r u) :
    Calls Try.prog 78 #[.func (.func 79) #[] #[.pointer (some ⟨b5, 0, none⟩), .pointer (some ⟨b9, 0, none⟩)]] w2 fun e w' => e = .returned (.bool false) ∧ Turns w2 w' D r u := by
  have hB := below_alloc (Below.refl w2.heap.size w2) (.cells #[.bool false] 4)
  have hDn : D w2.heap.size = none := by
    cases hd : D w2.heap.size with
    | none => rfl
    | some i => exact absurd (hdom.lt (by rw [hd]; simp)) (Nat.lt_irrefl _)
  refine (Guard.guarded_calls _ _ w2 (fun w' => Turns (w2.alloc (.cells #[.bool false] 4)) w' D r u) enters79 ?_).mono ?_
  · refine (c79_calls F cap b5 b9 x _ (fun w' => Turns (w2.alloc (.cells #[.bool false] 4)) w' D r u) hF ?_ ?_ (HC _ hB)).mono ?_
    · exact blk_cell ((hB.block _ (blk_lt c5)).trans c5) 0
    · exact blk_cell ((hB.block _ (blk_lt c9)).trans c9) 0
    · rintro e w' ⟨rfl, hq⟩
      refine ⟨rfl, ?_, hq⟩
      obtain ⟨D', r', h1, h2, h3, h4, h5, h6, h7⟩ := hq
      rw [h6.block _ (by rw [push_size]; omega) hDn]
      exact heap_alloc_new w2 _
  · rintro e w' ⟨rfl, w3, hq, hbad, rfl⟩
    refine ⟨rfl, ?_⟩
    obtain ⟨D', r', h1, h2, h3, h4, h5, h6, h7⟩ := hq
    have hD' : D' w2.heap.size = none := h7 _ (by rw [push_size]; omega) hDn
    refine ⟨D', r', h1.far hbad hD' (by decide) 0 _, h2, h3, h4, h5, ?_, fun k hk hd => h7 k (by rw [push_size]; omega) hd⟩
    have hs := Below.setCell (Below.refl w2.heap.size w3) (p := ⟨w2.heap.size, 0, none⟩) (Nat.le_refl _) (.bool false)
    refine ⟨hs.os.trans h6.os, hs.tape.trans h6.tape, hs.output.trans h6.output, ?_, fun k hk hd => ?_⟩
    · have := h6.size
      rw [push_size] at this
      have := hs.size
      omega
    · rw [Below.heap_setCell w3 ⟨w2.heap.size, 0, none⟩ _ k (by show k ≠ w2.heap.size; omega), h6.block k (by rw [push_size]; omega) hd]
      exact heap_alloc_old w2 _ hk
set_option maxHeartbeats 1000000 in
set_option maxRecDepth 100000 in
theorem changed_calls (F : Nat) (cap : Array Value) (hF : ∀ (args : Array Value) (w : World), (callFunc F args).run Try.prog w = .ok (.enter F args) w) (t : T) (ht : Fit t) (w : World) (A3 : Option Addr) (c3 : Nat) (A4 : Option Addr) (c4 : Nat) (A1 : Option Addr) (c1 : Nat) (h3 : Kd.C k78 w A3 t.f3.length t.f3) (l3 : t.f3.length ≤ c3) (h4 : Kd.C k25 w A4 t.f4.length t.f4) (l4 : t.f4.length ≤ c4)
    (path : List Int) (h1 : (Kd.int .i64).C w A1 path.length path) (hp : path.length ≤ 4398046510976) (u : T) (hsz : ∀ r, TellsT t r → r.pre.length ≤ 4398046510976)
    (hdo : ∀ W D r, Below w.heap.size w W → (∀ k, k < w.heap.size → D k = none) → Dom W D → Is D none r → TellsT t r → ∃ x, r.at_ path = some x ∧ Calls Try.prog F (#[.pointer (some ⟨x.id, 0, none⟩)] ++ cap) W fun e w' => e = .returned (.tuple #[]) ∧ Turns W w' D r u) :
    Calls Try.prog 50 #[.agg #[.int .i64 t.f0, .string t.f1, .string t.f2, .slice A3 t.f3.length c3, .slice A4 t.f4.length c4], .slice A1 path.length c1, .func (.func F) #[] cap] w fun e w' => ToldB w w' u true e := by
  have hmf : ∀ (fn : Fn) (first cap : Array Value) (w : World), (Instr.makeFunc fn first cap).run Try.prog w = .ok (.func fn first cap) w := fun _ _ _ _ => rfl
  have HDO := Aside0.mk hdo
  have HFit := Aside0.mk ht
  have HSZ := Aside0.mk hsz
  have HP := Aside0.mk h1
  have HPL := Aside0.mk hp
  have HB0 := Aside0.mk (below_alloc (below_alloc (below_alloc (Below.refl w.heap.size w) (.cells #[.int .i64 t.f0, .string t.f1, .string t.f2, .slice A3 t.f3.length c3, .slice A4 t.f4.length c4] 25)) (.cells #[.func (.func F) #[] cap] 76)) (.cells #[.int .i64 0, .string ⟨#[]⟩, .string ⟨#[]⟩, .slice none 0 0, .slice none 0 0] 25))
  have HM := Aside0.mk (made_calls _ t (Nat.le_refl _) ht _ A3 c3 A4 c4 (Kd.C_below h3 HB0.out) l3 (Kd.C_below h4 HB0.out) l4)
  have hz : ((((w.alloc (.cells #[.int .i64 t.f0, .string t.f1, .string t.f2, .slice A3 t.f3.length c3, .slice A4 t.f4.length c4] 25)).alloc (.cells #[.func (.func F) #[] cap] 76)).alloc (.cells #[.int .i64 0, .string ⟨#[]⟩, .string ⟨#[]⟩, .slice none 0 0, .slice none 0 0] 25))).heap.size = w.heap.size + 3 := by
    show (((w.heap.push _).push _).push _).size = _
    simp
  have hb5 : ((((w.alloc (.cells #[.int .i64 t.f0, .string t.f1, .string t.f2, .slice A3 t.f3.length c3, .slice A4 t.f4.length c4] 25)).alloc (.cells #[.func (.func F) #[] cap] 76)).alloc (.cells #[.int .i64 0, .string ⟨#[]⟩, .string ⟨#[]⟩, .slice none 0 0, .slice none 0 0] 25))).heap[w.heap.size + 1]? = some (.cells #[.func (.func F) #[] cap] 76 (0, 0)) := (heap_alloc_old _ _ (by show _ < ((w.heap.push _).push _).size; simp)).trans (two_new w _ _)
  have hb6 : ((((w.alloc (.cells #[.int .i64 t.f0, .string t.f1, .string t.f2, .slice A3 t.f3.length c3, .slice A4 t.f4.length c4] 25)).alloc (.cells #[.func (.func F) #[] cap] 76)).alloc (.cells #[.int .i64 0, .string ⟨#[]⟩, .string ⟨#[]⟩, .slice none 0 0, .slice none 0 0] 25))).heap[w.heap.size + 2]? = some (.cells #[.int .i64 0, .string ⟨#[]⟩, .string ⟨#[]⟩, .slice none 0 0, .slice none 0 0] 25 (0, 0)) := by
    show (((w.heap.push _).push _).push _)[w.heap.size + 2]? = _
    rw [show w.heap.size + 2 = ((w.heap.push (.cells #[.int .i64 t.f0, .string t.f1, .string t.f2, .slice A3 t.f3.length c3, .slice A4 t.f4.length c4] 25)).push (.cells #[.func (.func F) #[] cap] 76)).size by simp, Array.getElem?_push_size]
  have HB5 := Aside0.mk hb5
  have HB6 := Aside0.mk hb6
  have HZ := Aside0.mk hz
  clear hdo ht h3 l3 h4 l4 h1 hp hz hb5 hb6 hsz
  go_enter Try.func50, Try.ntmps50
  go_wp2_with fail
  refine HM.out.mono ?_
  rintro e w1 ⟨b, D, rfl, hm⟩
  generalize (((w.alloc (.cells #[.int .i64 t.f0, .string t.f1, .string t.f2, .slice A3 t.f3.length c3, .slice A4 t.f4.length c4] 25)).alloc (.cells #[.func (.func F) #[] cap] 76)).alloc (.cells #[.int .i64 0, .string ⟨#[]⟩, .string ⟨#[]⟩, .slice none 0 0, .slice none 0 0] 25)) = W0 at hm HB0 HB5 HB6 HZ
  clear HM
  have hb1 := below_step HB0.out hm.below
  obtain ⟨i0, hi0⟩ : ∃ i, D b = some i := by
    obtain ⟨_, _, i, h, _⟩ := hm.tree
    exact ⟨i, h⟩
  obtain ⟨r, rfl, hr, hto⟩ := hm.tree.rt hm.dom.wf i0 hi0
  have hroot := hm.root i0 hi0
  rw [hroot] at hr
  have hnone : ∀ k, k < W0.heap.size → D k = none := fun k hk => by
    cases hd : D k with
    | none => rfl
    | some i => have := hm.fresh k (by rw [hd]; simp); omega
  have hsize0 : w.heap.size ≤ W0.heap.size := by have := HZ.out; omega
  obtain ⟨x, hx, _⟩ := HDO.out w1 D r hb1 (fun k hk => hnone k (by omega)) hm.dom hr hto
  have HDX := Aside0.mk (show ∀ W, Below w1.heap.size w1 W → Calls Try.prog F (#[.pointer (some ⟨x.id, 0, none⟩)] ++ cap) W fun e w' => e = .returned (.tuple #[]) ∧ Turns W w' D r u from fun W hW => by
    obtain ⟨x', hx', hc⟩ := HDO.out W D r (below_step hb1 hW) (fun k hk => hnone k (by omega)) (hm.dom.below hW) hr hto
    rw [hx] at hx'
    obtain rfl := Option.some.inj hx'
    exact hc)
  have HA := Aside0.mk (at_calls w1 D hm.dom none r hr A1 c1 path (Kd.C_below HP.out hb1) HPL.out (HSZ.out r hto))
  rw [hx, Option.map_some] at HA
  have HD := Aside0.mk hm.dom
  have HNO := Aside0.mk hnone
  have HBW := Aside0.mk hb1
  have HB01 := Aside0.mk hm.below
  clear hm hb1 hi0 hroot hr hto hnone hsize0 hx
  generalize hri : r.id = ri at *
  have HRI := Aside0.mk hri
  clear hri
  generalize x.id = xi at *
  simp only [ptr_some] at HA ⊢
  go_upto_region 3 with (go_at_call 41; go_must (refine HA.out.mono ?_; rintro e w1 ⟨rfl, rfl⟩))
  have hb9 := heap_alloc_new w1 (.cells #[.pointer (some ⟨xi, 0, none⟩)] 59)
  have HB2 := Aside0.mk (below_alloc (Below.refl w1.heap.size w1) (.cells #[.pointer (some ⟨xi, 0, none⟩)] 59))
  have hs1 := HB01.out.size
  have hsz0 := HZ.out
  generalize w1.alloc (.cells #[.pointer (some ⟨xi, 0, none⟩)] 59) = w2 at *
  have hb5 : w2.heap[w.heap.size + 1]? = some (.cells #[.func (.func F) #[] cap] 76 (0, 0)) := ((HB2.out.block _ (by omega)).trans (HB01.out.block _ (by omega))).trans HB5.out
  have hb6 : w2.heap[w.heap.size + 2]? = some (.cells #[.int .i64 0, .string ⟨#[]⟩, .string ⟨#[]⟩, .slice none 0 0, .slice none 0 0] 25 (0, 0)) := ((HB2.out.block _ (by omega)).trans (HB01.out.block _ (by omega))).trans HB6.out
  have HG := Aside0.mk (guard_step F cap hF w2 D r xi u (w.heap.size + 1) w1.heap.size (HD.out.below HB2.out) hb5 hb9 (fun W hW => HDX.out W (below_step HB2.out hW)))
  have c9 := blk_cell hb9 0
  have HB6' := Aside0.mk hb6
  have HBW2 := Aside0.mk (below_step HBW.out HB2.out)
  have HNW := Aside0.mk (HNO.out (w.heap.size + 2) (by omega))
  have HNA := Aside0.mk (show ∀ k, k < w.heap.size → D k = none from fun k hk => HNO.out k (by omega))
  have HS2 := Aside0.mk (show w.heap.size + 2 < w2.heap.size by have := HB2.out.size; omega)
  clear hb5 hb6 hb9 hs1 hsz0 HB5 HB6 HA HDX hF
  go_upto_region 5 with (go_at_call 78; go_must (refine HG.out.mono ?_; rintro e w3 ⟨rfl, D', r', hd', hr', hid, hfit, hto, hon, hnn⟩))
  have HT := Aside0.mk (told_calls D' r' none hr' hfit w3 hd')
  rw [hid, HRI.out, hto] at HT
  have HB3 := Aside0.mk (hon.below (Nat.le_of_lt (by have := HS2.out; omega : w.heap.size < w2.heap.size)) HNA.out)
  have HB63 := Aside0.mk ((hon.block _ HS2.out HNW.out).trans HB6'.out)
  clear hd' hr' hid hfit hto hon hnn HG c9
  simp only [ptr_some] at HT
  go_wp2_with (go_at_call 80; go_must (refine HT.out.mono ?_; rintro e w4 ⟨A5, c5, A6, c6, rfl, m5, F5, m6, F6, hb4⟩; have hb64 := (hb4.block _ (blk_lt HB63.out)).trans HB63.out; have r0 := blk_cell hb64 0; have r1 := blk_cell hb64 1; have r2 := blk_cell hb64 2; have r3 := blk_cell hb64 3; have r4 := blk_cell hb64 4; have f0 := blk_frozen hb64 0; have f1 := blk_frozen hb64 1; have f2 := blk_frozen hb64 2; have f3 := blk_frozen hb64 3; have f4 := blk_frozen hb64 4; have HB4 := Aside0.mk hb4; have HF5 := Aside0.mk F5; have HF6 := Aside0.mk F6; have HM5 := Aside0.mk m5; have HM6 := Aside0.mk m6; clear hb4 F5 F6 m5 m6 hb64))
  refine bodyPost_ret (v := .tuple #[.agg #[.int .i64 u.f0, .string u.f1, .string u.f2, .slice A5 u.f3.length c5, .slice A6 u.f4.length c6], .bool true]) (by simp [results, Try.results50, go_sem, r0, r1, r2, r3, r4]) rfl ?_
  have hs : ∀ k, w3.heap.size ≤ k → k < w4.heap.size → (((((w4.setCell ⟨w.heap.size + 1 + 1, 0, none⟩ (.int .i64 u.f0)).setCell ⟨w.heap.size + 1 + 1, 1, none⟩ (.string u.f1)).setCell ⟨w.heap.size + 1 + 1, 2, none⟩ (.string u.f2)).setCell ⟨w.heap.size + 1 + 1, 3, none⟩ (.slice A5 u.f3.length c5)).setCell ⟨w.heap.size + 1 + 1, 4, none⟩ (.slice A6 u.f4.length c6)).heap[k]? = w4.heap[k]? := fun k hk _ => sets5 w4 _ _ _ _ _ _ k (by have := blk_lt HB63.out; omega)
  have hle : w.heap.size ≤ w3.heap.size := Nat.le_trans (by omega) (Nat.le_of_lt (blk_lt HB63.out))
  refine ⟨A5, c5, A6, c6, rfl, HM5.out, Kd.F_mono (Kd.F_step HF5.out hs) (fun k hk => Nat.le_trans hle hk), HM6.out, Kd.F_mono (Kd.F_step HF6.out hs) (fun k hk => Nat.le_trans hle hk), ?_⟩
  have hb := below_step (HBW2.out.trans HB3.out) HB4.out
  exact ((((hb.setCell (p := ⟨w.heap.size + 1 + 1, 0, none⟩) (by show _ ≤ w.heap.size + 1 + 1; omega) _).setCell (p := ⟨w.heap.size + 1 + 1, 1, none⟩) (by show _ ≤ w.heap.size + 1 + 1; omega) _).setCell (p := ⟨w.heap.size + 1 + 1, 2, none⟩) (by show _ ≤ w.heap.size + 1 + 1; omega) _).setCell (p := ⟨w.heap.size + 1 + 1, 3, none⟩) (by show _ ≤ w.heap.size + 1 + 1; omega) _).setCell (p := ⟨w.heap.size + 1 + 1, 4, none⟩) (by show _ ≤ w.heap.size + 1 + 1; omega) _
end Go.Proofs.Ytibfoaahdbdogaa.Dom

/- What is told of a tree that was made: the tree itself. Plain facts. -/
namespace Go.Proofs.Ytibfoaahdbdogaa.PDom
open Go.RowKit Go.Proofs.YtibfoaahdbdogaaW.PrintWords Go.Proofs.YtibfoaahdbdogaaW.PrintLast Go.Proofs.YtibfoaahdbdogaaW.PrintMore Go.Proofs.Ytibfoaahdbdogaa.Dom
set_option linter.unusedVariables false
set_option linter.unusedSimpArgs false

theorem toT_norm (r : RT) : ∀ (t : T) (root : Bool), Norm root t → TellsT t r → r.toT = t := by
  induction r using RT.induct with
  | h i ty a d at_ ks ih =>
    intro t root hn ht
    obtain ⟨hl, hk⟩ := told_open ht hn
    have hkids : RT.toTL ks = t.f4 := by
      rw [RT.toTL_map]
      apply List.ext_getElem (by rw [List.length_map]; exact hl.symm)
      intro j h1 h2
      rw [List.getElem_map]
      have h3 : j < ks.length := by rw [List.length_map] at h1; exact h1
      exact ih ks[j] (List.getElem_mem h3) _ false (hn.kid (List.getElem_mem h2)) (hk j h2 h3)
    cases ht with
    | mk _ _ _ _ ha hl2 hk2 =>
      cases hn with
      | mk _ _ h _ =>
        obtain ⟨f0, f1, f2, f3, f4⟩ := t
        simp only at hkids
        simp only [RT.toT, tyOf, dataOf, attrsOf, flat]
        rcases h with ⟨h0, h1, h3, h4⟩ | ⟨h0, hr, h1, h2, h3⟩ | ⟨h0, h2⟩
        · simp only at h0 h1 h3 h4
          subst h1 h3 h4
          rcases h0 with rfl | rfl
          · simp
          · simp
        · simp only at h0 h1 h2 h3
          subst h0 h1 h2 h3
          simp [hkids]
        · simp only at h0 h2
          subst h0 h2
          simp [hkids, List.map_map, Function.comp_def]
theorem opens_of {t : T} {r : RT} {root : Bool} (ht : TellsT t r) (hn : Norm root t) (hk : r.kids ≠ []) : Opens r := by
  cases ht with
  | mk _ _ _ ks ha hl2 hk2 =>
    have hfl : ¬ flat t := fun hf => by
      apply hk
      show ks = []
      apply List.eq_nil_of_length_eq_zero
      rw [← hl2]
      unfold kidsT
      rw [if_pos hf]
      rfl
    unfold flat at hfl
    show tyOf t.f0 ≠ 1 ∧ tyOf t.f0 ≠ 4
    unfold tyOf
    constructor
    · split
      · decide
      · split
        · exact absurd (.inl (by assumption)) hfl
        · split <;> decide
    · split
      · decide
      · split
        · decide
        · split
          · exact absurd (.inr (by assumption)) hfl
          · decide
theorem rfit_of (r : RT) : ∀ (t : T), Fit t → TellsT t r → r.pre.length ≤ 1000000 → RFit r := by
  induction r using RT.induct with
  | h i ty a d at_ ks ih =>
    intro t hf ht hp
    have hks : ks.length ≤ 1000000 := by
      have h1 : (RT.node i ty a d at_ ks).kids.length < _ := RT.kids_lt _
      have h2 : (RT.node i ty a d at_ ks).kids = ks := rfl
      rw [h2] at h1
      omega
    cases ht with
    | mk _ _ _ _ ha hl2 hk2 =>
      refine RFit.mk _ _ _ _ _ _ ?_ (by omega) (fun k hk => ?_)
      · unfold attrsOf
        split
        · rw [List.length_map]
          cases hf with
          | mk _ h3 _ _ => exact h3
        · exact Nat.zero_le _
      · obtain ⟨j, hj, rfl⟩ := List.getElem_of_mem hk
        have hjt : j < (kidsT t).length := by omega
        have hsub : ∀ y ∈ kidsT t, y ∈ t.f4 := by
          intro y hy
          unfold kidsT at hy
          split at hy
          · cases hy
          · exact hy
        have hkm : (kidsT t)[j] ∈ t.f4 := hsub _ (List.getElem_mem hjt)
        refine ih _ hk _ ?_ (hk2 j hjt hj) ?_
        · cases hf with
          | mk _ _ _ h => exact h _ hkm
        · have := RT.kid_pre (r := .node i (tyOf t.f0) a (dataOf t) (attrsOf t) ks) (k := ks[j]) hk
          omega
theorem RFit.mapAt {f : List RT → List RT} (l : List Int) : ∀ (r up : RT), r.at_ l = some up → RFit r → (f up.kids).length ≤ 1000000000000 → (∀ k ∈ f up.kids, RFit k) → RFit (r.mapAt f l) := by
  induction l with
  | nil =>
    intro r up hu hr hl hk
    obtain rfl : r = up := by simpa [RT.at_] using hu
    cases hr with
    | mk i ty a d at_ ks h3 h4 h5 => exact RFit.mk _ _ _ _ _ _ h3 hl hk
  | cons j l ih =>
    intro r up hu hr hl hk
    cases hr with
    | mk i ty a d at_ ks h3 h4 h5 =>
      simp only [RT.at_] at hu
      split at hu
      case isFalse => cases hu
      obtain ⟨k, hkj, hu⟩ := Option.bind_eq_some_iff.1 hu
      have hk' : ks[j.toNat]? = some k := hkj
      rw [RT.mapAt_cons f i ty a d at_ ks j l hk']
      refine RFit.mk _ _ _ _ _ _ h3 (by rw [List.length_set]; exact h4) (fun x hx => ?_)
      rcases List.mem_or_eq_of_mem_set hx with hx | rfl
      · exact h5 x hx
      · exact ih k up hu (h5 k (List.mem_of_getElem? hk')) hl hk
theorem RFit.at {l : List Int} : ∀ {r up : RT}, r.at_ l = some up → RFit r → RFit up := by
  induction l with
  | nil =>
    intro r up hu hr
    obtain rfl : r = up := by simpa [RT.at_] using hu
    exact hr
  | cons j l ih =>
    intro r up hu hr
    simp only [RT.at_] at hu
    split at hu
    case isFalse => cases hu
    obtain ⟨k, hkj, hu2⟩ := Option.bind_eq_some_iff.1 hu
    have hkm : k ∈ r.kids := List.mem_of_getElem? hkj
    refine ih hu2 ?_
    cases hr with
    | mk i ty a d at_ ks h3 h4 h5 => exact h5 k hkm
/-- The nodes on the way to a node may have children. -/
theorem opens_way {t : T} {r up x : RT} {l : List Int} (ht : TellsT t r) (hn : Norm true t) (hu : r.at_ l = some up) (hx : x ∈ up.kids) : ∀ m y, r.at_ (l.take m) = some y → Opens y := by
  intro m y hy
  rcases at_told (l.take m) t r true hn ht with ⟨_, h⟩ | ⟨u, y', _, hy', htu, root', hnu⟩
  · rw [hy] at h; cases h
  · rw [hy] at hy'
    obtain rfl := Option.some.inj hy'
    refine opens_of htu hnu (fun e => ?_)
    have h2 : r.at_ (l.take m ++ l.drop m) = some up := by rw [List.take_append_drop]; exact hu
    rw [at_append, hy, Option.bind_some] at h2
    cases hd : l.drop m with
    | nil =>
      rw [hd] at h2
      obtain rfl : y = up := by simpa [RT.at_] using h2
      rw [e] at hx
      cases hx
    | cons j l' =>
      rw [hd] at h2
      simp only [RT.at_, e] at h2
      split at h2
      · simp at h2
      · cases h2
/-- A list with one element changed for others. -/
def spl (j : Nat) (ws : List T) (ts : List T) : List T := ts.take j ++ ws ++ ts.drop (j + 1)
theorem toTL_spl {k1 k2 ys : List RT} {x : RT} : RT.toTL (k1 ++ ys ++ k2) = spl k1.length (ys.map RT.toT) (RT.toTL (k1 ++ x :: k2)) := by
  unfold spl
  rw [RT.toTL_map, RT.toTL_map, List.map_append, List.map_append, List.map_append, List.map_cons]
  rw [List.take_left' (by rw [List.length_map])]
  rw [show (k1.map RT.toT ++ x.toT :: k2.map RT.toT).drop (k1.length + 1) = k2.map RT.toT by
    rw [← List.drop_drop, List.drop_left' (by rw [List.length_map])]
    rfl]
end Go.Proofs.Ytibfoaahdbdogaa.PDom

/- impl.neighbor at the kinds of first children and siblings. Printed in part by the program gen_sibm.py of this session. -/
namespace Go.Proofs.Ytibfoaahdbdogaa.PDom
open Go.RowKit Go.Proofs.YtibfoaahdbdogaaW.PrintWords Go.Proofs.YtibfoaahdbdogaaW.PrintLast Go.Proofs.YtibfoaahdbdogaaW.PrintMore Go.Proofs.Ytibfoaahdbdogaa.Dom
set_option linter.unusedVariables false
set_option linter.unusedSimpArgs false

theorem last_split (path : List Int) (j : Int) (h : path.getLast? = some j) : path = path.dropLast ++ [j] := by
  obtain ⟨l, rfl⟩ := List.getLast?_eq_some_iff.1 h
  simp
/-- The node at a place that isn't the root: its parent, and its number among the children. -/
theorem at_last {r x : RT} {path : List Int} {j : Int} (hx : r.at_ path = some x) (hj : path.getLast? = some j) : ∃ up, r.at_ path.dropLast = some up ∧ 0 ≤ j ∧ ∃ h : j.toNat < up.kids.length, up.kids[j.toNat] = x := by
  have e := last_split path j hj
  rw [e, at_append] at hx
  obtain ⟨up, h1, h2⟩ := Option.bind_eq_some_iff.1 hx
  refine ⟨up, h1, ?_⟩
  simp only [RT.at_] at h2
  by_cases h0 : 0 ≤ j
  · rw [if_pos h0] at h2
    obtain ⟨y, h3, h4⟩ := Option.bind_eq_some_iff.1 h2
    obtain rfl := Option.some.inj h4
    obtain ⟨h5, h6⟩ := List.getElem?_eq_some_iff.1 h3
    exact ⟨h0, h5, h6⟩
  · rw [if_neg h0] at h2
    cases h2
end Go.Proofs.Ytibfoaahdbdogaa.PDom

/- impl.Replaced: a tree with another one in a node's place. -/
namespace Go.Proofs.Ytibfoaahdbdogaa.PDom
open Go.RowKit Go.Proofs.YtibfoaahdbdogaaW.PrintWords Go.Proofs.YtibfoaahdbdogaaW.PrintLast Go.Proofs.YtibfoaahdbdogaaW.PrintMore Go.Proofs.Ytibfoaahdbdogaa.Dom
set_option linter.unusedVariables false
set_option linter.unusedSimpArgs false

theorem is_into {D D' : Tab} {p : Option Nat} {r : RT} (hs : ∀ b i, D b = some i → D' b = some i) (h : Is D p r) : Is D' p r := by
  induction h with
  | mk p i t a d at_ ks h hk ih => exact Is.mk p i t a d at_ ks (hs _ _ h) ih
theorem is_mem {D : Tab} (r : RT) : ∀ {p : Option Nat}, Is D p r → ∀ b ∈ r.pre, D b ≠ none := by
  induction r using RT.induct with
  | h i t a d at_ ks ih =>
    intro p h b hb
    have hroot : D i = some _ := h.root
    rcases List.mem_cons.1 (show b ∈ i :: RT.preL ks from hb) with rfl | hb
    · rw [hroot]; simp
    · obtain ⟨k, hk, hbk⟩ := RT.mem_preL.1 hb
      exact ih k hk (h.kid hk) b hbk
/-- A tree that has been made beside a table. -/
theorem beside {W W1 : World} {D D2 : Tab} {b : Nat} {t tw : T} {r : RT} (hdom : Dom W D) (hr : Is D none r) (hm : Made W W1 b D2 tw) :
    ∃ y, y.id = b ∧ TellsT tw y ∧ Dom W1 (uni D D2) ∧ Is (uni D D2) none r ∧ Is (uni D D2) none y ∧ y.id ∉ r.pre ∧ (∀ k, k < W.heap.size → D k = none → uni D D2 k = none) := by
  have hge : ∀ y, D2 y ≠ none → W.heap.size ≤ y := hm.fresh
  have hd : ∀ y, D y ≠ none → D2 y = none := by
    intro y hy
    cases hc : D2 y with
    | none => rfl
    | some q =>
      have := hge y (by rw [hc]; simp)
      have := hdom.lt hy
      omega
  have hd' : ∀ y, D2 y ≠ none → D y = none := by
    intro y hy
    cases hc : D y with
    | none => rfl
    | some q => exact absurd (hd y (by rw [hc]; simp)) hy
  obtain ⟨i0, hi0⟩ : ∃ i, D2 b = some i := by
    obtain ⟨_, _, i, h, _⟩ := hm.tree
    exact ⟨i, h⟩
  obtain ⟨y, rfl, hy, hto⟩ := hm.tree.rt hm.dom.wf i0 hi0
  rw [hm.root i0 hi0] at hy
  refine ⟨y, rfl, hto, (hdom.below hm.below).union hm.dom hd, is_into (fun b i h => uni_left h) hr, is_into (fun b i h => by rw [uni_right (hd' b (by rw [h]; simp)), h]) hy, fun hmem => ?_, fun k hk hn => ?_⟩
  · have h1 := hdom.lt (is_mem r hr _ hmem)
    have h2 := hge y.id (by rw [hi0]; simp)
    omega
  · rw [uni_right hn]
    cases hc : D2 k with
    | none => rfl
    | some q => have := hge k (by rw [hc]; simp); omega
theorem only_over {W W1 w' : World} {D U : Tab} (hb : Below W.heap.size W W1) (ho : Only U W1 w') (hn : ∀ k, k < W.heap.size → D k = none → U k = none) : Only D W w' :=
  ⟨ho.os.trans hb.os, ho.tape.trans hb.tape, ho.output.trans hb.output, Nat.le_trans hb.size ho.size, fun k hk hd => (ho.block k (Nat.lt_of_lt_of_le hk hb.size) (hn k hk hd)).trans (hb.block k hk)⟩
/-- The parts of a tree at a place below its root. -/
theorem place_parts {r x : RT} {path : List Int} {j : Int} (hx : r.at_ path = some x) (hj : path.getLast? = some j) : ∃ up k1 k2, r.at_ path.dropLast = some up ∧ up.kids = k1 ++ x :: k2 ∧ k1.length = j.toNat := by
  obtain ⟨up, hu, h0, hlt, he⟩ := at_last hx hj
  refine ⟨up, up.kids.take j.toNat, up.kids.drop (j.toNat + 1), hu, ?_, by rw [List.length_take]; omega⟩
  rw [← he]
  exact (List.take_append_drop j.toNat up.kids).symm.trans (by rw [List.drop_eq_getElem_cons hlt])
/-- The tree with others in the place of the node at a place. -/
def putT (t : T) (path : List Int) (ws : List T) : T := match path.getLast? with
  | some j => mapAtT (spl j.toNat ws) t path.dropLast
  | none => t
theorem put_told {t : T} {r up x : RT} {path : List Int} {j : Int} {k1 k2 ys : List RT} {ws : List T} (ht : TellsT t r) (hn : Norm true t) (hj : path.getLast? = some j) (hu : r.at_ path.dropLast = some up) (hk : up.kids = k1 ++ x :: k2) (hl : k1.length = j.toNat) (hy : ys.map RT.toT = ws) :
    (r.mapAt (fun _ => k1 ++ ys ++ k2) path.dropLast).toT = putT t path ws := by
  unfold putT
  rw [hj]
  show _ = mapAtT _ _ _
  rw [toT_mapAt (fun _ => k1 ++ ys ++ k2) (spl j.toNat ws) path.dropLast r up hu (by rw [hk, ← hl, ← hy]; exact toTL_spl) (opens_way ht hn hu (x := x) (by rw [hk]; simp)), toT_norm r t true hn ht]
theorem enters51 : ∀ (args : Array Value) (w : World), (callFunc 51 args).run Try.prog w = .ok (.enter 51 args) w := fun _ _ => by kernel_rfl
theorem c51_calls (t tw : T) (hn : Norm true t) (hnw : Norm true tw) (hf : Fit t) (hfw : Fit tw) (path : List Int) (j : Int) (hj : path.getLast? = some j) (W : World) (D : Tab) (r x : RT) (hdom : Dom W D) (hr : Is D none r) (ht : TellsT t r) (hx : r.at_ path = some x) (hp : r.pre.length ≤ 300) (hcw : countT tw ≤ 300)
    (b5 : Nat) (A3 : Option Addr) (c3 : Nat) (A4 : Option Addr) (c4 : Nat) (hb : W.heap[b5]? = some (.cells #[.int .i64 tw.f0, .string tw.f1, .string tw.f2, .slice A3 tw.f3.length c3, .slice A4 tw.f4.length c4] 25 (0, 0)))
    (h3 : Kd.C k78 W A3 tw.f3.length tw.f3) (l3 : tw.f3.length ≤ c3) (h4 : Kd.C k25 W A4 tw.f4.length tw.f4) (l4 : tw.f4.length ≤ c4) :
    Calls Try.prog 51 #[.pointer (some ⟨x.id, 0, none⟩), .pointer (some ⟨b5, 0, none⟩)] W fun e w' => e = .returned (.tuple #[]) ∧ Turns W w' D r (putT t path [tw]) := by
  obtain ⟨up, k1, k2, hu, hk, hl⟩ := place_parts hx hj
  have HM := Aside0.mk (made_calls _ tw (Nat.le_refl _) hfw W A3 c3 A4 c4 h3 l3 h4 l4)
  have x0 := blk_cell hb 0
  have x1 := blk_cell hb 1
  have x2 := blk_cell hb 2
  have x3 := blk_cell hb 3
  have x4 := blk_cell hb 4
  have HR := Aside0.mk (show ∀ W1 b D2, Made W W1 b D2 tw → Calls Try.prog 52 #[.pointer (some ⟨x.id, 0, none⟩), ptr (some b)] W1 fun e w' => e = .returned (.tuple #[]) ∧ Turns W w' D r (putT t path [tw]) from fun W1 b D2 hm => by
    obtain ⟨y, rfl, hty, hd, hr1, hy1, hav, hnn⟩ := beside (t := t) hdom hr hm
    refine (replace_calls W1 (uni D D2) hd r y up x path.dropLast k1 k2 hr1 hy1 hav hu hk).mono ?_
    rintro e w' ⟨he, D', g1, g2, g3, g4⟩
    refine ⟨he, D', _, g1, g2, RT.mapAt_id _ _ _, ?_, ?_, only_over hm.below g3 hnn, fun k hk2 hd2 => (g4 k).1 (hnn k hk2 hd2)⟩
    · have hfr := rfit_of r t hf ht (by omega)
      have hfup := RFit.at hu hfr
      have hyl : y.pre.length ≤ 300 := by obtain ⟨_, h⟩ := told_paths y tw true hnw hty; omega
      refine RFit.mapAt path.dropLast r up hu hfr ?_ (fun q hq => ?_)
      · have : (k1 ++ y :: k2).length = up.kids.length := by rw [hk]; simp
        rw [this]
        cases hfup with
        | mk _ _ _ _ _ _ _ h _ => exact h
      · have hq2 : q = y ∨ q ∈ up.kids := by
          rw [hk]
          simp at hq ⊢
          rcases hq with h | h | h
          · exact .inr (.inl h)
          · exact .inl h
          · exact .inr (.inr (.inr h))
        rcases hq2 with rfl | hq2
        · exact rfit_of q tw hfw hty (by omega)
        · cases hfup with
          | mk _ _ _ _ _ _ _ _ h => exact h q hq2
    · have := put_told (ys := [y]) (ws := [tw]) ht hn hj hu hk hl (by simp [toT_norm y tw true hnw hty])
      simpa using this)
  clear hb h3 h4 l3 l4 hdom hr ht hx hu hk hl hn hnw hf hfw hp hcw
  generalize x.id = xi at *
  go_enter Try.func51, Try.ntmps51
  go_wp2_with (first
    | (go_at_call 37; go_must (refine HM.out.mono ?_; rintro e W1 ⟨b, D2, rfl, hm⟩; have HC := Aside0.mk (HR.out W1 b D2 hm); clear hm; simp only [ptr_some] at HC ⊢))
    | (go_at_call 52; go_must (refine HC.out.mono ?_; rintro e w' ⟨rfl, hT⟩; have HT := Aside0.mk hT; clear hT)))
  go_end0
  exact ⟨rfl, HT.out⟩
end Go.Proofs.Ytibfoaahdbdogaa.PDom

/- equal29 of a tree with itself is true. Plain facts. -/
namespace Go.Proofs.Ytibfoaahdbdogaa.PDom
open Go.RowKit Go.Proofs.YtibfoaahdbdogaaW.PrintWords Go.Proofs.YtibfoaahdbdogaaW.PrintLast Go.Proofs.YtibfoaahdbdogaaW.PrintMore Go.Proofs.Ytibfoaahdbdogaa.Dom
set_option linter.unusedVariables false
set_option linter.unusedSimpArgs false

/-- Trees whose rows can be counted. -/
inductive Sml : T → Prop
  | mk (t : T) (ha : t.f3.length ≤ 4611686018427387904) (hk : t.f4.length ≤ 4611686018427387904) (h : ∀ y ∈ t.f4, Sml y) : Sml t
theorem fit_sml {t : T} (h : Fit t) : Sml t := by
  induction h with
  | mk t ha hk h ih => exact Sml.mk t (by omega) (by omega) ih
theorem equal_l1 (u : T) (hk : u.f4.length ≤ 4611686018427387904) (ih : ∀ y ∈ u.f4, Ev (fun k => laws_equal29.f k y.f0 y.f1 y.f2 y.f3 y.f4 y.f0 y.f1 y.f2 y.f3 y.f4) true) : ∀ (n j : Nat), u.f4.length = j + n →
    Ev (fun k => laws_equal29.l1 k (u.f4.length : Int) (j : Int) u.f0 u.f1 u.f2 u.f3 u.f4 u.f0 u.f1 u.f2 u.f3 u.f4) true := by
  intro n
  induction n with
  | zero =>
    intro j hj
    refine Ev.step (f := fun _ => some true) (fun k => ?_) (Ev.now _)
    simp only [laws_equal29.l1]
    rw [if_neg (by omega)]
  | succ n ihn =>
    intro j hj
    have hlt : j < u.f4.length := by omega
    refine Ev.step (f := fun k => (laws_equal29.f k u.f4[j].f0 u.f4[j].f1 u.f4[j].f2 u.f4[j].f3 u.f4[j].f4 u.f4[j].f0 u.f4[j].f1 u.f4[j].f2 u.f4[j].f3 u.f4[j].f4).bind fun b => if b = true then laws_equal29.l1 k (u.f4.length : Int) ((j + 1 : Nat) : Int) u.f0 u.f1 u.f2 u.f3 u.f4 u.f0 u.f1 u.f2 u.f3 u.f4 else some false) (fun k => ?_) ?_
    · simp only [laws_equal29.l1]
      rw [if_pos (by omega), if_pos (by omega), if_pos (by omega), if_pos (by omega), rd_at u.f4 hlt, succ_wrap j (by omega)]
    · refine Ev.bind (ih _ (List.getElem_mem hlt)) ?_
      simpa using ihn (j + 1) (by omega)
theorem equal_l0 (u : T) (ha : u.f3.length ≤ 4611686018427387904) (h1 : Ev (fun k => laws_equal29.l1 k (u.f4.length : Int) ((0 : Nat) : Int) u.f0 u.f1 u.f2 u.f3 u.f4 u.f0 u.f1 u.f2 u.f3 u.f4) true) : ∀ (n j : Nat), u.f3.length = j + n →
    Ev (fun k => laws_equal29.l0 k (u.f3.length : Int) (j : Int) u.f0 u.f1 u.f2 u.f3 u.f4 u.f0 u.f1 u.f2 u.f3 u.f4) true := by
  intro n
  induction n with
  | zero =>
    intro j hj
    refine Ev.step (f := fun k => laws_equal29.l1 k (u.f4.length : Int) ((0 : Nat) : Int) u.f0 u.f1 u.f2 u.f3 u.f4 u.f0 u.f1 u.f2 u.f3 u.f4) (fun k => ?_) h1
    simp only [laws_equal29.l0]
    rw [if_neg (by omega)]
    rfl
  | succ n ihn =>
    intro j hj
    refine Ev.step (f := fun k => laws_equal29.l0 k (u.f3.length : Int) ((j + 1 : Nat) : Int) u.f0 u.f1 u.f2 u.f3 u.f4 u.f0 u.f1 u.f2 u.f3 u.f4) (fun k => ?_) (ihn (j + 1) (by omega))
    simp only [laws_equal29.l0]
    rw [if_pos (by omega), if_pos (by omega), if_pos (by omega), if_pos (by omega), succ_wrap j (by omega)]
    simp
theorem equal_ev {u : T} (hu : Sml u) : Ev (fun k => laws_equal29.f k u.f0 u.f1 u.f2 u.f3 u.f4 u.f0 u.f1 u.f2 u.f3 u.f4) true := by
  induction hu with
  | mk u ha hk h ih =>
    have h1 := equal_l1 u hk ih u.f4.length 0 (by omega)
    have h0 := equal_l0 u ha h1 u.f3.length 0 (by omega)
    refine Ev.step (f := fun k => laws_equal29.j0 k false u.f0 u.f1 u.f2 u.f3 u.f4 u.f0 u.f1 u.f2 u.f3 u.f4) (fun k => ?_) ?_
    · simp [laws_equal29.f]
    · refine Ev.step (f := fun k => laws_equal29.l0 k (u.f3.length : Int) ((0 : Nat) : Int) u.f0 u.f1 u.f2 u.f3 u.f4 u.f0 u.f1 u.f2 u.f3 u.f4) (fun k => ?_) h0
      simp only [laws_equal29.j0]
      rw [if_neg (by simp)]
      rfl
/-- What is put into a tree's place leaves it countable. -/
theorem sml_spl {j : Nat} {ws ts : List T} (hw : ∀ y ∈ ws, Sml y) (ht : ∀ y ∈ ts, Sml y) : ∀ y ∈ spl j ws ts, Sml y := by
  intro y hy
  simp only [spl, List.mem_append] at hy
  rcases hy with (h | h) | h
  · exact ht y (List.mem_of_mem_take h)
  · exact hw y h
  · exact ht y (List.mem_of_mem_drop h)
theorem len_spl {j : Nat} {ws ts : List T} : (spl j ws ts).length ≤ ts.length + ws.length := by
  simp only [spl, List.length_append, List.length_take, List.length_drop]
  omega
theorem sml_mapAt {f : List T → List T} (hf : ∀ ks, ks.length ≤ 4398046510976 → (∀ y ∈ ks, Fit y) → (f ks).length ≤ 4611686018427387904 ∧ ∀ y ∈ f ks, Sml y) : ∀ (l : List Int) (t : T), Fit t → Sml (mapAtT f t l) := by
  intro l
  induction l with
  | nil =>
    intro t ht
    obtain ⟨_, ha, hk, h⟩ := ht
    obtain ⟨h1, h2⟩ := hf t.f4 hk h
    exact Sml.mk _ (by show t.f3.length ≤ _; omega) h1 h2
  | cons j l ih =>
    intro t ht
    obtain ⟨_, ha, hk, h⟩ := ht
    cases e : t.f4[j.toNat]? with
    | none =>
      rw [show mapAtT f t (j :: l) = t from by cases t; simp only [mapAtT]; simp only at e; rw [e]]
      exact fit_sml (Fit.mk t ha hk h)
    | some y =>
      have hy := h y (List.mem_of_getElem? e)
      rw [show mapAtT f t (j :: l) = { t with f4 := t.f4.set j.toNat (mapAtT f y l) } from by simp [mapAtT, e]]
      refine Sml.mk _ (by show t.f3.length ≤ _; omega) (by simp; omega) (fun z hz => ?_)
      rcases List.mem_or_eq_of_mem_set hz with h1 | rfl
      · exact fit_sml (h z h1)
      · exact ih y hy
theorem sml_putT {t : T} (ht : Fit t) {ws : List T} (hw : ∀ y ∈ ws, Sml y) (hl : ws.length ≤ 4398046510976) (path : List Int) : Sml (putT t path ws) := by
  unfold putT
  cases path.getLast? with
  | none => exact fit_sml ht
  | some j => exact sml_mapAt (fun ks hks hy => ⟨by have := len_spl (j := j.toNat) (ws := ws) (ts := ks); omega, sml_spl hw (fun y h => fit_sml (hy y h))⟩) _ t ht
end Go.Proofs.Ytibfoaahdbdogaa.PDom

/- impl.Replaced: its contract. -/
namespace Go.Proofs.Ytibfoaahdbdogaa.PDom
open Go.RowKit Go.Proofs.YtibfoaahdbdogaaW.PrintWords Go.Proofs.YtibfoaahdbdogaaW.PrintLast Go.Proofs.YtibfoaahdbdogaaW.PrintMore Go.Proofs.Ytibfoaahdbdogaa.Dom
set_option linter.unusedVariables false
set_option linter.unusedSimpArgs false

theorem three_blocks (w : World) (o1 o2 o3 : Obj) : (((w.alloc o1).alloc o2).alloc o3).heap.size = w.heap.size + 3 ∧ (((w.alloc o1).alloc o2).alloc o3).heap[w.heap.size + 1]? = some o2 ∧ (((w.alloc o1).alloc o2).alloc o3).heap[w.heap.size + 2]? = some o3 ∧ Below w.heap.size w (((w.alloc o1).alloc o2).alloc o3) := by
  refine ⟨?_, ?_, ?_, below_alloc (below_alloc (below_alloc (Below.refl _ _) _) _) _⟩
  · show (((w.heap.push _).push _).push _).size = _
    simp
  · exact (heap_alloc_old _ _ (by show _ < ((w.heap.push _).push _).size; simp)).trans (two_new w _ _)
  · show (((w.heap.push _).push _).push _)[w.heap.size + 2]? = _
    rw [show w.heap.size + 2 = ((w.heap.push o1).push o2).size by simp, Array.getElem?_push_size]
/-- The five cells of a struct written over an old block: what is told of a tree stays. -/
theorem toldB_set {w W0 w1 w' : World} {u : T} {b : Nat} {A5 A6 : Option Addr} {c5 c6 : Nat} (hb : b < W0.heap.size) (hw : w.heap.size ≤ b) (hW : Below w.heap.size w W0) (m5 : u.f3.length ≤ c5) (F5 : Kd.F k78 w1 (fun k => W0.heap.size ≤ k) A5 u.f3.length u.f3) (m6 : u.f4.length ≤ c6) (F6 : Kd.F k25 w1 (fun k => W0.heap.size ≤ k) A6 u.f4.length u.f4) (hb1 : Below W0.heap.size W0 w1) (a0 a1 a2 a3 a4 : Value)
    (hw' : w' = (((((w1.setCell ⟨b, 0, none⟩ a0).setCell ⟨b, 1, none⟩ a1).setCell ⟨b, 2, none⟩ a2).setCell ⟨b, 3, none⟩ a3).setCell ⟨b, 4, none⟩ a4)) :
    ToldB w w' u true (.returned (.tuple #[.agg #[.int .i64 u.f0, .string u.f1, .string u.f2, .slice A5 u.f3.length c5, .slice A6 u.f4.length c6], .bool true])) := by
  subst hw'
  have hs : ∀ k, W0.heap.size ≤ k → k < w1.heap.size → (((((w1.setCell ⟨b, 0, none⟩ a0).setCell ⟨b, 1, none⟩ a1).setCell ⟨b, 2, none⟩ a2).setCell ⟨b, 3, none⟩ a3).setCell ⟨b, 4, none⟩ a4).heap[k]? = w1.heap[k]? := fun k hk _ => sets5 w1 _ _ _ _ _ _ k (by omega)
  have hle : w.heap.size ≤ W0.heap.size := hW.size
  refine ⟨A5, c5, A6, c6, rfl, m5, Kd.F_mono (Kd.F_step F5 hs) (fun k hk => Nat.le_trans hle hk), m6, Kd.F_mono (Kd.F_step F6 hs) (fun k hk => Nat.le_trans hle hk), ?_⟩
  have hbb := below_step hW hb1
  exact ((((hbb.setCell (p := ⟨b, 0, none⟩) hw _).setCell (p := ⟨b, 1, none⟩) hw _).setCell (p := ⟨b, 2, none⟩) hw _).setCell (p := ⟨b, 3, none⟩) hw _).setCell (p := ⟨b, 4, none⟩) hw _
set_option maxHeartbeats 1000000 in
set_option maxRecDepth 100000 in
theorem replaced_calls (t tw : T) (hn : Norm true t) (hnw : Norm true tw) (hf : Fit t) (hfw : Fit tw) (hc : countT t ≤ 300) (hcw : countT tw ≤ 300) (path : List Int) (j : Int) (hj : path.getLast? = some j) (hat : atT t path ≠ none) (w : World) (A3 : Option Addr) (c3 : Nat) (A4 : Option Addr) (c4 : Nat) (A1 : Option Addr) (c1 : Nat) (B3 : Option Addr) (d3 : Nat) (B4 : Option Addr) (d4 : Nat)
    (h3 : Kd.C k78 w A3 t.f3.length t.f3) (l3 : t.f3.length ≤ c3) (h4 : Kd.C k25 w A4 t.f4.length t.f4) (l4 : t.f4.length ≤ c4) (h1 : (Kd.int .i64).C w A1 path.length path) (hp : path.length ≤ 4398046510976)
    (g3 : Kd.C k78 w B3 tw.f3.length tw.f3) (m3 : tw.f3.length ≤ d3) (g4 : Kd.C k25 w B4 tw.f4.length tw.f4) (m4 : tw.f4.length ≤ d4) :
    Calls Try.prog 28 #[.agg #[.int .i64 t.f0, .string t.f1, .string t.f2, .slice A3 t.f3.length c3, .slice A4 t.f4.length c4], .slice A1 path.length c1, .agg #[.int .i64 tw.f0, .string tw.f1, .string tw.f2, .slice B3 tw.f3.length d3, .slice B4 tw.f4.length d4]] w fun e w' => ToldB w w' (putT t path [tw]) true e := by
  have hmf : ∀ (fn : Fn) (first cap : Array Value) (w : World), (Instr.makeFunc fn first cap).run Try.prog w = .ok (.func fn first cap) w := fun _ _ _ _ => rfl
  obtain ⟨z0, z1, z2, z3⟩ := three_blocks w (.cells #[.int .i64 t.f0, .string t.f1, .string t.f2, .slice A3 t.f3.length c3, .slice A4 t.f4.length c4] 25) (.cells #[.int .i64 tw.f0, .string tw.f1, .string tw.f2, .slice B3 tw.f3.length d3, .slice B4 tw.f4.length d4] 25) (.cells #[.int .i64 0, .string ⟨#[]⟩, .string ⟨#[]⟩, .slice none 0 0, .slice none 0 0] 25)
  have hch := changed_calls 51 #[.pointer (some ⟨w.heap.size + 1, 0, none⟩)] enters51 t hf _ A3 c3 A4 c4 A1 c1 (Kd.C_below h3 z3) l3 (Kd.C_below h4 z3) l4 path (Kd.C_below h1 z3) hp (putT t path [tw]) (fun r ht => by obtain ⟨_, h⟩ := told_paths r t true hn ht; omega) (fun W D r hb hno hdom hr ht => by
    rcases at_told path t r true hn ht with ⟨h, _⟩ | ⟨u, x, _, hx, _, _⟩
    · exact absurd h hat
    · refine ⟨x, hx, ?_⟩
      obtain ⟨_, hpl⟩ := told_paths r t true hn ht
      have hbw := below_step z3 hb
      exact c51_calls t tw hn hnw hf hfw path j hj W D r x hdom hr ht hx (by omega) hcw (w.heap.size + 1) B3 d3 B4 d4 ((hb.block _ (by omega)).trans z1) (Kd.C_below g3 hbw) m3 (Kd.C_below g4 hbw) m4)
  have HCH := Aside0.mk hch
  have Z0 := Aside0.mk z0
  have Z2 := Aside0.mk z2
  have Z3 := Aside0.mk z3
  clear hch z0 z1 z2 z3 h3 l3 h4 l4 h1 hp g3 m3 g4 m4 hn hnw hf hfw hc hcw hj hat
  generalize putT t path [tw] = u at *
  go_enter Try.func28, Try.ntmps28
  go_wp2_with (go_at_call 50; go_must (refine HCH.out.mono ?_; rintro e w4 ⟨A5, c5, A6, c6, rfl, m5, F5, m6, F6, hb4⟩; have hb64 := (hb4.block _ (by rw [Z0.out]; omega)).trans Z2.out; have r0 := blk_cell hb64 0; have r1 := blk_cell hb64 1; have r2 := blk_cell hb64 2; have r3 := blk_cell hb64 3; have r4 := blk_cell hb64 4; have f0 := blk_frozen hb64 0; have f1 := blk_frozen hb64 1; have f2 := blk_frozen hb64 2; have f3 := blk_frozen hb64 3; have f4 := blk_frozen hb64 4; have HE := Aside0.mk (fun a0 a1 a2 a3 a4 => toldB_set (w := w) (b := w.heap.size + 2) (by rw [Z0.out]; omega) (by omega) Z3.out m5 F5 m6 F6 hb4 a0 a1 a2 a3 a4 rfl); clear hb4 F5 F6 m5 m6 hb64 HCH))
  refine bodyPost_ret (v := .tuple #[.agg #[.int .i64 u.f0, .string u.f1, .string u.f2, .slice A5 u.f3.length c5, .slice A6 u.f4.length c6], .bool true]) (by simp [results, Try.results28, go_sem, r0, r1, r2, r3, r4]) rfl ?_
  exact HE.out _ _ _ _ _
end Go.Proofs.Ytibfoaahdbdogaa.PDom

/- spec.Put29: the tree with others in a node's place. -/
namespace Go.Proofs.Ytibfoaahdbdogaa.PDom
open Go.RowKit Go.Proofs.YtibfoaahdbdogaaW.PrintWords Go.Proofs.YtibfoaahdbdogaaW.PrintLast Go.Proofs.YtibfoaahdbdogaaW.PrintMore Go.Proofs.Ytibfoaahdbdogaa.Dom
set_option linter.unusedVariables false
set_option linter.unusedSimpArgs false

theorem putT_one (t : T) (j : Int) (ws : List T) : putT t [j] ws = { t with f4 := spl j.toNat ws t.f4 } := rfl
theorem putT_cons (t : T) (j : Int) (l : List Int) (hl : l ≠ []) (ws : List T) {k : T} (hk : t.f4[j.toNat]? = some k) : putT t (j :: l) ws = { t with f4 := spl j.toNat [putT k l ws] t.f4 } := by
  have hlast : (j :: l).getLast? = l.getLast? := by
    cases l with
    | nil => exact absurd rfl hl
    | cons a l => simp [List.getLast?_cons_cons]
  have hdrop : (j :: l).dropLast = j :: l.dropLast := by
    cases l with
    | nil => exact absurd rfl hl
    | cons a l => rfl
  obtain ⟨x, hx⟩ : ∃ x, l.getLast? = some x := by
    cases hg : l.getLast? with
    | none => rw [List.getLast?_eq_none_iff] at hg; exact absurd hg hl
    | some x => exact ⟨x, rfl⟩
  have hlt := (List.getElem?_eq_some_iff.1 hk).1
  unfold putT
  rw [hlast, hdrop, hx]
  show mapAtT _ t (j :: l.dropLast) = _
  simp only [mapAtT, hk]
  have : ∀ y, t.f4.set j.toNat y = spl j.toNat [y] t.f4 := fun y => by
    unfold spl
    rw [List.set_eq_take_append_cons_drop, if_pos hlt]
    simp
  rw [this]
theorem empty_row (w : World) (base : Nat) (ok : Nat → Prop) (hb : base ≤ w.heap.size) (ho : ok w.heap.size) : Kd.N k25 25 (w.alloc (.cells #[] 25)) base ok (.slice (some ⟨w.heap.size, 0, none⟩) 0 0) [] := by
  refine Kd.R_N ⟨fun k hk => ?_, [], ⟨rfl, .inr ⟨w.heap.size, 0, #[], rfl, hb, heap_alloc_new w _, Nat.le_refl _, Nat.zero_le _, rfl, rfl⟩⟩, ⟨rfl, fun j p h => by simp at h⟩⟩
  have : w.heap.size = k := by simpa [Value.ownBlock] using hk
  rw [← this]
  exact ho
/-- A tree that may share rows with what came in. -/
def ToldF (w w' : World) (P : Nat → Prop) (t : T) (e : Ending) : Prop := ∃ A3 c3 A4 c4, e = .returned (.agg #[.int .i64 t.f0, .string t.f1, .string t.f2, .slice A3 t.f3.length c3, .slice A4 t.f4.length c4]) ∧ t.f3.length ≤ c3 ∧ Kd.F k78 w' (fun k => P k ∨ w.heap.size ≤ k) A3 t.f3.length t.f3 ∧ t.f4.length ≤ c4 ∧ Kd.F k25 w' (fun k => P k ∨ w.heap.size ≤ k) A4 t.f4.length t.f4 ∧ Below w.heap.size w w'
theorem count_kid {t k : T} (h : k ∈ t.f4) : countT k < countT t := by
  have : ∀ l : List T, k ∈ l → countT k ≤ countTL l := by
    intro l
    induction l with
    | nil => intro h; cases h
    | cons x l ih =>
      intro h
      simp only [countTL]
      rcases List.mem_cons.1 h with rfl | h
      · omega
      · have := ih h
        omega
  have h2 := this t.f4 h
  have h3 := countT_eq t
  omega
theorem count_len (t : T) : t.f4.length < countT t := by
  have : ∀ l : List T, l.length ≤ countTL l := by
    intro l
    induction l with
    | nil => exact Nat.le_refl _
    | cons x l ih =>
      simp only [countTL, List.length_cons]
      have := countT_eq x
      omega
  have := this t.f4
  rw [countT_eq]
  omega
section
variable {w w1 w2 w3 : World} {P : Nat → Prop} {v v1 : Value} {xs ys : List T}
/-- Footprints of what came in are none of an own row. -/
theorem in_apart (hP : ∀ k, P k → k < w.heap.size) (hN : Kd.N k25 25 w1 w.heap.size (fun k => P k ∨ w.heap.size + 2 ≤ k) v xs) : ∀ k, P k → (P k ∨ w.heap.size + 2 ≤ k) ∧ some k ≠ v.ownBlock :=
  fun k hk => ⟨.inl hk, fun e => by have := Kd.N_base hN k e.symm; have := hP k hk; omega⟩
end
/-- An element of a row of trees that is only read. -/
theorem at_F {w : World} {P : Nat → Prop} {A : Option Addr} {n : Nat} {xs : List T} (h : Kd.F k25 w P A n xs) (i : Int) (h0 : 0 ≤ i) (h1 : i < n) : ∃ ad A3 c3 A4 c4, A = some ad ∧ w.cell? (ad.add (i.toNat * 5)) = some (.int .i64 (xs.getD i.toNat z25).f0) ∧ w.cell? ⟨(ad.add (i.toNat * 5)).block, (ad.add (i.toNat * 5)).off + 1, none⟩ = some (.string (xs.getD i.toNat z25).f1) ∧ w.cell? ⟨(ad.add (i.toNat * 5)).block, (ad.add (i.toNat * 5)).off + 2, none⟩ = some (.string (xs.getD i.toNat z25).f2) ∧
    w.cell? ⟨(ad.add (i.toNat * 5)).block, (ad.add (i.toNat * 5)).off + 3, none⟩ = some (.slice A3 (xs.getD i.toNat z25).f3.length c3) ∧ w.cell? ⟨(ad.add (i.toNat * 5)).block, (ad.add (i.toNat * 5)).off + 4, none⟩ = some (.slice A4 (xs.getD i.toNat z25).f4.length c4) ∧
    (xs.getD i.toNat z25).f3.length ≤ c3 ∧ Kd.F k78 w P A3 (xs.getD i.toNat z25).f3.length (xs.getD i.toNat z25).f3 ∧ (xs.getD i.toNat z25).f4.length ≤ c4 ∧ Kd.F k25 w P A4 (xs.getD i.toNat z25).f4.length (xs.getD i.toNat z25).f4 := by
  obtain ⟨ad, cs, rfl, hcl, hK, hcc, _⟩ := Kd.F_get h z25 i h0 h1
  have hc : ∀ j u, cs[j]? = some u → w.cell? (ad.add (i.toNat * 5 + j)) = some u := hcc
  obtain ⟨A3, c3, A4, c4, rfl, l3, g3, l4, g4⟩ := k25_openF hK
  exact ⟨ad, A3, c3, A4, c4, rfl, hc 0 _ rfl, by rw [← add_field _ _ 1 (by omega)]; exact hc 1 _ rfl, by rw [← add_field _ _ 2 (by omega)]; exact hc 2 _ rfl, by rw [← add_field _ _ 3 (by omega)]; exact hc 3 _ rfl, by rw [← add_field _ _ 4 (by omega)]; exact hc 4 _ rfl, l3, g3, l4, g4⟩
/-- The tree's box, the result's box, and the row that is being made. -/
structure PB (w wr : World) (P : Nat → Prop) (c0 : Array Value) (v : Value) (xs : List T) : Prop where
  box : wr.heap[w.heap.size]? = some (.cells c0 25 (0, 0))
  res : wr.heap[w.heap.size + 1]? = some (.cells #[.int .i64 0, .string ⟨#[]⟩, .string ⟨#[]⟩, .slice none 0 0, .slice none 0 0] 25 (0, 0))
  row : Kd.N k25 25 wr w.heap.size (fun k => P k ∨ w.heap.size + 2 ≤ k) v xs
  below : Below w.heap.size w wr
section
variable {w wr w1 w2 w3 : World} {P : Nat → Prop} {c0 : Array Value} {v v1 : Value} {xs ys : List T}
theorem PB.size (h : PB w wr P c0 v xs) : w.heap.size + 2 ≤ wr.heap.size := blk_lt h.res
theorem PB.moved (h : PB w wr P c0 v xs) (hb : Below wr.heap.size wr w1) : PB w w1 P c0 v xs :=
  ⟨(hb.block _ (blk_lt h.box)).trans h.box, (hb.block _ (blk_lt h.res)).trans h.res, Kd.N_below h.row hb, below_step h.below hb⟩
theorem PB.grow (h : PB w wr P c0 v xs) (hP : ∀ k, P k → k < w.heap.size) (ho : Kd.N k25 25 w3 w.heap.size (fun k => P k ∨ w.heap.size + 2 ≤ k) v1 ys) (hb3 : Below w.heap.size w w3) (hg : wr.grownBy w3 v.ownBlock) : PB w w3 P c0 v1 ys := by
  have n0 : some w.heap.size ≠ v.ownBlock := fun e => by
    rcases h.row.1 _ e.symm with h | h
    · have := hP _ h; omega
    · omega
  have n1 : some (w.heap.size + 1) ≠ v.ownBlock := fun e => by
    rcases h.row.1 _ e.symm with h | h
    · have := hP _ h; omega
    · omega
  exact ⟨grown_kept hg h.box n0, grown_kept hg h.res n1, ho, hb3⟩
theorem PB.apart (h : PB w wr P c0 v xs) (hP : ∀ k, P k → k < w.heap.size) : ∀ k, P k → (P k ∨ w.heap.size + 2 ≤ k) ∧ some k ≠ v.ownBlock := in_apart hP h.row
end
theorem put_end {w w6 : World} {P : Nat → Prop} {t : T} {c0 : Array Value} {A3 A9 : Option Addr} {c3 L1 k9 : Nat} {xs : List T} (hP : ∀ k, P k → k < w.heap.size) (h : PB w w6 P c0 (.slice A9 L1 k9) xs) (hL : L1 = xs.length) (f3 : Kd.F k78 w P A3 t.f3.length t.f3) (l3 : t.f3.length ≤ c3) (a : Value) (a0 a1 a2 a3 a4 : Value) :
    ToldF w ((((((w6.setCell ⟨w.heap.size, 4, none⟩ a).setCell ⟨w.heap.size + 1, 0, none⟩ a0).setCell ⟨w.heap.size + 1, 1, none⟩ a1).setCell ⟨w.heap.size + 1, 2, none⟩ a2).setCell ⟨w.heap.size + 1, 3, none⟩ a3).setCell ⟨w.heap.size + 1, 4, none⟩ a4) P { t with f4 := xs } (.returned (.agg #[.int .i64 t.f0, .string t.f1, .string t.f2, .slice A3 t.f3.length c3, .slice A9 L1 k9])) := by
  subst hL
  have hb := Below.setCell h.below (p := ⟨w.heap.size, 4, none⟩) (Nat.le_refl _) a
  have hb2 := ((((hb.setCell (p := ⟨w.heap.size + 1, 0, none⟩) (by show _ ≤ w.heap.size + 1; omega) a0).setCell (p := ⟨w.heap.size + 1, 1, none⟩) (by show _ ≤ w.heap.size + 1; omega) a1).setCell (p := ⟨w.heap.size + 1, 2, none⟩) (by show _ ≤ w.heap.size + 1; omega) a2).setCell (p := ⟨w.heap.size + 1, 3, none⟩) (by show _ ≤ w.heap.size + 1; omega) a3).setCell (p := ⟨w.heap.size + 1, 4, none⟩) (by show _ ≤ w.heap.size + 1; omega) a4
  have hrow := Kd.N_step h.row (w1 := ((((((w6.setCell ⟨w.heap.size, 4, none⟩ a).setCell ⟨w.heap.size + 1, 0, none⟩ a0).setCell ⟨w.heap.size + 1, 1, none⟩ a1).setCell ⟨w.heap.size + 1, 2, none⟩ a2).setCell ⟨w.heap.size + 1, 3, none⟩ a3).setCell ⟨w.heap.size + 1, 4, none⟩ a4)) (fun k hk _ => by
    have hne : k ≠ w.heap.size ∧ k ≠ w.heap.size + 1 := by
      rcases hk with hk | hk
      · have := hP k hk; omega
      · omega
    rw [sets5 _ _ _ _ _ _ _ k hne.2, Below.heap_setCell w6 ⟨w.heap.size, 4, none⟩ a k hne.1])
  exact ⟨A3, c3, A9, k9, rfl, l3, Kd.F_mono (Kd.F_below f3 hb2) (fun k hk => .inl hk), (Kd.N_reads' hrow).2.1, Kd.F_mono (Kd.N_F hrow) (fun k hk => by rcases hk with h | h; exact .inl h; exact .inr (by omega)), hb2⟩
set_option maxHeartbeats 4000000 in
set_option maxRecDepth 100000 in
theorem put29_calls (P : Nat → Prop) (ws : List T) (hws : ws.length ≤ 1000000) (path : List Int) : ∀ (t : T) (w : World), path ≠ [] → atT t path ≠ none → countT t ≤ 1000000 → (∀ k, P k → k < w.heap.size) → ∀ (A3 : Option Addr) (c3 : Nat) (A4 : Option Addr) (c4 : Nat) (A1 : Option Addr) (c1 : Nat) (B : Option Addr) (d : Nat),
    Kd.F k78 w P A3 t.f3.length t.f3 → t.f3.length ≤ c3 → Kd.F k25 w P A4 t.f4.length t.f4 → t.f4.length ≤ c4 → (Kd.int .i64).C w A1 path.length path → path.length ≤ c1 → Kd.F k25 w P B ws.length ws → ws.length ≤ d →
    Calls Try.prog 30 #[.agg #[.int .i64 t.f0, .string t.f1, .string t.f2, .slice A3 t.f3.length c3, .slice A4 t.f4.length c4], .slice A1 path.length c1, .slice B ws.length d] w fun e w' => ToldF w w' P (putT t path ws) e := by
  induction path with
  | nil => intro t w h; exact absurd rfl h
  | cons j l ih =>
    intro t w _ hat hcnt hP A3 c3 A4 c4 A1 c1 B d f3 l3 f4 l4 f1 l1 fb lb
    have hat' := hat
    simp only [atT] at hat'
    by_cases hj0 : 0 ≤ j
    case neg => rw [if_neg hj0] at hat'; exact absurd rfl hat'
    rw [if_pos hj0] at hat'
    cases hkj : t.f4[j.toNat]? with
    | none => rw [hkj] at hat'; exact absurd rfl hat'
    | some k =>
      rw [hkj, Option.bind_some] at hat'
      have hjl := (List.getElem?_eq_some_iff.1 hkj).1
      have hlen := count_len t
      have HB0 := Aside0.mk (below_alloc (below_alloc (Below.refl w.heap.size w) (.cells #[.int .i64 t.f0, .string t.f1, .string t.f2, .slice A3 t.f3.length c3, .slice A4 t.f4.length c4] 25)) (.cells #[.int .i64 0, .string ⟨#[]⟩, .string ⟨#[]⟩, .slice none 0 0, .slice none 0 0] 25))
      obtain ⟨ad, rfl, hp0⟩ := Kd.at_int (Kd.C_below f1 HB0.out) (0 : Int) (by omega) (by rw [List.length_cons]; omega)
      have hp0' : ((w.alloc (.cells #[.int .i64 t.f0, .string t.f1, .string t.f2, .slice A3 t.f3.length c3, .slice A4 t.f4.length c4] 25)).alloc (.cells #[.int .i64 0, .string ⟨#[]⟩, .string ⟨#[]⟩, .slice none 0 0, .slice none 0 0] 25)).cell? ad = some (.int .i64 j) := by
        have e : ad.add ((0 : Int)).toNat = ad := by cases ad; rfl
        rw [e] at hp0
        simpa [rd] using hp0
      clear hp0
      obtain ⟨i25, hi25, hz25⟩ : ∃ i, Try.prog.info? 25 = some i ∧ i.size = 5 := by
        obtain ⟨i, hi, hz⟩ := Option.map_eq_some_iff.1 infoNd
        exact ⟨i, hi, by simp only [Prod.mk.injEq] at hz; exact hz.2.1⟩
      obtain ⟨i3, hi3, hz3⟩ : ∃ i, Try.prog.info? 3 = some i ∧ i.size = 1 := by
        obtain ⟨i, hi, hz⟩ := Option.map_eq_some_iff.1 info3
        exact ⟨i, hi, by simp only [Prod.mk.injEq] at hz; exact hz.2.1⟩
      have hcut1 := cut_to (P := Try.prog) 23 25 .i64 Try.underlying23 hi25 A4 t.f4.length c4 j hj0 (by omega) l4
      have hcut2 := cut_from (P := Try.prog) 23 25 .i64 Try.underlying23 hi25 5 hz25 A4 t.f4.length c4 (j + 1) (by omega) (by omega)
      have F1 := Kd.F_take f4 (m := j.toNat) (by omega)
      have F2 := Kd.F_cut f4 (m := j.toNat + 1) (by omega) l4
      have hl1 : (t.f4.take j.toNat).length = j.toNat := by rw [List.length_take]; omega
      have hl2 : (t.f4.drop (j.toNat + 1)).length = t.f4.length - (j.toNat + 1) := List.length_drop
      have hj1 : (j + 1).toNat = j.toNat + 1 := by omega
      rw [hj1] at hcut2
      rw [hl1] at F1
      rw [hl2] at F2
      have hk5 : k25.sz = 5 := rfl
      rw [hk5] at F2
      generalize (if c4 = j.toNat + 1 then A4 else A4.map (·.add ((j.toNat + 1) * 5))) = A4' at hcut2 F2
      have hw1 : wrap64 (j + 1) = j + 1 := by unfold wrap64; omega
      have HF1 := Aside0.mk F1
      have HF2 := Aside0.mk F2
      have HF3 := Aside0.mk f3
      have HF4 := Aside0.mk f4
      have HFB := Aside0.mk fb
      have HP := Aside0.mk hP
      have HL3 := Aside0.mk l3
      have HL4 := Aside0.mk l4
      have HLB := Aside0.mk lb
      have HWS := Aside0.mk hws
      have HLEN := Aside0.mk (show t.f4.length ≤ 1000000 by omega)
      have HJL := Aside0.mk hjl
      have HKJ := Aside0.mk hkj
      have HL1 := Aside0.mk hl1
      have HL2 := Aside0.mk hl2
      have q8 : (0 ≤ j) = True := eq_true hj0
      have HX := Aside0.mk (two_old w (.cells #[.int .i64 t.f0, .string t.f1, .string t.f2, .slice A3 t.f3.length c3, .slice A4 t.f4.length c4] 25) (.cells #[.int .i64 0, .string ⟨#[]⟩, .string ⟨#[]⟩, .slice none 0 0, .slice none 0 0] 25))
      have HY := Aside0.mk (two_new w (.cells #[.int .i64 t.f0, .string t.f1, .string t.f2, .slice A3 t.f3.length c3, .slice A4 t.f4.length c4] 25) (.cells #[.int .i64 0, .string ⟨#[]⟩, .string ⟨#[]⟩, .slice none 0 0, .slice none 0 0] 25))
      have HIH := Aside0.mk ih
      have HAT := Aside0.mk hat'
      have HCNT := Aside0.mk (show countT k ≤ 1000000 from by have := count_kid (List.mem_of_getElem? hkj); omega)
      have HF5 := Aside0.mk f1
      have HL5 := Aside0.mk l1
      clear F1 F2 f3 f4 fb hP l3 l4 lb hws hlen hcnt hat hat' hkj ih hz25 hi25 f1
      clear hl1 hl2 hjl
      go_enter Try.func30, Try.ntmps30
      go_upto_region 2 with fail
      have hs0 : w.heap.size + 2 ≤ ((w.alloc (.cells #[.int .i64 t.f0, .string t.f1, .string t.f2, .slice A3 t.f3.length c3, .slice A4 t.f4.length c4] 25)).alloc (.cells #[.int .i64 0, .string ⟨#[]⟩, .string ⟨#[]⟩, .slice none 0 0, .slice none 0 0] 25)).heap.size := blk_lt HY.out
      generalize (w.alloc (.cells #[.int .i64 t.f0, .string t.f1, .string t.f2, .slice A3 t.f3.length c3, .slice A4 t.f4.length c4] 25)).alloc (.cells #[.int .i64 0, .string ⟨#[]⟩, .string ⟨#[]⟩, .slice none 0 0, .slice none 0 0] 25) = W0 at *
      have HPE := Aside0.mk (show PB w (W0.alloc (.cells #[] 25)) P #[.int .i64 t.f0, .string t.f1, .string t.f2, .slice A3 t.f3.length c3, .slice A4 t.f4.length c4] (.slice (some ⟨W0.heap.size, 0, none⟩) 0 0) [] from by
        have hbe := below_alloc (Below.refl W0.heap.size W0) (.cells #[] 25)
        exact ⟨(hbe.block _ (by omega)).trans HX.out, (hbe.block _ (by omega)).trans HY.out, empty_row W0 w.heap.size _ HB0.out.size (.inr hs0), below_step HB0.out hbe⟩)
      have x4 : W0.cell? ⟨w.heap.size, 4, none⟩ = some (.slice A4 t.f4.length c4) := blk_cell HX.out 4
      have x4e : (W0.alloc (.cells #[] 25)).cell? ⟨w.heap.size, 4, none⟩ = some (.slice A4 t.f4.length c4) := blk_cell HPE.out.box 4
      clear hs0 hp0'
      go_wp2_with ((with_reducible refine gate_builtin (b := .append) (xs := #[.tmp 12, .tmp 16]) rfl ?_); at_builtin; go_must (refine Kd.N_append_rows k25 (w0 := w) w.heap.size rfl (.tmp 12) (.tmp 16) 23 25 (.agg #[.int .i64 0, .string ⟨#[]⟩, .string ⟨#[]⟩, .slice none 0 0, .slice none 0 0]) 88 rfl Try.underlying23 infoNd rfl (by decide) (by decide) (.slice (some ⟨W0.heap.size, 0, none⟩) 0 0) [] (t.f4.take j.toNat) A4 j.toNat c4 (fun k => P k ∨ w.heap.size + 2 ≤ k) P rfl rfl HPE.out.row (Kd.F_below HF1.out HPE.out.below) (HPE.out.apart HP.out) (fun k hk => .inr (Nat.le_trans HPE.out.size hk)) HPE.out.below HPE.out.below.size (by have := HLEN.out; have := HJL.out; simp; omega) ?_))
      intro v1 w3 ho hb hg hat
      have HP1 := Aside0.mk (HPE.out.grow HP.out ho hb hg)
      clear ho hb hg hat x4 x4e HPE HX HY
      cases l with
      | nil =>
        go_upto_region 4 with fail
        go_wp2_with ((with_reducible refine gate_builtin (b := .append) (xs := #[.tmp 21, .tmp 22]) rfl ?_); at_builtin; go_must (refine Kd.N_append_rows k25 (w0 := w) w.heap.size rfl (.tmp 21) (.tmp 22) 23 25 (.agg #[.int .i64 0, .string ⟨#[]⟩, .string ⟨#[]⟩, .slice none 0 0, .slice none 0 0]) 88 rfl Try.underlying23 infoNd rfl (by decide) (by decide) v1 (t.f4.take j.toNat) ws B ws.length d (fun k => P k ∨ w.heap.size + 2 ≤ k) P rfl rfl HP1.out.row (Kd.F_below HFB.out HP1.out.below) (HP1.out.apart HP.out) (fun k hk => .inr (Nat.le_trans HP1.out.size hk)) HP1.out.below HP1.out.below.size (by have := HLEN.out; have := HJL.out; have := HL1.out; have := HWS.out; omega) ?_))
        intro v2 w5 ho hb hg hat
        have HP2 := Aside0.mk (HP1.out.grow HP.out ho hb hg)
        clear ho hb hg hat HP1
        have y4 : w5.cell? ⟨w.heap.size, 4, none⟩ = some (.slice A4 t.f4.length c4) := blk_cell HP2.out.box 4
        go_wp2_with ((with_reducible refine gate_builtin (b := .append) (xs := #[.tmp 36, .tmp 41]) rfl ?_); at_builtin; go_must (refine Kd.N_append_rows k25 (w0 := w) w.heap.size rfl (.tmp 36) (.tmp 41) 23 25 (.agg #[.int .i64 0, .string ⟨#[]⟩, .string ⟨#[]⟩, .slice none 0 0, .slice none 0 0]) 88 rfl Try.underlying23 infoNd rfl (by decide) (by decide) v2 (t.f4.take j.toNat ++ ws) (t.f4.drop (j.toNat + 1)) A4' (t.f4.length - (j.toNat + 1)) (c4 - (j.toNat + 1)) (fun k => P k ∨ w.heap.size + 2 ≤ k) P rfl rfl HP2.out.row (Kd.F_below HF2.out HP2.out.below) (HP2.out.apart HP.out) (fun k hk => .inr (Nat.le_trans HP2.out.size hk)) HP2.out.below HP2.out.below.size (by have := HLEN.out; have := HJL.out; have := HL1.out; have := HL2.out; have := HWS.out; simp only [List.length_append, List.length_singleton]; omega) ?_))
        intro v3 w6 ho hb hg hat
        have HPU := Aside0.mk (show putT t [j] ws = { t with f4 := t.f4.take j.toNat ++ (ws ++ t.f4.drop (j.toNat + 1)) } by rw [putT_one]; unfold spl; simp)
        obtain ⟨L1, hL1⟩ : ∃ L1, L1 = (t.f4.take j.toNat ++ (ws ++ t.f4.drop (j.toNat + 1))).length := ⟨_, rfl⟩
        obtain ⟨A9, k9, hv3⟩ := Kd.N_slice ho
        have HP3 := Aside0.mk (HP2.out.grow HP.out ho hb hg)
        rw [← hL1] at hv3
        subst hv3
        have HLL := Aside0.mk hL1
        clear ho hb hg hat hL1 HP2 y4
        have z4 : w6.cell? ⟨w.heap.size, 4, none⟩ = some (.slice A4 t.f4.length c4) := blk_cell HP3.out.box 4
        have zf4 := blk_frozen HP3.out.box 4
        have b0 : w6.cell? ⟨w.heap.size, 0, none⟩ = some (.int .i64 t.f0) := blk_cell HP3.out.box 0
        have b1 : w6.cell? ⟨w.heap.size, 1, none⟩ = some (.string t.f1) := blk_cell HP3.out.box 1
        have b2 : w6.cell? ⟨w.heap.size, 2, none⟩ = some (.string t.f2) := blk_cell HP3.out.box 2
        have b3 : w6.cell? ⟨w.heap.size, 3, none⟩ = some (.slice A3 t.f3.length c3) := blk_cell HP3.out.box 3
        have r0 := blk_cell HP3.out.res 0
        have r1 := blk_cell HP3.out.res 1
        have r2 := blk_cell HP3.out.res 2
        have r3 := blk_cell HP3.out.res 3
        have r4 := blk_cell HP3.out.res 4
        have g0 := blk_frozen HP3.out.res 0
        have g1 := blk_frozen HP3.out.res 1
        have g2 := blk_frozen HP3.out.res 2
        have g3 := blk_frozen HP3.out.res 3
        have g4 := blk_frozen HP3.out.res 4
        go_wp2_with fail
        refine bodyPost_ret (v := .agg #[.int .i64 t.f0, .string t.f1, .string t.f2, .slice A3 t.f3.length c3, .slice A9 L1 k9]) (by simp [results, Try.results30, go_sem, r0, r1, r2, r3, r4]) rfl ?_
        rw [HPU.out]
        exact put_end HP.out HP3.out HLL.out HF3.out HL3.out _ _ _ _ _ _
      | cons j2 l2 =>
        obtain ⟨ad4, B3, e3, B4, e4, rfl, y0, y1, y2, y3, y4, m3, F3, m4, F4⟩ := at_F (Kd.F_below HF4.out HP1.out.below) j (by have := HJL.out; omega) (by have := HJL.out; omega)
        have he : t.f4.getD j.toNat z25 = k := by rw [List.getD_eq_getElem?_getD, HKJ.out]; rfl
        rw [he] at y0 y1 y2 y3 y4 m3 F3 m4 F4
        have hcutp := cut_from (P := Try.prog) 32 3 .i64 Try.underlying32 hi3 1 hz3 (some ad) (l2.length + 1 + 1) c1 1 (by omega) (by omega)
        have hCt := Kd.C_drop (m := 1) (Kd.C_below HF5.out HP1.out.below) (by simp) HL5.out
        have hs1 : (Kd.int .i64).sz = 1 := rfl
        rw [hs1] at hCt
        have hone : ((1 : Int)).toNat = 1 := rfl
        rw [hone] at hcutp
        generalize (if c1 = 1 then some ad else (some ad).map (·.add (1 * 1))) = A1' at hcutp hCt
        have HCT := Aside0.mk (show (Kd.int .i64).C w3 A1' (j2 :: l2).length (j2 :: l2) from hCt)
        have hl2n : (l2.length + 1 + 1) - 1 = l2.length + 1 := by omega
        rw [hl2n] at hcutp
        have HF3' := Aside0.mk F3
        have HF4' := Aside0.mk F4
        have HM3 := Aside0.mk m3
        have HM4 := Aside0.mk m4
        have HL5' := Aside0.mk (show (j2 :: l2).length ≤ c1 - 1 by have := HL5.out; simp at this ⊢; omega)
        have q9 : (j < (t.f4.length : Int)) = True := eq_true (by have := HJL.out; omega)
        have x4 : w3.cell? ⟨w.heap.size, 4, none⟩ = some (.slice (some ad4) t.f4.length c4) := blk_cell HP1.out.box 4
        have HDW := Aside0.mk (below_drew (Below.refl w3.heap.size w3))
        have x4d : w3.drew.cell? ⟨w.heap.size, 4, none⟩ = some (.slice (some ad4) t.f4.length c4) := blk_cell (HP1.out.moved HDW.out).box 4
        clear he hCt F3 F4 m3 m4 hi3 hz3 hs1 hone hl2n
        have HIH2 := Aside0.mk (fun wx (hb : Below w3.heap.size w3 wx) => HIH.out k wx (by simp) HAT.out HCNT.out (fun q hq => Nat.lt_of_lt_of_le (HP.out q hq) (Nat.le_trans HP1.out.below.size hb.size)) B3 e3 B4 e4 A1' (c1 - 1) B d (Kd.F_below HF3'.out hb) HM3.out (Kd.F_below HF4'.out hb) HM4.out (Kd.C_below HCT.out hb) HL5'.out (Kd.F_below HFB.out (below_step HP1.out.below hb)) HLB.out)
        clear HIH
        go_upto_region 5 with fail
        go_cut [8] (fun v2 wc => Aside0 (PB w wc P #[.int .i64 t.f0, .string t.f1, .string t.f2, .slice A3 t.f3.length c3, .slice (some ad4) t.f4.length c4] v2 (t.f4.take j.toNat ++ [putT k (j2 :: l2) ws])))
        case first =>
          go_region_law (first
            | (refine kids_step (w0 := w) (W := w4) rfl w.heap.size (.tmp 24) (.tmp 34) 23 (.agg #[.int .i64 0, .string ⟨#[]⟩, .string ⟨#[]⟩, .slice none 0 0, .slice none 0 0]) rfl Try.underlying23 infoNd rfl v1 (t.f4.take j.toNat) u [.int .i64 u.f0, .string u.f1, .string u.f2, .slice G3 u.f3.length g3, .slice G4 u.f4.length g4] (fun q => P q ∨ w.heap.size + 2 ≤ q) (fun q => P q ∨ w3.heap.size ≤ q) (by simp [Act.eval, Act.put]) (by simp [Act.eval, Act.put]) HFK.out HOK.out HFR.out HM2.out.row HM2.out.below HM2.out.below.size (by have := HLEN.out; have := HJL.out; have := HL1.out; omega) ?_; intro v2 w5 ho hb hg hat; have HP2 := Aside0.mk (HM2.out.grow HP.out ho hb hg); clear ho hb hg hat)
            | (go_simp; go_at_call 30; refine (HIH2.out _ HDW.out).mono ?_; rintro e w4 ⟨G3, g3, G4, g4, rfl, m3, F3, m4, F4, hb2⟩; have HB2 := Aside0.mk (below_step HDW.out hb2); have HM2 := Aside0.mk (HP1.out.moved HB2.out); have HFK := Aside0.mk (k25_mkF w4 (fun q => P q ∨ w3.heap.size ≤ q) (putT k (j2 :: l2) ws) m3 F3 m4 F4); have HOK := Aside0.mk (show ∀ q, P q ∨ w3.heap.size ≤ q → (P q ∨ w.heap.size + 2 ≤ q) ∧ some q ≠ v1.ownBlock from fun q hq => by rcases hq with hq | hq; exact HP1.out.apart HP.out q hq; exact ⟨.inr (Nat.le_trans HP1.out.size hq), fun e => by have := Kd.N_lt HP1.out.row q e.symm; omega⟩); have HFR := Aside0.mk (show ∀ q, w4.heap.size ≤ q → P q ∨ w.heap.size + 2 ≤ q from fun q hq => .inr (Nat.le_trans HM2.out.size hq)); generalize putT k (j2 :: l2) ws = u at *; clear m3 F3 m4 F4 hb2))
          all_goals (go_wp2_with fail; go_meet; exact HP2)
        case rest =>
          have HP2 := hcut
          clear hcut
          clear HP1 HIH2 x4 x4d hcutp y0 y1 y2 y3 y4
          have y4 : wc.cell? ⟨w.heap.size, 4, none⟩ = some (.slice (some ad4) t.f4.length c4) := blk_cell HP2.out.box 4
          go_wp2_with ((with_reducible refine gate_builtin (b := .append) (xs := #[.tmp 36, .tmp 41]) rfl ?_); at_builtin; go_must (refine Kd.N_append_rows k25 (w0 := w) w.heap.size rfl (.tmp 36) (.tmp 41) 23 25 (.agg #[.int .i64 0, .string ⟨#[]⟩, .string ⟨#[]⟩, .slice none 0 0, .slice none 0 0]) 88 rfl Try.underlying23 infoNd rfl (by decide) (by decide) u8 (t.f4.take j.toNat ++ [putT k (j2 :: l2) ws]) (t.f4.drop (j.toNat + 1)) A4' (t.f4.length - (j.toNat + 1)) (c4 - (j.toNat + 1)) (fun k => P k ∨ w.heap.size + 2 ≤ k) P rfl rfl HP2.out.row (Kd.F_below HF2.out HP2.out.below) (HP2.out.apart HP.out) (fun k hk => .inr (Nat.le_trans HP2.out.size hk)) HP2.out.below HP2.out.below.size (by have := HLEN.out; have := HJL.out; have := HL1.out; have := HL2.out; have := HWS.out; simp only [List.length_append, List.length_singleton]; omega) ?_))
          intro v3 w6 ho hb hg hat
          have HPU := Aside0.mk (show putT t (j :: j2 :: l2) ws = { t with f4 := t.f4.take j.toNat ++ putT k (j2 :: l2) ws :: t.f4.drop (j.toNat + 1) } by rw [putT_cons t j (j2 :: l2) (by simp) ws HKJ.out]; unfold spl; simp)
          obtain ⟨L1, hL1⟩ : ∃ L1, L1 = (t.f4.take j.toNat ++ putT k (j2 :: l2) ws :: t.f4.drop (j.toNat + 1)).length := ⟨_, rfl⟩
          obtain ⟨A9, k9, hv3⟩ := Kd.N_slice ho
          have HP3 := Aside0.mk (HP2.out.grow HP.out ho hb hg)
          rw [← hL1] at hv3
          subst hv3
          have HLL := Aside0.mk hL1
          clear ho hb hg hat hL1 HP2 y4
          have z4 : w6.cell? ⟨w.heap.size, 4, none⟩ = some (.slice (some ad4) t.f4.length c4) := blk_cell HP3.out.box 4
          have zf4 := blk_frozen HP3.out.box 4
          have b0 : w6.cell? ⟨w.heap.size, 0, none⟩ = some (.int .i64 t.f0) := blk_cell HP3.out.box 0
          have b1 : w6.cell? ⟨w.heap.size, 1, none⟩ = some (.string t.f1) := blk_cell HP3.out.box 1
          have b2 : w6.cell? ⟨w.heap.size, 2, none⟩ = some (.string t.f2) := blk_cell HP3.out.box 2
          have b3 : w6.cell? ⟨w.heap.size, 3, none⟩ = some (.slice A3 t.f3.length c3) := blk_cell HP3.out.box 3
          have r0 := blk_cell HP3.out.res 0
          have r1 := blk_cell HP3.out.res 1
          have r2 := blk_cell HP3.out.res 2
          have r3 := blk_cell HP3.out.res 3
          have r4 := blk_cell HP3.out.res 4
          have g0 := blk_frozen HP3.out.res 0
          have g1 := blk_frozen HP3.out.res 1
          have g2 := blk_frozen HP3.out.res 2
          have g3 := blk_frozen HP3.out.res 3
          have g4 := blk_frozen HP3.out.res 4
          go_wp2_with fail
          refine bodyPost_ret (v := .agg #[.int .i64 t.f0, .string t.f1, .string t.f2, .slice A3 t.f3.length c3, .slice A9 L1 k9]) (by simp [results, Try.results30, go_sem, r0, r1, r2, r3, r4]) rfl ?_
          rw [HPU.out]
          exact put_end HP.out HP3.out HLL.out HF3.out HL3.out _ _ _ _ _ _
end Go.Proofs.Ytibfoaahdbdogaa.PDom

/- Printed by the program extprint.py of this session, out of the kit's print and contracts of this session's own; Lean checks it. -/
namespace Go.Proofs.Ytibfoaahdbdogaa.PDom
open Go.RowKit Go.Proofs.YtibfoaahdbdogaaW.PrintWords Go.Proofs.YtibfoaahdbdogaaW.PrintLast Go.Proofs.YtibfoaahdbdogaaW.PrintMore
attribute [local go_sem] max2_int min2_int max_two min_two max_three min_three max_four min_four   -- for this text's walks alone
set_option linter.unusedVariables false
set_option linter.unusedSimpArgs false


end Go.Proofs.Ytibfoaahdbdogaa.PDom

/- Printed by the program extprint.py of this session, out of the kit's print and contracts of this session's own; Lean checks it. -/
namespace Go.Proofs.Ytibfoaahdbdogaa.PDom
open Go.RowKit Go.Proofs.YtibfoaahdbdogaaW.PrintWords Go.Proofs.YtibfoaahdbdogaaW.PrintLast Go.Proofs.YtibfoaahdbdogaaW.PrintMore
attribute [local go_sem] max2_int min2_int max_two min_two max_three min_three max_four min_four   -- for this text's walks alone
set_option linter.unusedVariables false
set_option linter.unusedSimpArgs false


/-! ### laws_below29: function 27 -/
def laws_below29.f (k : Nat) (a0_0 : Int) (a0_1 : ByteArray) (a0_2 : ByteArray) (l0_3 : List (S78)) (l0_4 : List (S25)) (l1 : List Int) : Option (Bool) := (spec_At29.f k a0_0 a0_1 a0_2 l0_3 l0_4 l1).bind fun bt309 => (if bt309.2.2.2.2.2 = true then (some (decide ((l1.length : Int) > 0))) else (some false))
theorem laws_below29.mono : ∀ a0 a1 a2 a3 a4 a5 k, LeO (laws_below29.f k a0 a1 a2 a3 a4 a5) (laws_below29.f (k + 1) a0 a1 a2 a3 a4 a5) := by
  intro a0 a1 a2 a3 a4 a5 k
  unfold laws_below29.f
  repeat' first
      | (with_reducible exact spec_At29.mono _ _ _ _ _ _ _)
      | (with_reducible exact LeO.refl _)
      | (with_reducible exact LeO.none _)
      | (with_reducible refine LeO.ite ?_ ?_)
      | (with_reducible refine LeO.bind ?_ (fun _ => ?_))
      | exact spec_At29.mono _ _ _ _ _ _ _
      | exact LeO.none _
      | refine LeO.ite ?_ ?_
      | refine LeO.bind ?_ (fun _ => ?_)
set_option maxHeartbeats 8000000 in
set_option maxRecDepth 100000 in
theorem laws_below29.calls (k : Nat) (a0_0 : Int) (a0_1 : ByteArray) (a0_2 : ByteArray) (A0_3 : Option Addr) (c0_3 : Nat) (l0_3 : List (S78)) (A0_4 : Option Addr) (c0_4 : Nat) (l0_4 : List (S25)) (A1 : Option Addr) (c1 : Nat) (l1 : List Int) (r : Bool) (w : World) (hr0_3 : Kd.C k78 w A0_3 l0_3.length l0_3) (hc0_3 : l0_3.length ≤ c0_3) (hr0_4 : Kd.C k25 w A0_4 l0_4.length l0_4) (hc0_4 : l0_4.length ≤ c0_4) (hr1 : Kd.C (Kd.int .i64) w A1 l1.length l1) (hc1 : l1.length ≤ c1) (h : laws_below29.f k a0_0 a0_1 a0_2 l0_3 l0_4 l1 = some r) :
    Calls Try.prog 27 #[.agg #[.int .i64 a0_0, .string a0_1, .string a0_2, .slice A0_3 l0_3.length c0_3, .slice A0_4 l0_4.length c0_4], .slice A1 l1.length c1] w fun e w' => e = .returned (.bool r) ∧ Below w.heap.size w w' := by
  have hu25 := Try.underlying25
  have HR0_3 := Aside0.mk hr0_3
  have HC0_3 := Aside0.mk hc0_3
  clear hr0_3 hc0_3
  have HR0_4 := Aside0.mk hr0_4
  have HC0_4 := Aside0.mk hc0_4
  clear hr0_4 hc0_4
  have HR1 := Aside0.mk hr1
  have HC1 := Aside0.mk hc1
  clear hr1 hc1
  have HB := Aside0.mk (Below.refl w.heap.size w)
  have H : ((spec_At29.f k a0_0 a0_1 a0_2 l0_3 l0_4 l1).bind fun bt309 => (if bt309.2.2.2.2.2 = true then (some (decide ((l1.length : Int) > 0))) else (some false))) = some r := h
  clear h
  replace H := Option.bind_eq_some_iff.mp H
  obtain ⟨⟨t309, t310, t311, t312, t315, t318⟩, A30, H⟩ := H
  replace H : (if t318 = true then (some (decide ((l1.length : Int) > 0))) else (some false)) = some r := H
  have A3 := Aside0.mk A30
  clear A30
  by_cases c4 : t318 = true
  · subst c4
    have H1 : (some (decide ((l1.length : Int) > 0))) = some r := by rw [if_pos rfl] at H; exact H
    clear H
    have H := H1
    clear H1
    obtain rfl := Option.some.inj H
    go_enter Try.func27, Try.ntmps27
    go_wp2_with (first | ((with_reducible refine gate_dst (N := 2) rfl ?_); (try (refine gate_guard (by rfl) ?_; dsimp only)); refine box_event ?hg (N := 2) ?hd (cs := #[.int .i64 a0_0, .string a0_1, .string a0_2, .slice A0_3 l0_3.length c0_3, .slice A0_4 l0_4.length c0_4]) (t := 25) ?hr ?_; (case hd => rfl); (case hg => rfl); (case hr => first | (go_simp; done) | (go_simp; rfl)); intro gb308 hg w5 hbox hb; have n0_ := Aside0.mk (below_step (by repeat (first | (with_reducible first | exact HB.out | apply below_alloc | apply pw_below_drewN | apply below_drew1) | exact HB.out)) hb); have n1_ := Aside0.mk (hbox); have n2_ := Aside0.mk ((by rw [hg]; exact (below_size (by repeat (first | (with_reducible first | exact HB.out | apply below_alloc | apply pw_below_drewN | apply below_drew1) | exact HB.out))) : w.heap.size ≤ gb308)); have n3_ := Aside0.mk ((by rw [hg]; exact (below_size (by repeat (first | (with_reducible first | exact HB.out | apply below_alloc | apply pw_below_drewN | apply below_drew1) | exact HB.out))) : w.heap.size ≤ gb308)); clear HB; have HB := n0_; have BK308 := n1_; have GW308 := n2_; have GE308 := n3_; clear n0_ n1_ n2_ n3_; clear hb hbox hg; have hcz6_0 : w5.cell? ⟨gb308, 0, none⟩ = some (.int .i64 a0_0) := (blk_cell BK308.out 0).trans rfl; have hcz6_1 : w5.cell? ⟨gb308, 1, none⟩ = some (.string a0_1) := (blk_cell BK308.out 1).trans rfl; have hcz6_2 : w5.cell? ⟨gb308, 2, none⟩ = some (.string a0_2) := (blk_cell BK308.out 2).trans rfl; have hcz6_3 : w5.cell? ⟨gb308, 3, none⟩ = some (.slice A0_3 l0_3.length c0_3) := (blk_cell BK308.out 3).trans rfl; have hcz6_4 : w5.cell? ⟨gb308, 4, none⟩ = some (.slice A0_4 l0_4.length c0_4) := (blk_cell BK308.out 4).trans rfl; have hfz6_0 := blk_frozen BK308.out 0; have hfz6_1 := blk_frozen BK308.out 1; have hfz6_2 := blk_frozen BK308.out 2; have hfz6_3 := blk_frozen BK308.out 3; have hfz6_4 := blk_frozen BK308.out 4) | ((with_reducible refine gate_callee (f := 17) rfl ?_); refine goesL_ (some 10) rfl rfl Try.func17 (by kernel_rfl) rfl #[.agg #[.int .i64 a0_0, .string a0_1, .string a0_2, .slice A0_3 l0_3.length c0_3, .slice A0_4 l0_4.length c0_4], .slice A1 l1.length c1] rfl (by (try simp only [List.map_toArray, List.map_cons, List.map_nil]); first | done | rfl | (simp only [List.length_drop, List.length_take]; rfl)) ?_; (with_reducible refine (spec_At29.calls k a0_0 a0_1 a0_2 (fun k_ => k_ < w.heap.size) _ _ l0_3 (fun k_ => k_ < w.heap.size) _ _ l0_4 _ _ l1 t309 t310 t311 t312 t315 true _ ?side1 ?side2 ?side3 ?side4 A3.out).mono ?_); (case side1 => exact Kd.V_mk HC0_3.out (Kd.F_below (Kd.C_F k78_heap HR0_3.out) (by repeat (first | (with_reducible first | exact HB.out | apply below_alloc | apply pw_below_drewN | apply below_drew1 | refine below_set ?_ GE308.out) | exact HB.out)))); (case side2 => exact Kd.V_mk HC0_4.out (Kd.F_below (Kd.C_F k25_heap HR0_4.out) (by repeat (first | (with_reducible first | exact HB.out | apply below_alloc | apply pw_below_drewN | apply below_drew1 | refine below_set ?_ GE308.out) | exact HB.out)))); (case side3 => repeat (first | exact (Kd.C_below HR1.out HB.out) | (with_reducible refine Kd.C_alloc ?_ _) | (with_reducible refine Kd.C_drewN ?_ _) | (with_reducible refine Kd.C_drew ?_))); (case side4 => exact HC1.out); rintro e w7 ⟨v313, v316, rfl, ho0, ho1, hb⟩; refine ⟨_, rfl, ?_⟩; have n0_ := Aside0.mk (Kd.V_lower (Kd.V_mono (ok' := fun k_ => k_ ≠ gb308) ho0 (fun k_ hk_ => Or.elim hk_ (fun hs_ => Or.elim hs_ (fun hs_ => fun e_ => Nat.not_le.2 hs_ (by rw [e_]; exact GW308.out)) (fun hs_ => fun e_ => Nat.not_le.2 hs_ (by rw [e_]; exact GW308.out))) (fun hn_ => (Kd.freshB (g := gb308) (o := .cells #[.int .i64 a0_0, .string a0_1, .string a0_2, .slice A0_3 l0_3.length c0_3, .slice A0_4 l0_4.length c0_4] 25 (0, 0)) (by (with_reducible repeat (first | refine blk_drewN ?_ _ | refine blk_drew ?_ | refine blk_alloc ?_ _)); exact BK308.out) k_ hn_)))) (below_size (by repeat (first | (with_reducible first | exact HB.out | apply below_alloc | apply pw_below_drewN | apply below_drew1 | refine below_set ?_ GE308.out) | exact HB.out)))); have n1_ := Aside0.mk (Kd.V_lower (Kd.V_mono (ok' := fun k_ => k_ ≠ gb308) ho1 (fun k_ hk_ => Or.elim hk_ (fun hs_ => Or.elim hs_ (fun hs_ => fun e_ => Nat.not_le.2 hs_ (by rw [e_]; exact GW308.out)) (fun hs_ => fun e_ => Nat.not_le.2 hs_ (by rw [e_]; exact GW308.out))) (fun hn_ => (Kd.freshB (g := gb308) (o := .cells #[.int .i64 a0_0, .string a0_1, .string a0_2, .slice A0_3 l0_3.length c0_3, .slice A0_4 l0_4.length c0_4] 25 (0, 0)) (by (with_reducible repeat (first | refine blk_drewN ?_ _ | refine blk_drew ?_ | refine blk_alloc ?_ _)); exact BK308.out) k_ hn_)))) (below_size (by repeat (first | (with_reducible first | exact HB.out | apply below_alloc | apply pw_below_drewN | apply below_drew1 | refine below_set ?_ GE308.out) | exact HB.out)))); have n2_ := Aside0.mk (blk_below (g := gb308) (o := .cells #[.int .i64 a0_0, .string a0_1, .string a0_2, .slice A0_3 l0_3.length c0_3, .slice A0_4 l0_4.length c0_4] 25 (0, 0)) (by (with_reducible repeat (first | refine blk_drewN ?_ _ | refine blk_drew ?_ | refine blk_alloc ?_ _)); exact BK308.out) hb); have n3_ := Aside0.mk (below_step (by repeat (first | (with_reducible first | exact HB.out | apply below_alloc | apply pw_below_drewN | apply below_drew1 | refine below_set ?_ GE308.out) | exact HB.out)) hb); clear BK308; clear HB; have HO314 := n0_; have HO317 := n1_; have BK308 := n2_; have HB := n3_; clear n0_ n1_ n2_ n3_; (try clear hb); (try clear hb2); (try clear hk); (try clear hi); (try clear ho0); (try clear ho1)) | ((with_reducible refine gate_dst (N := 5) rfl ?_); (try (refine gate_guard (by rfl) ?_; dsimp only)); refine box_event ?hg (N := 5) ?hd (cs := #[.int .i64 0, .string (⟨#[]⟩ : ByteArray), .string (⟨#[]⟩ : ByteArray), .slice none 0 0, .slice none 0 0]) (t := 25) ?hr ?_; (case hd => rfl); (case hg => rfl); (case hr => first | (go_simp; done) | (go_simp; rfl)); intro gb319 hg w8 hbox hb; have n0_ := Aside0.mk (Kd.V_below (Kd.V_elderB (by (with_reducible repeat (first | apply Kd.V_alloc | apply Kd.V_drewN | apply Kd.V_drew)); exact HO314.out) gb319 (Nat.le_of_eq hg.symm)) hb); have n1_ := Aside0.mk (Kd.V_below (Kd.V_elderB (by (with_reducible repeat (first | apply Kd.V_alloc | apply Kd.V_drewN | apply Kd.V_drew)); exact HO317.out) gb319 (Nat.le_of_eq hg.symm)) hb); have n2_ := Aside0.mk (blk_below (g := gb308) (o := .cells #[.int .i64 a0_0, .string a0_1, .string a0_2, .slice A0_3 l0_3.length c0_3, .slice A0_4 l0_4.length c0_4] 25 (0, 0)) (by (with_reducible repeat (first | refine blk_drewN ?_ _ | refine blk_drew ?_ | refine blk_alloc ?_ _)); exact BK308.out) hb); have n3_ := Aside0.mk (below_step (by repeat (first | (with_reducible first | exact HB.out | apply below_alloc | apply pw_below_drewN | apply below_drew1 | refine below_set ?_ GE308.out) | exact HB.out)) hb); have n4_ := Aside0.mk (hbox); have n5_ := Aside0.mk ((by rw [hg]; exact (below_size (by repeat (first | (with_reducible first | exact HB.out | apply below_alloc | apply pw_below_drewN | apply below_drew1 | refine below_set ?_ GE308.out) | exact HB.out))) : w.heap.size ≤ gb319)); have n6_ := Aside0.mk ((by rw [hg]; exact (below_size (by repeat (first | (with_reducible first | exact HB.out | apply below_alloc | apply pw_below_drewN | apply below_drew1 | refine below_set ?_ GE308.out) | exact HB.out))) : w.heap.size ≤ gb319)); have n7_ := Aside0.mk ((by rw [hg]; exact Nat.ne_of_lt (blk_lt (g := gb308) (o := .cells #[.int .i64 a0_0, .string a0_1, .string a0_2, .slice A0_3 l0_3.length c0_3, .slice A0_4 l0_4.length c0_4] 25 (0, 0)) (by (with_reducible repeat (first | refine blk_drewN ?_ _ | refine blk_drew ?_ | refine blk_alloc ?_ _)); exact BK308.out)) : gb308 ≠ gb319)); have n8_ := Aside0.mk ((by rw [hg]; exact Nat.ne_of_gt (blk_lt (g := gb308) (o := .cells #[.int .i64 a0_0, .string a0_1, .string a0_2, .slice A0_3 l0_3.length c0_3, .slice A0_4 l0_4.length c0_4] 25 (0, 0)) (by (with_reducible repeat (first | refine blk_drewN ?_ _ | refine blk_drew ?_ | refine blk_alloc ?_ _)); exact BK308.out)) : gb319 ≠ gb308)); clear HO314; clear HO317; clear BK308; clear HB; have HO314 := n0_; have HO317 := n1_; have BK308 := n2_; have HB := n3_; have BK319 := n4_; have GW319 := n5_; have GE319 := n6_; have NB308_319 := n7_; have NB319_308 := n8_; clear n0_ n1_ n2_ n3_ n4_ n5_ n6_ n7_ n8_; clear hb hbox hg; have hnb9 := NB319_308.out; have hnc9 := NB308_319.out; have hcz10_0 : w8.cell? ⟨gb319, 0, none⟩ = some (.int .i64 0) := (blk_cell BK319.out 0).trans rfl; have hcz10_1 : w8.cell? ⟨gb319, 1, none⟩ = some (.string (⟨#[]⟩ : ByteArray)) := (blk_cell BK319.out 1).trans rfl; have hcz10_2 : w8.cell? ⟨gb319, 2, none⟩ = some (.string (⟨#[]⟩ : ByteArray)) := (blk_cell BK319.out 2).trans rfl; have hcz10_3 : w8.cell? ⟨gb319, 3, none⟩ = some (.slice none 0 0) := (blk_cell BK319.out 3).trans rfl; have hcz10_4 : w8.cell? ⟨gb319, 4, none⟩ = some (.slice none 0 0) := (blk_cell BK319.out 4).trans rfl; have hfz10_0 := blk_frozen BK319.out 0; have hfz10_1 := blk_frozen BK319.out 1; have hfz10_2 := blk_frozen BK319.out 2; have hfz10_3 := blk_frozen BK319.out 3; have hfz10_4 := blk_frozen BK319.out 4; obtain ⟨Ao11, co11, eo11⟩ := Kd.V_slice HO314.out; subst eo11; obtain ⟨Ao12, co12, eo12⟩ := Kd.V_slice HO317.out; subst eo12))
    go_ret
    exact ⟨by first | rfl | (simp [errW_none, errW_some] <;> rfl) | (simp [*, errW_none, errW_some] <;> rfl), by repeat (first | (with_reducible first | exact HB.out | apply below_alloc | apply pw_below_drewN | apply below_drew1 | refine below_set ?_ GE308.out | refine below_set ?_ GE319.out) | exact HB.out)⟩
  · replace c4 := Bool.eq_false_iff.mpr c4
    subst c4
    have H1 : (some false) = some r := by rw [if_neg (show ¬ (false = true) by decide)] at H; exact H
    clear H
    have H := H1
    clear H1
    obtain rfl := Option.some.inj H
    go_enter Try.func27, Try.ntmps27
    go_wp2_with (first | ((with_reducible refine gate_dst (N := 2) rfl ?_); (try (refine gate_guard (by rfl) ?_; dsimp only)); refine box_event ?hg (N := 2) ?hd (cs := #[.int .i64 a0_0, .string a0_1, .string a0_2, .slice A0_3 l0_3.length c0_3, .slice A0_4 l0_4.length c0_4]) (t := 25) ?hr ?_; (case hd => rfl); (case hg => rfl); (case hr => first | (go_simp; done) | (go_simp; rfl)); intro gb308 hg w13 hbox hb; have n0_ := Aside0.mk (below_step (by repeat (first | (with_reducible first | exact HB.out | apply below_alloc | apply pw_below_drewN | apply below_drew1) | exact HB.out)) hb); have n1_ := Aside0.mk (hbox); have n2_ := Aside0.mk ((by rw [hg]; exact (below_size (by repeat (first | (with_reducible first | exact HB.out | apply below_alloc | apply pw_below_drewN | apply below_drew1) | exact HB.out))) : w.heap.size ≤ gb308)); have n3_ := Aside0.mk ((by rw [hg]; exact (below_size (by repeat (first | (with_reducible first | exact HB.out | apply below_alloc | apply pw_below_drewN | apply below_drew1) | exact HB.out))) : w.heap.size ≤ gb308)); clear HB; have HB := n0_; have BK308 := n1_; have GW308 := n2_; have GE308 := n3_; clear n0_ n1_ n2_ n3_; clear hb hbox hg; have hcz14_0 : w13.cell? ⟨gb308, 0, none⟩ = some (.int .i64 a0_0) := (blk_cell BK308.out 0).trans rfl; have hcz14_1 : w13.cell? ⟨gb308, 1, none⟩ = some (.string a0_1) := (blk_cell BK308.out 1).trans rfl; have hcz14_2 : w13.cell? ⟨gb308, 2, none⟩ = some (.string a0_2) := (blk_cell BK308.out 2).trans rfl; have hcz14_3 : w13.cell? ⟨gb308, 3, none⟩ = some (.slice A0_3 l0_3.length c0_3) := (blk_cell BK308.out 3).trans rfl; have hcz14_4 : w13.cell? ⟨gb308, 4, none⟩ = some (.slice A0_4 l0_4.length c0_4) := (blk_cell BK308.out 4).trans rfl; have hfz14_0 := blk_frozen BK308.out 0; have hfz14_1 := blk_frozen BK308.out 1; have hfz14_2 := blk_frozen BK308.out 2; have hfz14_3 := blk_frozen BK308.out 3; have hfz14_4 := blk_frozen BK308.out 4) | ((with_reducible refine gate_callee (f := 17) rfl ?_); refine goesL_ (some 10) rfl rfl Try.func17 (by kernel_rfl) rfl #[.agg #[.int .i64 a0_0, .string a0_1, .string a0_2, .slice A0_3 l0_3.length c0_3, .slice A0_4 l0_4.length c0_4], .slice A1 l1.length c1] rfl (by (try simp only [List.map_toArray, List.map_cons, List.map_nil]); first | done | rfl | (simp only [List.length_drop, List.length_take]; rfl)) ?_; (with_reducible refine (spec_At29.calls k a0_0 a0_1 a0_2 (fun k_ => k_ < w.heap.size) _ _ l0_3 (fun k_ => k_ < w.heap.size) _ _ l0_4 _ _ l1 t309 t310 t311 t312 t315 false _ ?side1 ?side2 ?side3 ?side4 A3.out).mono ?_); (case side1 => exact Kd.V_mk HC0_3.out (Kd.F_below (Kd.C_F k78_heap HR0_3.out) (by repeat (first | (with_reducible first | exact HB.out | apply below_alloc | apply pw_below_drewN | apply below_drew1 | refine below_set ?_ GE308.out) | exact HB.out)))); (case side2 => exact Kd.V_mk HC0_4.out (Kd.F_below (Kd.C_F k25_heap HR0_4.out) (by repeat (first | (with_reducible first | exact HB.out | apply below_alloc | apply pw_below_drewN | apply below_drew1 | refine below_set ?_ GE308.out) | exact HB.out)))); (case side3 => repeat (first | exact (Kd.C_below HR1.out HB.out) | (with_reducible refine Kd.C_alloc ?_ _) | (with_reducible refine Kd.C_drewN ?_ _) | (with_reducible refine Kd.C_drew ?_))); (case side4 => exact HC1.out); rintro e w15 ⟨v313, v316, rfl, ho0, ho1, hb⟩; refine ⟨_, rfl, ?_⟩; have n0_ := Aside0.mk (Kd.V_lower (Kd.V_mono (ok' := fun k_ => k_ ≠ gb308) ho0 (fun k_ hk_ => Or.elim hk_ (fun hs_ => Or.elim hs_ (fun hs_ => fun e_ => Nat.not_le.2 hs_ (by rw [e_]; exact GW308.out)) (fun hs_ => fun e_ => Nat.not_le.2 hs_ (by rw [e_]; exact GW308.out))) (fun hn_ => (Kd.freshB (g := gb308) (o := .cells #[.int .i64 a0_0, .string a0_1, .string a0_2, .slice A0_3 l0_3.length c0_3, .slice A0_4 l0_4.length c0_4] 25 (0, 0)) (by (with_reducible repeat (first | refine blk_drewN ?_ _ | refine blk_drew ?_ | refine blk_alloc ?_ _)); exact BK308.out) k_ hn_)))) (below_size (by repeat (first | (with_reducible first | exact HB.out | apply below_alloc | apply pw_below_drewN | apply below_drew1 | refine below_set ?_ GE308.out) | exact HB.out)))); have n1_ := Aside0.mk (Kd.V_lower (Kd.V_mono (ok' := fun k_ => k_ ≠ gb308) ho1 (fun k_ hk_ => Or.elim hk_ (fun hs_ => Or.elim hs_ (fun hs_ => fun e_ => Nat.not_le.2 hs_ (by rw [e_]; exact GW308.out)) (fun hs_ => fun e_ => Nat.not_le.2 hs_ (by rw [e_]; exact GW308.out))) (fun hn_ => (Kd.freshB (g := gb308) (o := .cells #[.int .i64 a0_0, .string a0_1, .string a0_2, .slice A0_3 l0_3.length c0_3, .slice A0_4 l0_4.length c0_4] 25 (0, 0)) (by (with_reducible repeat (first | refine blk_drewN ?_ _ | refine blk_drew ?_ | refine blk_alloc ?_ _)); exact BK308.out) k_ hn_)))) (below_size (by repeat (first | (with_reducible first | exact HB.out | apply below_alloc | apply pw_below_drewN | apply below_drew1 | refine below_set ?_ GE308.out) | exact HB.out)))); have n2_ := Aside0.mk (blk_below (g := gb308) (o := .cells #[.int .i64 a0_0, .string a0_1, .string a0_2, .slice A0_3 l0_3.length c0_3, .slice A0_4 l0_4.length c0_4] 25 (0, 0)) (by (with_reducible repeat (first | refine blk_drewN ?_ _ | refine blk_drew ?_ | refine blk_alloc ?_ _)); exact BK308.out) hb); have n3_ := Aside0.mk (below_step (by repeat (first | (with_reducible first | exact HB.out | apply below_alloc | apply pw_below_drewN | apply below_drew1 | refine below_set ?_ GE308.out) | exact HB.out)) hb); clear BK308; clear HB; have HO314 := n0_; have HO317 := n1_; have BK308 := n2_; have HB := n3_; clear n0_ n1_ n2_ n3_; (try clear hb); (try clear hb2); (try clear hk); (try clear hi); (try clear ho0); (try clear ho1)) | ((with_reducible refine gate_dst (N := 5) rfl ?_); (try (refine gate_guard (by rfl) ?_; dsimp only)); refine box_event ?hg (N := 5) ?hd (cs := #[.int .i64 0, .string (⟨#[]⟩ : ByteArray), .string (⟨#[]⟩ : ByteArray), .slice none 0 0, .slice none 0 0]) (t := 25) ?hr ?_; (case hd => rfl); (case hg => rfl); (case hr => first | (go_simp; done) | (go_simp; rfl)); intro gb319 hg w16 hbox hb; have n0_ := Aside0.mk (Kd.V_below (Kd.V_elderB (by (with_reducible repeat (first | apply Kd.V_alloc | apply Kd.V_drewN | apply Kd.V_drew)); exact HO314.out) gb319 (Nat.le_of_eq hg.symm)) hb); have n1_ := Aside0.mk (Kd.V_below (Kd.V_elderB (by (with_reducible repeat (first | apply Kd.V_alloc | apply Kd.V_drewN | apply Kd.V_drew)); exact HO317.out) gb319 (Nat.le_of_eq hg.symm)) hb); have n2_ := Aside0.mk (blk_below (g := gb308) (o := .cells #[.int .i64 a0_0, .string a0_1, .string a0_2, .slice A0_3 l0_3.length c0_3, .slice A0_4 l0_4.length c0_4] 25 (0, 0)) (by (with_reducible repeat (first | refine blk_drewN ?_ _ | refine blk_drew ?_ | refine blk_alloc ?_ _)); exact BK308.out) hb); have n3_ := Aside0.mk (below_step (by repeat (first | (with_reducible first | exact HB.out | apply below_alloc | apply pw_below_drewN | apply below_drew1 | refine below_set ?_ GE308.out) | exact HB.out)) hb); have n4_ := Aside0.mk (hbox); have n5_ := Aside0.mk ((by rw [hg]; exact (below_size (by repeat (first | (with_reducible first | exact HB.out | apply below_alloc | apply pw_below_drewN | apply below_drew1 | refine below_set ?_ GE308.out) | exact HB.out))) : w.heap.size ≤ gb319)); have n6_ := Aside0.mk ((by rw [hg]; exact (below_size (by repeat (first | (with_reducible first | exact HB.out | apply below_alloc | apply pw_below_drewN | apply below_drew1 | refine below_set ?_ GE308.out) | exact HB.out))) : w.heap.size ≤ gb319)); have n7_ := Aside0.mk ((by rw [hg]; exact Nat.ne_of_lt (blk_lt (g := gb308) (o := .cells #[.int .i64 a0_0, .string a0_1, .string a0_2, .slice A0_3 l0_3.length c0_3, .slice A0_4 l0_4.length c0_4] 25 (0, 0)) (by (with_reducible repeat (first | refine blk_drewN ?_ _ | refine blk_drew ?_ | refine blk_alloc ?_ _)); exact BK308.out)) : gb308 ≠ gb319)); have n8_ := Aside0.mk ((by rw [hg]; exact Nat.ne_of_gt (blk_lt (g := gb308) (o := .cells #[.int .i64 a0_0, .string a0_1, .string a0_2, .slice A0_3 l0_3.length c0_3, .slice A0_4 l0_4.length c0_4] 25 (0, 0)) (by (with_reducible repeat (first | refine blk_drewN ?_ _ | refine blk_drew ?_ | refine blk_alloc ?_ _)); exact BK308.out)) : gb319 ≠ gb308)); clear HO314; clear HO317; clear BK308; clear HB; have HO314 := n0_; have HO317 := n1_; have BK308 := n2_; have HB := n3_; have BK319 := n4_; have GW319 := n5_; have GE319 := n6_; have NB308_319 := n7_; have NB319_308 := n8_; clear n0_ n1_ n2_ n3_ n4_ n5_ n6_ n7_ n8_; clear hb hbox hg; have hnb17 := NB319_308.out; have hnc17 := NB308_319.out; have hcz18_0 : w16.cell? ⟨gb319, 0, none⟩ = some (.int .i64 0) := (blk_cell BK319.out 0).trans rfl; have hcz18_1 : w16.cell? ⟨gb319, 1, none⟩ = some (.string (⟨#[]⟩ : ByteArray)) := (blk_cell BK319.out 1).trans rfl; have hcz18_2 : w16.cell? ⟨gb319, 2, none⟩ = some (.string (⟨#[]⟩ : ByteArray)) := (blk_cell BK319.out 2).trans rfl; have hcz18_3 : w16.cell? ⟨gb319, 3, none⟩ = some (.slice none 0 0) := (blk_cell BK319.out 3).trans rfl; have hcz18_4 : w16.cell? ⟨gb319, 4, none⟩ = some (.slice none 0 0) := (blk_cell BK319.out 4).trans rfl; have hfz18_0 := blk_frozen BK319.out 0; have hfz18_1 := blk_frozen BK319.out 1; have hfz18_2 := blk_frozen BK319.out 2; have hfz18_3 := blk_frozen BK319.out 3; have hfz18_4 := blk_frozen BK319.out 4; obtain ⟨Ao19, co19, eo19⟩ := Kd.V_slice HO314.out; subst eo19; obtain ⟨Ao20, co20, eo20⟩ := Kd.V_slice HO317.out; subst eo20))
    go_ret
    exact ⟨by first | rfl | (simp [errW_none, errW_some] <;> rfl) | (simp [*, errW_none, errW_some] <;> rfl), by repeat (first | (with_reducible first | exact HB.out | apply below_alloc | apply pw_below_drewN | apply below_drew1 | refine below_set ?_ GE308.out | refine below_set ?_ GE319.out) | exact HB.out)⟩

-- NOT PRINTED: function 78 (impl_guarded)

-- NOT PRINTED: function 80 (impl_told)

-- NOT PRINTED: function 50 (impl_changedAt)

-- NOT PRINTED: function 28 (impl_Replaced)
end Go.Proofs.Ytibfoaahdbdogaa.PDom

/- At29 as a plain function. (The first part of At29, without what speaks of neighbours.) -/
namespace Go.Proofs.Ytibfoaahdbdogaa.PDom
open Go.RowKit Go.Proofs.YtibfoaahdbdogaaW.PrintWords Go.Proofs.YtibfoaahdbdogaaW.PrintLast Go.Proofs.YtibfoaahdbdogaaW.PrintMore Go.Proofs.Ytibfoaahdbdogaa.Dom
set_option linter.unusedVariables false
set_option linter.unusedSimpArgs false

theorem fit_kid {t y : T} (h : Fit t) (hy : y ∈ t.f4) : Fit y := by
  obtain ⟨_, _, _, hk⟩ := h
  exact hk y hy
theorem fit_len {t : T} (h : Fit t) : t.f4.length ≤ 4398046510976 := by
  obtain ⟨_, _, hk, _⟩ := h
  exact hk
def atR (o : Option T) : Int × ByteArray × ByteArray × List S78 × List S25 × Bool := match o with
  | some u => (u.f0, u.f1, u.f2, u.f3, u.f4, true)
  | none => (0, ⟨#[]⟩, ⟨#[]⟩, [], [], false)
theorem at29_ev (path : List Int) (hl : path.length ≤ 4611686018427387904) (t : T) (ht : Fit t) : Ev (fun k => spec_At29.f k t.f0 t.f1 t.f2 t.f3 t.f4 path) (atR (atT t path)) := by
  have key : ∀ (n j : Nat), path.length = j + n → ∀ (t : T), Fit t → Ev (fun k => spec_At29.l0 k path (path.length : Int) (j : Int) t.f0 t.f1 t.f2 t.f3 t.f4) (atR (atT t (path.drop j))) := by
    intro n
    induction n with
    | zero =>
      intro j hj t ht
      rw [List.drop_eq_nil_of_le (by omega)]
      refine Ev.step (f := fun _ => some (atR (atT t []))) (fun k => ?_) (Ev.now _)
      simp only [spec_At29.l0]
      rw [if_neg (by omega)]
      rfl
    | succ n ih =>
      intro j hj t ht
      have hlt : j < path.length := by omega
      have hrd : rd path (j : Int) = path[j] := by simp [rd, List.getD_eq_getElem?_getD, List.getElem?_eq_getElem hlt]
      have hd : path.drop j = path[j] :: path.drop (j + 1) := List.drop_eq_getElem_cons hlt
      have hlen := fit_len ht
      rw [hd]
      by_cases h0 : path[j] < 0
      · refine Ev.step (f := fun _ => some (atR none)) (fun k => ?_) ?_
        · simp only [spec_At29.l0]
          rw [if_pos (by omega), if_pos (by omega), if_pos (by omega), hrd, if_pos h0]
          rfl
        · have e : atT t (path[j] :: path.drop (j + 1)) = none := by simp only [atT]; rw [if_neg (by omega)]
          rw [e]
          exact Ev.now _
      · by_cases h1 : path[j] ≥ (t.f4.length : Int)
        · refine Ev.step (f := fun _ => some (atR none)) (fun k => ?_) ?_
          · simp only [spec_At29.l0]
            rw [if_pos (by omega), if_pos (by omega), if_pos (by omega), hrd, if_neg h0, if_pos h1]
            rfl
          · have e : atT t (path[j] :: path.drop (j + 1)) = none := by
              simp only [atT]
              rw [if_pos (by omega), List.getElem?_eq_none (by omega)]
              rfl
            rw [e]
            exact Ev.now _
        · have hi : path[j].toNat < t.f4.length := by omega
          have hrt : rd_T25 t.f4 path[j] = t.f4[path[j].toNat] := by
            have := rd_at t.f4 hi
            rw [Int.toNat_of_nonneg (by omega)] at this
            exact this
          have e : atT t (path[j] :: path.drop (j + 1)) = atT t.f4[path[j].toNat] (path.drop (j + 1)) := by
            simp only [atT]
            rw [if_pos (by omega), List.getElem?_eq_getElem hi]
            rfl
          rw [e]
          refine Ev.step (f := fun k => spec_At29.l0 k path (path.length : Int) ((j + 1 : Nat) : Int) t.f4[path[j].toNat].f0 t.f4[path[j].toNat].f1 t.f4[path[j].toNat].f2 t.f4[path[j].toNat].f3 t.f4[path[j].toNat].f4) (fun k => ?_) (ih (j + 1) (by omega) _ (fit_kid ht (List.getElem_mem hi)))
          simp only [spec_At29.l0]
          rw [if_pos (by omega), if_pos (by omega), if_pos (by omega), hrd, if_neg h0, if_neg h1, if_pos (by omega), if_pos (by omega), succ_wrap j (by omega), hrt]
  have := key path.length 0 (by omega) t ht
  exact this
end Go.Proofs.Ytibfoaahdbdogaa.PDom

/- FnDomReplaced: the law's walk. -/
namespace Go.Proofs.Ytibfoaahdbdogaa.PDom
open Go.RowKit Go.Proofs.YtibfoaahdbdogaaW.PrintWords Go.Proofs.YtibfoaahdbdogaaW.PrintLast Go.Proofs.YtibfoaahdbdogaaW.PrintMore Go.Proofs.Ytibfoaahdbdogaa.Dom
set_option linter.unusedVariables false
set_option linter.unusedSimpArgs false

/-- below29 answers whether there is such a node, and it is not the root. -/
theorem below_ev (path : List Int) (hl : path.length ≤ 4611686018427387904) (t : T) (ht : Fit t) : Ev (fun k => laws_below29.f k t.f0 t.f1 t.f2 t.f3 t.f4 path) (decide (atT t path ≠ none ∧ path ≠ [])) := by
  refine Ev.congr (f := fun k => (spec_At29.f k t.f0 t.f1 t.f2 t.f3 t.f4 path).bind fun b => if b.2.2.2.2.2 = true then some (decide ((path.length : Int) > 0)) else some false) (fun k => by rw [laws_below29.f]) ?_
  refine Ev.bind (at29_ev path hl t ht) ?_
  cases h : atT t path with
  | none => simpa [atR] using Ev.now false
  | some u =>
    cases path with
    | nil => simpa [atR] using Ev.now false
    | cons a l => simpa [atR] using Ev.now true
abbrev aggT (t : T) (A3 : Option Addr) (c3 : Nat) (A4 : Option Addr) (c4 : Nat) : Value := .agg #[.int .i64 t.f0, .string t.f1, .string t.f2, .slice A3 t.f3.length c3, .slice A4 t.f4.length c4]
/-- A tree stands in a world. -/
structure Inn (w : World) (t : T) (A3 : Option Addr) (c3 : Nat) (A4 : Option Addr) (c4 : Nat) : Prop where
  h3 : Kd.C k78 w A3 t.f3.length t.f3
  l3 : t.f3.length ≤ c3
  h4 : Kd.C k25 w A4 t.f4.length t.f4
  l4 : t.f4.length ≤ c4
theorem Inn.below {w w1 : World} {t : T} {A3 : Option Addr} {c3 : Nat} {A4 : Option Addr} {c4 : Nat} (h : Inn w t A3 c3 A4 c4) (hb : Below w.heap.size w w1) : Inn w1 t A3 c3 A4 c4 := ⟨Kd.C_below h.h3 hb, h.l3, Kd.C_below h.h4 hb, h.l4⟩
theorem fits_of {w : World} {t : T} {A3 : Option Addr} {c3 : Nat} {A4 : Option Addr} {c4 : Nat} (h : Inn w t A3 c3 A4 c4) {b : Bool} (e : Ev (fun k => laws_zzFits2.f k t.f0 t.f1 t.f2 t.f3 t.f4) b) : Calls Try.prog 9 #[aggT t A3 c3 A4 c4] w fun e w' => e = .returned (.bool b) ∧ Below w.heap.size w w' := by
  obtain ⟨k, hk⟩ := e
  exact laws_zzFits2.calls k t.f0 t.f1 t.f2 A3 c3 t.f3 A4 c4 t.f4 b w h.h3 h.l3 h.h4 h.l4 (hk k (Nat.le_refl _))
theorem tree_of {w : World} {t : T} {A3 : Option Addr} {c3 : Nat} {A4 : Option Addr} {c4 : Nat} (h : Inn w t A3 c3 A4 c4) {b : Bool} (e : Ev (fun k => laws_tree29.f k t.f0 t.f1 t.f2 t.f3 t.f4) b) : Calls Try.prog 10 #[aggT t A3 c3 A4 c4] w fun e w' => e = .returned (.bool b) ∧ Below w.heap.size w w' := by
  obtain ⟨k, hk⟩ := e
  exact laws_tree29.calls k t.f0 t.f1 t.f2 A3 c3 t.f3 A4 c4 t.f4 b w h.h3 h.l3 h.h4 h.l4 (hk k (Nat.le_refl _))
theorem below_of {w : World} {t : T} {A3 : Option Addr} {c3 : Nat} {A4 : Option Addr} {c4 : Nat} (h : Inn w t A3 c3 A4 c4) {path : List Int} {A1 : Option Addr} {c1 : Nat} (h1 : (Kd.int .i64).C w A1 path.length path) (l1 : path.length ≤ c1) {b : Bool} (e : Ev (fun k => laws_below29.f k t.f0 t.f1 t.f2 t.f3 t.f4 path) b) : Calls Try.prog 27 #[aggT t A3 c3 A4 c4, .slice A1 path.length c1] w fun e w' => e = .returned (.bool b) ∧ Below w.heap.size w w' := by
  obtain ⟨k, hk⟩ := e
  exact laws_below29.calls k t.f0 t.f1 t.f2 A3 c3 t.f3 A4 c4 t.f4 A1 c1 path b w h.h3 h.l3 h.h4 h.l4 h1 l1 (hk k (Nat.le_refl _))
theorem equal_of {w : World} {t : T} {A3 : Option Addr} {c3 : Nat} {A4 : Option Addr} {c4 : Nat} (h : Inn w t A3 c3 A4 c4) {B3 : Option Addr} {d3 : Nat} {B4 : Option Addr} {d4 : Nat} (h2 : Inn w t B3 d3 B4 d4) (hs : Sml t) : Calls Try.prog 29 #[aggT t A3 c3 A4 c4, aggT t B3 d3 B4 d4] w fun e w' => e = .returned (.bool true) ∧ Below w.heap.size w w' := by
  obtain ⟨k, hk⟩ := equal_ev hs
  exact laws_equal29.calls k t.f0 t.f1 t.f2 A3 c3 t.f3 A4 c4 t.f4 t.f0 t.f1 t.f2 B3 d3 t.f3 B4 d4 t.f4 true w h.h3 h.l3 h.h4 h.l4 h2.h3 h2.l3 h2.h4 h2.l4 (hk k (Nat.le_refl _))
/-- Two boxes that stand, one behind the other. -/
structure Two (w wx : World) (c0 c1 : Array Value) : Prop where
  b : Below w.heap.size w wx
  k0 : wx.heap[w.heap.size]? = some (.cells c0 25 (0, 0))
  k1 : wx.heap[w.heap.size + 1]? = some (.cells c1 25 (0, 0))
theorem Two.step {w wx w' : World} {c0 c1 : Array Value} (h : Two w wx c0 c1) (hb : Below wx.heap.size wx w') : Two w w' c0 c1 :=
  ⟨below_step h.b hb, (hb.block _ (blk_lt h.k0)).trans h.k0, (hb.block _ (blk_lt h.k1)).trans h.k1⟩
theorem Two.start (w : World) (c0 c1 : Array Value) : Two w ((w.alloc (.cells c0 25)).alloc (.cells c1 25)) c0 c1 := by
  obtain ⟨_, h1, _, _⟩ := three_blocks w (.cells #[] 25) (.cells #[] 25) (.cells #[] 25)
  have e0 : (w.alloc (.cells c0 25)).heap[w.heap.size]? = some (.cells c0 25 (0, 0)) := heap_alloc_new w _
  have b0 : Below w.heap.size w (w.alloc (.cells c0 25)) := below_alloc (Below.refl _ _) _
  have b1 : Below (w.alloc (.cells c0 25)).heap.size (w.alloc (.cells c0 25)) ((w.alloc (.cells c0 25)).alloc (.cells c1 25)) := below_alloc (Below.refl _ _) _
  refine ⟨below_step b0 b1, (b1.block _ (blk_lt e0)).trans e0, ?_⟩
  have := heap_alloc_new (w.alloc (.cells c0 25)) (.cells c1 25)
  rwa [show (w.alloc (.cells c0 25)).heap.size = w.heap.size + 1 from by simp [congrArg Array.size (show (w.alloc (.cells c0 25)).heap = w.heap.push _ from rfl)]] at this
theorem one_C {w : World} {t : T} {A3 : Option Addr} {c3 : Nat} {A4 : Option Addr} {c4 : Nat} (h : Inn w t A3 c3 A4 c4) {b : Nat} (hb : w.heap[b]? = some (.cells #[.int .i64 t.f0, .string t.f1, .string t.f2, .slice A3 t.f3.length c3, .slice A4 t.f4.length c4] 25 (0, 0))) : Kd.C k25 w (some ⟨b, 0, none⟩) [t].length [t] :=
  ⟨rfl, by simp, fun _ => ⟨_, rfl, fun j p hj => by
    cases j with
    | succ j => simp at hj
    | zero =>
      have hp : t = p := by simpa using hj
      subst hp
      refine ⟨[.int .i64 t.f0, .string t.f1, .string t.f2, .slice A3 t.f3.length c3, .slice A4 t.f4.length c4], rfl, k25_mk w t h.l3 h.h3 h.l4 h.h4, fun i u hu => ?_⟩
      have e : (Addr.add ⟨b, 0, none⟩ (0 * k25.sz + i)) = ⟨b, i, none⟩ := by simp [Addr.add]; intro h; exact h.symm
      rw [e, blk_cell hb i]
      simpa using hu⟩⟩
set_option maxHeartbeats 1000000 in
set_option maxRecDepth 100000 in
theorem replaced_law (t tw : T) (ht : FitS t) (htw : FitS tw) (path : List Int) (hl : path.length ≤ 17592186044416) (w : World) (A3 : Option Addr) (c3 : Nat) (A4 : Option Addr) (c4 : Nat) (A1 : Option Addr) (c1 : Nat) (B3 : Option Addr) (d3 : Nat) (B4 : Option Addr) (d4 : Nat)
    (hi : Inn w t A3 c3 A4 c4) (h1 : (Kd.int .i64).C w A1 path.length path) (l1 : path.length ≤ c1) (hj : Inn w tw B3 d3 B4 d4) :
    Calls Try.prog 7 #[aggT t A3 c3 A4 c4, .slice A1 path.length c1, aggT tw B3 d3 B4 d4] w fun e w' => e = .returned (.bool true) ∧ Below w.heap.size w w' := by
  obtain ⟨b1, e1⟩ := fits2_ev t ht.fit
  obtain ⟨b2, e2⟩ := fits2_ev tw htw.fit
  obtain ⟨b3, e3⟩ := tree_ev t ht
  obtain ⟨b5, e5⟩ := tree_ev tw htw
  have e4 := below_ev path (by omega) t ht.fit
  have C1 := Aside0.mk (fun wx (hb : Below w.heap.size w wx) => fits_of (hi.below hb) e1)
  have C2 := Aside0.mk (fun wx (hb : Below w.heap.size w wx) => fits_of (hj.below hb) e2)
  have C3 := Aside0.mk (fun wx (hb : Below w.heap.size w wx) => tree_of (hi.below hb) e3)
  have C5 := Aside0.mk (fun wx (hb : Below w.heap.size w wx) => tree_of (hj.below hb) e5)
  have C4 := Aside0.mk (fun wx (hb : Below w.heap.size w wx) => below_of (hi.below hb) (Kd.C_below h1 hb) l1 e4)
  obtain ⟨b4, hb4⟩ : ∃ b, b = decide (atT t path ≠ none ∧ path ≠ []) := ⟨_, rfl⟩
  rw [← hb4] at C4
  have HH := Aside0.mk (Two.start w #[.int .i64 t.f0, .string t.f1, .string t.f2, .slice A3 t.f3.length c3, .slice A4 t.f4.length c4] #[.int .i64 tw.f0, .string tw.f1, .string tw.f2, .slice B3 tw.f3.length d3, .slice B4 tw.f4.length d4])
  simp only [aggT] at C1 C2 C3 C4 C5 ⊢
  have hkd : atT t path ≠ none → tw.f0 ≠ 0 ∨ tw.f0 = 0 := fun _ => by omega
  by_cases hx : b1 = true ∧ (path.length : Int) ≤ 2147483647 ∧ b2 = true ∧ b3 = true ∧ b4 = true ∧ b5 = true ∧ tw.f0 = 0
  case neg =>
    clear e1 e2 e3 e4 e5 hi hj ht htw h1 l1 hb4 hkd
    go_enter Try.func7, Try.ntmps7
    cases b1 with
    | false =>
      go_wp2_with ((first | (go_at_call 9; go_must (first | with_reducible refine (C1.out _ HH.out.b).mono ?_ | with_reducible refine (C2.out _ HH.out.b).mono ?_)) | (go_at_call 10; go_must (first | with_reducible refine (C3.out _ HH.out.b).mono ?_ | with_reducible refine (C5.out _ HH.out.b).mono ?_)) | (go_at_call 27; go_must (refine (C4.out _ HH.out.b).mono ?_))); rintro e w4 ⟨rfl, hb⟩; have n_ := Aside0.mk (HH.out.step hb); clear HH hb; have HH := n_; clear n_; (have r0 := blk_cell HH.out.k0 0; have r1 := blk_cell HH.out.k0 1; have r2 := blk_cell HH.out.k0 2; have r3 := blk_cell HH.out.k0 3; have r4 := blk_cell HH.out.k0 4; have s0 := blk_cell HH.out.k1 0; have s1 := blk_cell HH.out.k1 1; have s2 := blk_cell HH.out.k1 2; have s3 := blk_cell HH.out.k1 3; have s4 := blk_cell HH.out.k1 4))
      go_ret
      exact ⟨rfl, HH.out.b⟩
    | true =>
      by_cases hm : (path.length : Int) > 2147483647
      · go_wp2_with ((first | (go_at_call 9; go_must (first | with_reducible refine (C1.out _ HH.out.b).mono ?_ | with_reducible refine (C2.out _ HH.out.b).mono ?_)) | (go_at_call 10; go_must (first | with_reducible refine (C3.out _ HH.out.b).mono ?_ | with_reducible refine (C5.out _ HH.out.b).mono ?_)) | (go_at_call 27; go_must (refine (C4.out _ HH.out.b).mono ?_))); rintro e w4 ⟨rfl, hb⟩; have n_ := Aside0.mk (HH.out.step hb); clear HH hb; have HH := n_; clear n_; (have r0 := blk_cell HH.out.k0 0; have r1 := blk_cell HH.out.k0 1; have r2 := blk_cell HH.out.k0 2; have r3 := blk_cell HH.out.k0 3; have r4 := blk_cell HH.out.k0 4; have s0 := blk_cell HH.out.k1 0; have s1 := blk_cell HH.out.k1 1; have s2 := blk_cell HH.out.k1 2; have s3 := blk_cell HH.out.k1 3; have s4 := blk_cell HH.out.k1 4))
        go_ret
        exact ⟨rfl, HH.out.b⟩
      cases b2 with
      | false =>
        go_wp2_with ((first | (go_at_call 9; go_must (first | with_reducible refine (C1.out _ HH.out.b).mono ?_ | with_reducible refine (C2.out _ HH.out.b).mono ?_)) | (go_at_call 10; go_must (first | with_reducible refine (C3.out _ HH.out.b).mono ?_ | with_reducible refine (C5.out _ HH.out.b).mono ?_)) | (go_at_call 27; go_must (refine (C4.out _ HH.out.b).mono ?_))); rintro e w4 ⟨rfl, hb⟩; have n_ := Aside0.mk (HH.out.step hb); clear HH hb; have HH := n_; clear n_; (have r0 := blk_cell HH.out.k0 0; have r1 := blk_cell HH.out.k0 1; have r2 := blk_cell HH.out.k0 2; have r3 := blk_cell HH.out.k0 3; have r4 := blk_cell HH.out.k0 4; have s0 := blk_cell HH.out.k1 0; have s1 := blk_cell HH.out.k1 1; have s2 := blk_cell HH.out.k1 2; have s3 := blk_cell HH.out.k1 3; have s4 := blk_cell HH.out.k1 4))
        go_ret
        exact ⟨rfl, HH.out.b⟩
      | true =>
        cases b3 with
        | false =>
          go_wp2_with ((first | (go_at_call 9; go_must (first | with_reducible refine (C1.out _ HH.out.b).mono ?_ | with_reducible refine (C2.out _ HH.out.b).mono ?_)) | (go_at_call 10; go_must (first | with_reducible refine (C3.out _ HH.out.b).mono ?_ | with_reducible refine (C5.out _ HH.out.b).mono ?_)) | (go_at_call 27; go_must (refine (C4.out _ HH.out.b).mono ?_))); rintro e w4 ⟨rfl, hb⟩; have n_ := Aside0.mk (HH.out.step hb); clear HH hb; have HH := n_; clear n_; (have r0 := blk_cell HH.out.k0 0; have r1 := blk_cell HH.out.k0 1; have r2 := blk_cell HH.out.k0 2; have r3 := blk_cell HH.out.k0 3; have r4 := blk_cell HH.out.k0 4; have s0 := blk_cell HH.out.k1 0; have s1 := blk_cell HH.out.k1 1; have s2 := blk_cell HH.out.k1 2; have s3 := blk_cell HH.out.k1 3; have s4 := blk_cell HH.out.k1 4))
          go_ret
          exact ⟨rfl, HH.out.b⟩
        | true =>
          cases b4 with
          | false =>
            go_wp2_with ((first | (go_at_call 9; go_must (first | with_reducible refine (C1.out _ HH.out.b).mono ?_ | with_reducible refine (C2.out _ HH.out.b).mono ?_)) | (go_at_call 10; go_must (first | with_reducible refine (C3.out _ HH.out.b).mono ?_ | with_reducible refine (C5.out _ HH.out.b).mono ?_)) | (go_at_call 27; go_must (refine (C4.out _ HH.out.b).mono ?_))); rintro e w4 ⟨rfl, hb⟩; have n_ := Aside0.mk (HH.out.step hb); clear HH hb; have HH := n_; clear n_; (have r0 := blk_cell HH.out.k0 0; have r1 := blk_cell HH.out.k0 1; have r2 := blk_cell HH.out.k0 2; have r3 := blk_cell HH.out.k0 3; have r4 := blk_cell HH.out.k0 4; have s0 := blk_cell HH.out.k1 0; have s1 := blk_cell HH.out.k1 1; have s2 := blk_cell HH.out.k1 2; have s3 := blk_cell HH.out.k1 3; have s4 := blk_cell HH.out.k1 4))
            go_ret
            exact ⟨rfl, HH.out.b⟩
          | true =>
            cases b5 with
            | false =>
              go_wp2_with ((first | (go_at_call 9; go_must (first | with_reducible refine (C1.out _ HH.out.b).mono ?_ | with_reducible refine (C2.out _ HH.out.b).mono ?_)) | (go_at_call 10; go_must (first | with_reducible refine (C3.out _ HH.out.b).mono ?_ | with_reducible refine (C5.out _ HH.out.b).mono ?_)) | (go_at_call 27; go_must (refine (C4.out _ HH.out.b).mono ?_))); rintro e w4 ⟨rfl, hb⟩; have n_ := Aside0.mk (HH.out.step hb); clear HH hb; have HH := n_; clear n_; (have r0 := blk_cell HH.out.k0 0; have r1 := blk_cell HH.out.k0 1; have r2 := blk_cell HH.out.k0 2; have r3 := blk_cell HH.out.k0 3; have r4 := blk_cell HH.out.k0 4; have s0 := blk_cell HH.out.k1 0; have s1 := blk_cell HH.out.k1 1; have s2 := blk_cell HH.out.k1 2; have s3 := blk_cell HH.out.k1 3; have s4 := blk_cell HH.out.k1 4))
              go_ret
              exact ⟨rfl, HH.out.b⟩
            | true =>
              have hk0 : tw.f0 ≠ 0 := by intro h0; exact hx ⟨rfl, by omega, rfl, rfl, rfl, rfl, h0⟩
              go_wp2_with ((first | (go_at_call 9; go_must (first | with_reducible refine (C1.out _ HH.out.b).mono ?_ | with_reducible refine (C2.out _ HH.out.b).mono ?_)) | (go_at_call 10; go_must (first | with_reducible refine (C3.out _ HH.out.b).mono ?_ | with_reducible refine (C5.out _ HH.out.b).mono ?_)) | (go_at_call 27; go_must (refine (C4.out _ HH.out.b).mono ?_))); rintro e w4 ⟨rfl, hb⟩; have n_ := Aside0.mk (HH.out.step hb); clear HH hb; have HH := n_; clear n_; (have r0 := blk_cell HH.out.k0 0; have r1 := blk_cell HH.out.k0 1; have r2 := blk_cell HH.out.k0 2; have r3 := blk_cell HH.out.k0 3; have r4 := blk_cell HH.out.k0 4; have s0 := blk_cell HH.out.k1 0; have s1 := blk_cell HH.out.k1 1; have s2 := blk_cell HH.out.k1 2; have s3 := blk_cell HH.out.k1 3; have s4 := blk_cell HH.out.k1 4))
              go_ret
              exact ⟨rfl, HH.out.b⟩
  case pos =>
    obtain ⟨rfl, hm, rfl, rfl, rfl, rfl, hk0⟩ := hx
    obtain ⟨hat, hne⟩ := of_decide_eq_true hb4.symm
    obtain ⟨hn, hc, _⟩ := tree_norm ht.fit (show laws_tree29.f _ t.f0 t.f1 t.f2 t.f3 t.f4 = some true from e3.choose_spec _ (Nat.le_refl _))
    obtain ⟨hnw, hcw, _⟩ := tree_norm htw.fit (show laws_tree29.f _ tw.f0 tw.f1 tw.f2 tw.f3 tw.f4 = some true from e5.choose_spec _ (Nat.le_refl _))
    obtain ⟨j, hlast⟩ : ∃ j, path.getLast? = some j := by cases h : path.getLast? with | none => exact absurd (List.getLast?_eq_none_iff.1 h) hne | some j => exact ⟨j, rfl⟩
    have hs : Sml (putT t path [tw]) := sml_putT ht.fit (fun y hy => by rw [List.mem_singleton.1 hy]; exact fit_sml htw.fit) (by simp) path
    have HR := Aside0.mk (fun wx (hb : Below w.heap.size w wx) => replaced_calls t tw hn hnw ht.fit htw.fit hc hcw path j hlast hat wx A3 c3 A4 c4 A1 c1 B3 d3 B4 d4 (hi.below hb).h3 hi.l3 (hi.below hb).h4 hi.l4 (Kd.C_below h1 hb) (by omega) (hj.below hb).h3 hj.l3 (hj.below hb).h4 hj.l4)
    clear e1 e2 e3 e4 e5 hb4 hkd
    rw [hk0] at C2 C5 HH HR
    rw [hk0]
    go_enter Try.func7, Try.ntmps7
    go_wp2_with (first | ((first | (go_at_call 9; go_must (first | with_reducible refine (C1.out _ HH.out.b).mono ?_ | with_reducible refine (C2.out _ HH.out.b).mono ?_)) | (go_at_call 10; go_must (first | with_reducible refine (C3.out _ HH.out.b).mono ?_ | with_reducible refine (C5.out _ HH.out.b).mono ?_)) | (go_at_call 27; go_must (refine (C4.out _ HH.out.b).mono ?_))); rintro e w4 ⟨rfl, hb⟩; have n_ := Aside0.mk (HH.out.step hb); clear HH hb; have HH := n_; clear n_; (have r0 := blk_cell HH.out.k0 0; have r1 := blk_cell HH.out.k0 1; have r2 := blk_cell HH.out.k0 2; have r3 := blk_cell HH.out.k0 3; have r4 := blk_cell HH.out.k0 4; have s0 := blk_cell HH.out.k1 0; have s1 := blk_cell HH.out.k1 1; have s2 := blk_cell HH.out.k1 2; have s3 := blk_cell HH.out.k1 3; have s4 := blk_cell HH.out.k1 4)) | (go_at_call 28; go_must ((refine (HR.out _ HH.out.b).mono ?_); rintro e w4 ⟨A5, c5, A6, c6, rfl, m5, F5, m6, F6, hb⟩; have HM := Aside0.mk (show Inn w4 (putT t path [tw]) A5 c5 A6 c6 from ⟨Kd.F_now F5, m5, Kd.F_now F6, m6⟩); have n_ := Aside0.mk (HH.out.step hb); clear HH hb HR; have HH := n_; clear n_; (have r0 := blk_cell HH.out.k0 0; have r1 := blk_cell HH.out.k0 1; have r2 := blk_cell HH.out.k0 2; have r3 := blk_cell HH.out.k0 3; have r4 := blk_cell HH.out.k0 4; have s0 := blk_cell HH.out.k1 0; have s1 := blk_cell HH.out.k1 1; have s2 := blk_cell HH.out.k1 2; have s3 := blk_cell HH.out.k1 3; have s4 := blk_cell HH.out.k1 4))))
    have hwl : [tw].length ≤ 1000000 := by simp
    have HPT := Aside0.mk (fun (P : Nat → Prop) (wx : World) => put29_calls P [tw] hwl path t wx hne hat (by omega))
    have hu : ∃ u, u = putT t path [tw] := ⟨_, rfl⟩
    obtain ⟨u, hu⟩ := hu
    rw [← hu] at m5 m6 F5 F6 HM hs HPT
    simp only [← hu]
    clear hu F5 F6
    have HB5 := Aside0.mk (below_alloc (Below.refl w4.heap.size w4) (.cells #[.int .i64 u.f0, .string u.f1, .string u.f2, .slice A5 u.f3.length c5, .slice A6 u.f4.length c6] 25))
    have K7 := Aside0.mk (heap_alloc_new w4 (.cells #[.int .i64 u.f0, .string u.f1, .string u.f2, .slice A5 u.f3.length c5, .slice A6 u.f4.length c6] 25))
    generalize w4.alloc _ = w5 at HB5 K7 ⊢
    generalize w4.heap.size = b7 at K7 ⊢
    have HM5 := Aside0.mk (HM.out.below HB5.out)
    have HH5 := Aside0.mk (HH.out.step HB5.out)
    clear HH HM
    have HDW := Aside0.mk (below_drew (Below.refl w5.heap.size w5))
    have HH := Aside0.mk (HH5.out.step HDW.out)
    have Z := Aside0.mk ((HDW.out.block _ (blk_lt K7.out)).trans K7.out)
    (have r0 := blk_cell HH.out.k0 0; have r1 := blk_cell HH.out.k0 1; have r2 := blk_cell HH.out.k0 2; have r3 := blk_cell HH.out.k0 3; have r4 := blk_cell HH.out.k0 4; have s0 := blk_cell HH.out.k1 0; have s1 := blk_cell HH.out.k1 1; have s2 := blk_cell HH.out.k1 2; have s3 := blk_cell HH.out.k1 3; have s4 := blk_cell HH.out.k1 4)
    clear HH
    (have z0 := blk_cell Z.out 0; have z1 := blk_cell Z.out 1; have z2 := blk_cell Z.out 2; have z3 := blk_cell Z.out 3; have z4 := blk_cell Z.out 4)
    have HBA := Aside0.mk (below_step (below_alloc (Below.refl w5.heap.size w5) (.cells #[.int .i64 0, .string tw.f1, .string tw.f2, .slice B3 tw.f3.length d3, .slice B4 tw.f4.length d4] 25)) (below_drew (Below.refl _ _)))
    have KA := Aside0.mk (show (w5.alloc (.cells #[.int .i64 0, .string tw.f1, .string tw.f2, .slice B3 tw.f3.length d3, .slice B4 tw.f4.length d4] 25)).drew.heap[w5.heap.size]? = some (.cells #[.int .i64 tw.f0, .string tw.f1, .string tw.f2, .slice B3 tw.f3.length d3, .slice B4 tw.f4.length d4] 25 (0, 0)) from by rw [hk0]; exact heap_alloc_new w5 _)
    have hWA : ∃ WA, WA = (w5.alloc (.cells #[.int .i64 0, .string tw.f1, .string tw.f2, .slice B3 tw.f3.length d3, .slice B4 tw.f4.length d4] 25)).drew := ⟨_, rfl⟩
    obtain ⟨WA, hWA⟩ := hWA
    rw [← hWA] at HBA KA
    have HH := Aside0.mk (HH5.out.step HBA.out)
    have Z := Aside0.mk ((HBA.out.block _ (blk_lt K7.out)).trans K7.out)
    (have r0 := blk_cell HH.out.k0 0; have r1 := blk_cell HH.out.k0 1; have r2 := blk_cell HH.out.k0 2; have r3 := blk_cell HH.out.k0 3; have r4 := blk_cell HH.out.k0 4; have s0 := blk_cell HH.out.k1 0; have s1 := blk_cell HH.out.k1 1; have s2 := blk_cell HH.out.k1 2; have s3 := blk_cell HH.out.k1 3; have s4 := blk_cell HH.out.k1 4)
    (have z0 := blk_cell Z.out 0; have z1 := blk_cell Z.out 1; have z2 := blk_cell Z.out 2; have z3 := blk_cell Z.out 3; have z4 := blk_cell Z.out 4)
    have HIN := Aside0.mk (hi.below HH.out.b)
    have HIW := Aside0.mk (one_C (hj.below HH.out.b) KA.out)
    have HPUT := Aside0.mk (HPT.out (fun k => k < WA.heap.size) WA (fun _ h => h) A3 c3 A4 c4 A1 c1 (some ⟨w5.heap.size, 0, none⟩) 1 (Kd.C_F k78_heap HIN.out.h3) HIN.out.l3 (Kd.C_F k25_heap HIN.out.h4) HIN.out.l4 (Kd.C_below h1 HH.out.b) l1 (Kd.C_F k25_heap HIW.out) (by simp))
    have HMA := Aside0.mk (HM5.out.below HBA.out)
    clear HPT HIN HIW KA HM5 HH5 HB5 HBA
    subst hWA
    go_region_law (first
      | (go_simp; go_at_call 30; refine HPUT.out.mono ?_; rintro e w6 ⟨G3, g3, G4, g4, rfl, n3, X3, n4, X4, hb6⟩; have HQ := Aside0.mk (equal_of (HMA.out.below hb6) (show Inn w6 u G3 g3 G4 g4 from ⟨Kd.F_now X3, n3, Kd.F_now X4, n4⟩) hs); have n_ := Aside0.mk (HH.out.step hb6); clear HH; have HH := n_; clear n_; have n_ := Aside0.mk ((hb6.block _ (blk_lt Z.out)).trans Z.out); clear Z; have Z := n_; clear n_; (have r0 := blk_cell HH.out.k0 0; have r1 := blk_cell HH.out.k0 1; have r2 := blk_cell HH.out.k0 2; have r3 := blk_cell HH.out.k0 3; have r4 := blk_cell HH.out.k0 4; have s0 := blk_cell HH.out.k1 0; have s1 := blk_cell HH.out.k1 1; have s2 := blk_cell HH.out.k1 2; have s3 := blk_cell HH.out.k1 3; have s4 := blk_cell HH.out.k1 4); (have z0 := blk_cell Z.out 0; have z1 := blk_cell Z.out 1; have z2 := blk_cell Z.out 2; have z3 := blk_cell Z.out 3; have z4 := blk_cell Z.out 4); clear X3 X4 hb6 HPUT)
      | (go_simp; go_at_call 29; refine HQ.out.mono ?_; rintro e w7 ⟨rfl, hb7⟩; have n_ := Aside0.mk (HH.out.step hb7); clear HH; have HH := n_; clear n_ hb7 HQ))
    all_goals (simp only [Exit.inBlock, Exit.then]; go_wp2_with fail; go_ret; exact ⟨rfl, HH.out.b⟩)
end Go.Proofs.Ytibfoaahdbdogaa.PDom

/- FnDomReplaced: the walk in the shape that the row asks for. -/
namespace Go.Proofs.Ytibfoaahdbdogaa.PDom
open Go.RowKit Go.Proofs.YtibfoaahdbdogaaW.PrintWords Go.Proofs.YtibfoaahdbdogaaW.PrintLast Go.Proofs.YtibfoaahdbdogaaW.PrintMore Go.Proofs.Ytibfoaahdbdogaa.Dom
set_option linter.unusedVariables false
theorem row_calls_repl (t : T) (A3 : Option Addr) (c3 : Nat) (A4 : Option Addr) (c4 : Nat) (A1 : Option Addr) (c1 : Nat) (l1 : List Int) (tw : T) (B3 : Option Addr) (d3 : Nat) (B4 : Option Addr) (d4 : Nat) (w : World) (ht : FitS t) (h3 : Kd.C k78 w A3 t.f3.length t.f3) (l3 : t.f3.length ≤ c3) (h4 : Kd.C k25 w A4 t.f4.length t.f4) (l4 : t.f4.length ≤ c4)
    (hC : (Kd.int .i64).C w A1 l1.length l1) (hl : l1.length ≤ c1) (hB : l1.length * 8 ≤ 140737488351232) (hG : ∀ x ∈ l1, (Lit.int .i64 x).wf = true) (htw : FitS tw) (g3 : Kd.C k78 w B3 tw.f3.length tw.f3) (m3 : tw.f3.length ≤ d3) (g4 : Kd.C k25 w B4 tw.f4.length tw.f4) (m4 : tw.f4.length ≤ d4) :
    Calls Try.prog 7 #[.agg #[.int .i64 t.f0, .string t.f1, .string t.f2, .slice A3 t.f3.length c3, .slice A4 t.f4.length c4], .slice A1 l1.length c1, .agg #[.int .i64 tw.f0, .string tw.f1, .string tw.f2, .slice B3 tw.f3.length d3, .slice B4 tw.f4.length d4]] w fun e w' => e = .returned (.bool true) ∧ Below w.heap.size w w' :=
  replaced_law t tw ht htw l1 (by omega) w A3 c3 A4 c4 A1 c1 B3 d3 B4 d4 ⟨h3, l3, h4, l4⟩ hC hl ⟨g3, m3, g4, m4⟩
end Go.Proofs.Ytibfoaahdbdogaa.PDom

/- Arguments opened: what the reading of a datum says of memory, for texts, numbers, slices and structs, and how large they are. Each as large as a row's reach allows. -/
namespace Go.Proofs.Ytibfoaahdbdogaa.Open
open Go.RowKit Go.ChangeShapes Go.WideShapes Go.Proofs.YtibfoaahdbdogaaW.PrintWords Go.Proofs.YtibfoaahdbdogaaW.PrintLast Go.Proofs.YtibfoaahdbdogaaW.PrintMore

/-- A datum of type t that is read within the fuel tells a value of kind k in memory, and the value is Good. -/
def Opens {α : Type} (P : Program) (t : TypeId) (k : Kd α) (Good : α → Prop) (fuel : Nat) : Prop :=
  ∀ (H : Type) (enc : TypeId × Value → H) (W : World) (base : Nat) (spare : Nat → Bool) (held : Bool) (cs : List Value) (x : DataW H × List MemPlace),
    DataW.trod enc P W base spare held fuel t cs = some x → (∀ n ∈ x.1.weights P t, n ≤ reachBytes) → ∃ y, k.K W y cs ∧ Good y

theorem opens_string {P : Program} {t : TypeId} (ht : P.underlying t = some .string) (fuel : Nat) : Opens P t Kd.string (fun s => s.size ≤ 140737488351232) fuel := by
  intro H enc W base spare held cs x h hw
  obtain ⟨s, rfl, rfl, _⟩ := DataW.trod_string ht h
  refine ⟨s, rfl, ?_⟩
  have := hw s.data.toList.length (by simp [DataW.weights])
  rw [Array.length_toList] at this
  exact this
theorem opens_int {P : Program} {t : TypeId} {k : IntKind} (ht : P.underlying t = some (.int k)) (fuel : Nat) : Opens P t (Kd.int k) (fun n => (Lit.int k n).wf = true) fuel := by
  intro H enc W base spare held cs x h hw
  obtain ⟨n, rfl, rfl, hwf⟩ := DataW.trod_int ht h
  exact ⟨n, rfl, hwf⟩

theorem weights_all {H : Type} {P : Program} {e : TypeId} : ∀ {ds : List (DataW H)} {d : DataW H}, d ∈ ds → ∀ n ∈ d.weights P e, n ∈ DataW.weightsAll P e ds
  | d0 :: ds, d, hd, n, hn => by
    simp only [DataW.weightsAll, List.mem_append]
    rcases List.mem_cons.1 hd with rfl | hd
    · exact .inl hn
    · exact .inr (weights_all hd n hn)
theorem addr_add (a : Addr) (i j : Nat) : (a.add i).add j = a.add (i + j) := by
  unfold Addr.add
  by_cases h1 : i = 0 <;> by_cases h2 : j = 0 <;> simp [h1, h2, Nat.add_assoc]

theorem opens_slice {α : Type} {P : Program} {t e : TypeId} {k : Kd α} {Good : α → Prop} (ht : P.underlying t = some (.slice e)) (hc : P.cellsOf e = k.sz) {B : Nat} (hB : P.bytesOf e = B) (fuel : Nat) (he : ∀ n, n < fuel → Opens P e k Good n) :
    Opens P t (Kd.slice e k) (fun xs => xs.length * B ≤ 140737488351232 ∧ ∀ x ∈ xs, Good x) fuel := by
  intro H enc W base spare held cs x h hw
  rcases DataW.trod_slice ht h with ⟨rfl, rfl⟩ | ⟨a, len, cap, elems, rest, n, rfl, rfl, rfl, hb, hl, hm, hlen, hel, hsp, hns⟩
  · exact ⟨[], ⟨none, 0, rfl, Nat.le_refl _, Kd.C_nil _ _⟩, by simp, fun _ h => by cases h⟩
  · have hwt : (elems.length + rest.length) * B ≤ reachBytes := by
      refine hw _ ?_
      simp only [DataW.weights, ht, List.length_map, hB]
      exact List.mem_cons_self ..
    have each : ∀ i, i < len → ∃ y : α, Good y ∧ ∃ c : List Value, c.length = k.sz ∧ k.K W y c ∧ ∀ j u, c[j]? = some u → W.cell? (a.add (i * k.sz + j)) = some u := by
      intro i hi
      have h1 := hel i hi
      rw [hc, List.getElem?_eq_getElem (by omega)] at h1
      obtain ⟨c, hcs, hy⟩ := Option.bind_eq_some_iff.1 h1
      obtain ⟨_, hcl, hcc⟩ := World.cells?_some hcs
      obtain ⟨y, hK, hG⟩ := he n (by omega) H enc W base spare held c _ hy (fun q hq => hw q (by
        simp only [DataW.weights, ht, List.mem_cons, List.mem_append]
        exact .inr (.inl (weights_all (List.mem_map.2 ⟨elems[i], List.getElem_mem _, rfl⟩) q hq))))
      refine ⟨y, hG, c, hcl, hK, fun j u hu => ?_⟩
      have hj : j < k.sz := by have := (List.getElem?_eq_some_iff.1 hu).1; omega
      have h2 := hcc j hj
      rw [addr_add] at h2
      rw [h2]
      exact hu
    let ys : List α := List.ofFn fun i : Fin len => Classical.choose (each i i.isLt)
    have hyl : ys.length = len := List.length_ofFn
    have hyg : ∀ (i : Nat) (hi : i < len), ys[i]'(by omega) = Classical.choose (each i hi) := fun i hi => by simp [ys]
    refine ⟨ys, ⟨some a, cap, by rw [hyl], by omega, rfl, ?_, fun hp => ⟨a, rfl, fun j p hj => ?_⟩⟩, ?_, fun y hy => ?_⟩
    · rw [hyl]
      simp only [maxLen] at hm
      omega
    · obtain ⟨hjl, rfl⟩ := List.getElem?_eq_some_iff.1 hj
      have h1 := Classical.choose_spec (each j (by omega))
      rw [hyg j (by omega)]
      exact h1.2
    · rw [hyl]
      refine Nat.le_trans (Nat.mul_le_mul_right _ ?_) hwt
      omega
    · obtain ⟨i, hi, rfl⟩ := List.getElem_of_mem hy
      rw [hyg i (by omega)]
      exact (Classical.choose_spec (each i (by omega))).1

/-- Fields one behind the other, from the cell with number o on. -/
def OpensFs {β : Type} (P : Program) (fs : List Field) (o : Nat) (k : Kd β) (Good : β → Prop) (fuel : Nat) : Prop :=
  ∀ (H : Type) (enc : TypeId × Value → H) (W : World) (base : Nat) (spare : Nat → Bool) (held : Bool) (cs : List Value) (xs : List (DataW H × List MemPlace)), xs.length = fs.length →
    (∀ (i : Nat) (f : Field), fs[i]? = some f → DataW.trod enc P W base spare held fuel f.type ((cs.drop f.offset).take (P.cellsOf f.type)) = xs[i]?) →
    (∀ (i : Nat) (f : Field) (x : DataW H × List MemPlace), fs[i]? = some f → xs[i]? = some x → ∀ n ∈ x.1.weights P f.type, n ≤ reachBytes) → cs.length = o + k.sz → ∃ y, k.K W y (cs.drop o) ∧ Good y
theorem opens_last {β : Type} {P : Program} {f : Field} {o : Nat} {k : Kd β} {Good : β → Prop} {fuel : Nat} (ho : f.offset = o) (hc : P.cellsOf f.type = k.sz) (h : Opens P f.type k Good fuel) : OpensFs P [f] o k Good fuel := by
  intro H enc W base spare held cs xs hl hx hw hcs
  obtain ⟨x, rfl⟩ : ∃ x, xs = [x] := List.length_eq_one_iff.1 hl
  have h1 := hx 0 f rfl
  rw [ho, hc, List.take_of_length_le (by rw [List.length_drop]; omega)] at h1
  exact h H enc W base spare held _ x h1 (hw 0 f x rfl rfl)
theorem opens_cons {α β : Type} {P : Program} {f : Field} {fs : List Field} {o : Nat} {k : Kd α} {k2 : Kd β} {Good : α → Prop} {Good2 : β → Prop} {fuel : Nat} (ho : f.offset = o) (hc : P.cellsOf f.type = k.sz) (h : Opens P f.type k Good fuel) (h2 : OpensFs P fs (o + k.sz) k2 Good2 fuel) :
    OpensFs P (f :: fs) o (Kd.pair k k2) (fun y => Good y.1 ∧ Good2 y.2) fuel := by
  intro H enc W base spare held cs xs hl hx hw hcs
  cases xs with
  | nil => simp at hl
  | cons x xs =>
    have h1 := hx 0 f rfl
    rw [ho, hc] at h1
    obtain ⟨y1, hK1, hG1⟩ := h H enc W base spare held _ x h1 (hw 0 f x rfl rfl)
    have hsz : (Kd.pair k k2).sz = k.sz + k2.sz := rfl
    obtain ⟨y2, hK2, hG2⟩ := h2 H enc W base spare held cs xs (by simpa using hl) (fun i g hg => by have := hx (i + 1) g (by simpa using hg); simpa using this)
      (fun i g z hg hz => hw (i + 1) g z (by simpa using hg) (by simpa using hz)) (by omega)
    refine ⟨(y1, y2), ⟨(cs.drop o).take k.sz, cs.drop (o + k.sz), ?_, hK1, hK2⟩, hG1, hG2⟩
    rw [← List.drop_drop, List.take_append_drop]
theorem opens_struct {α β : Type} {P : Program} {t : TypeId} {fs : Array Field} {k : Kd β} {Good : β → Prop} {fuel : Nat} (ht : P.underlying t = some (.struct fs)) (hc : P.cellsOf t = k.sz) (f : α → β) (g : β → α) (hfg : ∀ y, f (g y) = y) (h : ∀ n, n < fuel → OpensFs P fs.toList 0 k Good n) :
    Opens P t (Kd.iso k f) (fun x => Good (f x)) fuel := by
  intro H enc W base spare held cs x hx hw
  obtain ⟨xs, n, rfl, rfl, hcl, hl, hf⟩ := DataW.trod_struct ht hx
  obtain ⟨y, hK, hG⟩ := h n (by omega) H enc W base spare held cs xs (by simpa using hl) (fun i g hg => hf i g (by simpa using hg)) (fun i q z hq hz m hm => hw m (by
    simp only [DataW.weights, ht]
    exact DataW.weights_mem_each (j := i) (t := q.type) (d := z.1) (by simp only [List.getElem?_map, hq]; rfl) (by simp only [List.getElem?_map, hz]; rfl) m hm)) (by omega)
  rw [List.drop_zero] at hK
  refine ⟨g y, ?_, by show Good (f (g y)); rw [hfg]; exact hG⟩
  show k.K W (f (g y)) cs
  rw [hfg]
  exact hK

/-- An argument of a law that is a slice: its value, what it reads as, how large. -/
theorem open_slice {α : Type} {P : Program} {t e : TypeId} {k : Kd α} {Good : α → Prop} {B : Nat} {H : Type} {enc : TypeId × Value → H} {W : World} {base : Nat} {spare : Nat → Bool} {held : Bool} {v : Value} {d : DataW H} {ps : List MemPlace} {ts : List TypeId} {ds : List (DataW H)} {j : Nat}
    (hO : ∀ fuel, Opens P t (Kd.slice e k) (fun xs => xs.length * B ≤ 140737488351232 ∧ ∀ x ∈ xs, Good x) fuel) (hd : DataW.Trod enc P W base spare held t v d ps)
    (hsz : (DataW.weightsEach P ts ds).all (· ≤ reachBytes) = true) (ht : ts[j]? = some t) (hdj : ds[j]? = some d) :
    ∃ (xs : List α) (A : Option Addr) (c : Nat), v.cells.toList = [.slice A xs.length c] ∧ xs.length ≤ c ∧ k.C W A xs.length xs ∧ xs.length * B ≤ 140737488351232 ∧ ∀ x ∈ xs, Good x := by
  obtain ⟨fuel, hf⟩ := hd
  obtain ⟨xs, ⟨A, c, hcs, hl, hC⟩, hB, hG⟩ := hO fuel H enc W base spare held _ _ hf (fun n hn => by
    have := List.all_eq_true.1 hsz n (DataW.weights_mem_each ht hdj n hn)
    simpa using this)
  exact ⟨xs, A, c, hcs, hl, hC, hB, hG⟩

end Go.Proofs.Ytibfoaahdbdogaa.Open

/- A tree that comes in as an argument: what it reads as in memory, and that it fits. -/
namespace Go.Proofs.Ytibfoaahdbdogaa.PDom
open Go.RowKit Go.ChangeShapes Go.WideShapes Go.Proofs.YtibfoaahdbdogaaW.PrintWords Go.Proofs.YtibfoaahdbdogaaW.PrintLast Go.Proofs.YtibfoaahdbdogaaW.PrintMore Go.Proofs.Ytibfoaahdbdogaa.Dom Go.Proofs.Ytibfoaahdbdogaa.Open
set_option linter.unusedVariables false
set_option linter.unusedSimpArgs false

theorem opens_attr (fuel : Nat) : Opens Try.prog 78 k78 (fun _ => True) fuel := by
  have h := opens_struct (α := S78) (fuel := fuel) Try.underlying78 (by kernel_rfl) (fun x : S78 => (x.f0, x.f1)) (fun y => ⟨y.1, y.2⟩) (fun _ => rfl)
    (fun n _ => opens_cons (P := Try.prog) (o := 0) rfl (by kernel_rfl) (opens_string Try.underlying9 n) (opens_last (o := 1) rfl (by kernel_rfl) (opens_string Try.underlying9 n)))
  intro H enc W base spare held cs x hx hw
  obtain ⟨y, hK, _⟩ := h H enc W base spare held cs x hx hw
  exact ⟨y, hK, trivial⟩
theorem opens_T (fuel : Nat) : Opens Try.prog 25 k25 FitS fuel := by
  induction fuel using Nat.strongRecOn with
  | _ fuel ih =>
    have h := opens_struct (α := T) (fuel := fuel) Try.underlying25 (by kernel_rfl) (fun x : T => (x.f0, x.f1, x.f2, x.f3, x.f4)) (fun y => ⟨y.1, y.2.1, y.2.2.1, y.2.2.2.1, y.2.2.2.2⟩) (fun _ => rfl)
      (fun n hn => opens_cons (P := Try.prog) (o := 0) rfl (by kernel_rfl) (opens_int (k := .i64) Try.underlying3 n)
        (opens_cons (o := 1) rfl (by kernel_rfl) (opens_string Try.underlying9 n) (opens_cons (o := 2) rfl (by kernel_rfl) (opens_string Try.underlying9 n)
          (opens_cons (o := 3) rfl (by kernel_rfl) (opens_slice (k := k78) Try.underlying22 (by kernel_rfl) (B := 32) (by kernel_rfl) n (fun m _ => opens_attr m))
            (opens_last (o := 4) rfl (by kernel_rfl) (opens_slice (k := k25) Try.underlying23 (by kernel_rfl) (B := 88) (by kernel_rfl) n (fun m hm => ih m (by omega))))))))
    intro H enc W base spare held cs x hx hw
    obtain ⟨y, hK, hG⟩ := h H enc W base spare held cs x hx hw
    obtain ⟨_, _, rfl, rfl, ⟨_, _, rfl, rfl, ⟨_, _, rfl, rfl, ⟨_, _, rfl, ⟨A3, c3, rfl, l3, g3⟩, ⟨A4, c4, rfl, l4, g4⟩⟩⟩⟩⟩ := hK
    obtain ⟨_, hn, _, ⟨ha, _⟩, ⟨hb, hy⟩⟩ := hG
    have ha2 : y.f3.length * 32 ≤ 140737488351232 := ha
    have hb2 : y.f4.length * 88 ≤ 140737488351232 := hb
    exact ⟨y, k25_mk W y l3 g3 l4 g4, FitS.mk y hn (by omega) (by omega) hy⟩
theorem open_T {H : Type} {enc : TypeId × Value → H} {W : World} {base : Nat} {spare : Nat → Bool} {held : Bool} {v : Value} {d : DataW H} {ps : List MemPlace} {ts : List TypeId} {ds : List (DataW H)} {j : Nat} {t : TypeId} (e : t = 25)
    (hd : DataW.Trod enc Try.prog W base spare held t v d ps) (hsz : (DataW.weightsEach Try.prog ts ds).all (· ≤ reachBytes) = true) (ht : ts[j]? = some t) (hdj : ds[j]? = some d) :
    ∃ (y : T) (A3 : Option Addr) (c3 : Nat) (A4 : Option Addr) (c4 : Nat), FitS y ∧ v.cells.toList = [.int .i64 y.f0, .string y.f1, .string y.f2, .slice A3 y.f3.length c3, .slice A4 y.f4.length c4] ∧ k78.C W A3 y.f3.length y.f3 ∧ y.f3.length ≤ c3 ∧ k25.C W A4 y.f4.length y.f4 ∧ y.f4.length ≤ c4 := by
  subst e
  obtain ⟨fuel, hf⟩ := hd
  obtain ⟨y, hK, hG⟩ := opens_T fuel H enc W base spare held _ _ hf (fun n hn => by
    have := List.all_eq_true.1 hsz n (DataW.weights_mem_each ht hdj n hn)
    simpa using this)
  obtain ⟨A3, c3, A4, c4, hcs, l3, g3, l4, g4⟩ := k25_open hK
  exact ⟨y, A3, c3, A4, c4, hG, hcs, g3, l3, g4, l4⟩
end Go.Proofs.Ytibfoaahdbdogaa.PDom

/- The row of the law FnDomReplaced, out of its walk. No further conditions. -/
namespace Go.Proofs.Ytibfoaahdbdogaa.fnDomReplaced
open Go.ChangeShapes Go.WideShapes Go.ChangeAt Go.RowKit
open Go.ChangeMaps (open_string shut_string)
open Go.Proofs.Ytibfoaahdbdogaa.PDom
set_option linter.unusedVariables false
theorem own : ownKnob Try.prog.godebug = none := by kernel_rfl
theorem laidOut : laidOutB Try.prog = true := by kernel_rfl
set_option maxRecDepth 100000 in
theorem lifted (os : Os) (started : os.Started) (H : Type) (enc : TypeId × Value → H) :
    ReturnsInHanded {} Try.checked os 7 .any (Rows.fnDomReplacedSpec.pre6 enc Try.prog Try.f7 Rows.fnDomReplacedRow.domain false) (Rows.fnDomReplacedSpec.post enc Try.prog Try.f7 false true false false) := by
  refine returnsInHanded_of_change_sized (C := Try.checked) own started (by kernel_rfl) Try.func7
    (ChangeSpec.witness6 (enc := enc) (C := Try.checked) false ⟨#[], #[.agg #[.int .i64 0, .string ByteArray.empty, .string ByteArray.empty, .slice none 0 0, .slice none 0 0], .slice none 0 0, .agg #[.int .i64 0, .string ByteArray.empty, .string ByteArray.empty, .slice none 0 0, .slice none 0 0]], []⟩ 8 (by kernel_rfl) (by kernel_rfl) (by kernel_rfl) (by kernel_rfl)) ?_
  intro W base args ds gs before hval0 hW hcnd hsz0 _
  have hsz : (DataW.weightsEach Try.prog (Try.f7.params.toList ++ Rows.fnDomReplacedSpec.plain.varTypes Try.prog) (ds ++ gs)).all (· ≤ reachBytes) = true := hsz0
  have hval : ∀ (j : Nat) t v, Try.f7.params[j]? = some t → args[j]? = some v → Value.okWide Try.prog W .any base t v := hval0
  have hW' := hW
  obtain ⟨p, q, hA0, hV, rfl, hfz, hnd⟩ := hW
  have hA : DataW.TrodAll enc Try.prog W 0 (fun _ => true) true Try.f7.params.toList args.toList ds p := hA0
  rw [Try.params7] at hA hval hsz
  obtain ⟨v0, vs0, d0, ds0, p0, q0, hargs, rfl, rfl, h0, r0⟩ := trodAll_cons hA
  obtain ⟨v1, vs1, d1, ds1, p1, q1, rfl, rfl, rfl, h1, r1⟩ := trodAll_cons r0
  obtain ⟨v2, vs2, d2, ds2, p2, q2, rfl, rfl, rfl, h2, r2⟩ := trodAll_cons r1
  obtain ⟨rfl, rfl, rfl⟩ := trodAll_nil r2
  obtain rfl : args = #[v0, v1, v2] := by cases args; simp_all
  obtain ⟨rfl, rfl⟩ := trodVars_none hV
  obtain ⟨cs0, rfl, hz0⟩ := okWide_struct Try.underlying25 (hval 0 25 v0 rfl rfl)
  have k0 := h0
  have lt0 : ∀ x ∈ p0, x.block < W.heap.size := by obtain ⟨m, hm⟩ := k0; exact DataW.trod_lt m _ _ _ hm
  obtain ⟨x0, A0, c0, B0, d_0, hF0, hcs0, hC0, hl0, hD0, hm0⟩ := open_T rfl h0 hsz (j := 0) (t := 25) rfl rfl
  obtain rfl : cs0 = #[.int .i64 x0.f0, .string x0.f1, .string x0.f2, .slice A0 x0.f3.length c0, .slice B0 x0.f4.length d_0] := by cases cs0; simpa [Value.cells] using hcs0
  obtain ⟨a1, len1, cap1, rfl⟩ := okWide_slice Try.underlying32 (hval 1 32 v1 rfl rfl)
  have k1 := h1
  have lt1 : ∀ x ∈ p1, x.block < W.heap.size := by obtain ⟨m, hm⟩ := k1; exact DataW.trod_lt m _ _ _ hm
  obtain ⟨x1, A1, c1, hcs1, hl1, hC1, hB1, hG1⟩ := Open.open_slice (fun fuel => (Open.opens_slice Try.underlying32 (by kernel_rfl) (B := 8) (by kernel_rfl) fuel (fun n4 _ => (Open.opens_int Try.underlying3 n4)))) h1 hsz (j := 1) (t := 32) rfl rfl
  obtain ⟨rfl, rfl, rfl⟩ : a1 = A1 ∧ len1 = x1.length ∧ cap1 = c1 := by simpa [Value.cells] using hcs1
  obtain ⟨cs2, rfl, hz2⟩ := okWide_struct Try.underlying25 (hval 2 25 v2 rfl rfl)
  have k2 := h2
  have lt2 : ∀ x ∈ p2, x.block < W.heap.size := by obtain ⟨m, hm⟩ := k2; exact DataW.trod_lt m _ _ _ hm
  obtain ⟨x2, A2, c2, B2, d_2, hF2, hcs2, hC2, hl2, hD2, hm2⟩ := open_T rfl h2 hsz (j := 2) (t := 25) rfl rfl
  obtain rfl : cs2 = #[.int .i64 x2.f0, .string x2.f1, .string x2.f2, .slice A2 x2.f3.length c2, .slice B2 x2.f4.length d_2] := by cases cs2; simpa [Value.cells] using hcs2
  clear hA0 hval0 hsz0
  refine (PDom.row_calls_repl x0 A0 c0 B0 d_0 a1 cap1 x1 x2 A2 c2 B2 d_2 W hF0 hC0 hl0 hD0 hm0 hC1 hl1 hB1 hG1 hF2 hC2 hl2 hD2 hm2).mono fun e W' ⟨he, bel⟩ => ?_
  subst he
  exact ⟨_, rfl, _, _, _, [], _, [], hW', trodAll_mk1 (shut_bool Try.underlying4 _), (trodAll_cons_mk (Below.trod laidOut (by kernel_rfl) (of_decide_eq_true (by kernel_rfl)) k0 bel lt0) (trodAll_cons_mk (Below.trod laidOut (by kernel_rfl) (of_decide_eq_true (by kernel_rfl)) k1 bel lt1) (trodAll_cons_mk (Below.trod laidOut (by kernel_rfl) (of_decide_eq_true (by kernel_rfl)) k2 bel lt2) trodAll_mk0))), rfl, bel.frame _, fun h => by cases h⟩
theorem over : Rows.fnDomReplacedRow.holds Try.pinned (OpenSpec.ofChange Rows.fnDomReplacedSpec) :=
  OpenClaim.holds_of_wide 7 Try.f7 rfl rfl rfl rfl rfl rfl rfl ⟨rfl, rfl, rfl, rfl, rfl⟩ rfl rfl rfl rfl rfl (by kernel_rfl) Try.func7 (by kernel_rfl)
    (of_decide_eq_true (by kernel_rfl)) (by unfold Func.isWrapper; first | (rw [if_pos (by decide +kernel)]; kernel_rfl) | (rw [if_neg (by decide +kernel)]; exact ⟨rfl, rfl⟩))
    (fun os started H enc _ => lifted os started H enc)
theorem proved : Rows.FnDomReplacedSaid := over
#print axioms proved
end Go.Proofs.Ytibfoaahdbdogaa.fnDomReplaced
namespace Go.Proofs.Ytibfoaahdbdogaa
/-- The row, under a short name, for the claim. -/
theorem fnDomReplaced_holds : Rows.FnDomReplacedSaid := fnDomReplaced.proved
end Go.Proofs.Ytibfoaahdbdogaa
